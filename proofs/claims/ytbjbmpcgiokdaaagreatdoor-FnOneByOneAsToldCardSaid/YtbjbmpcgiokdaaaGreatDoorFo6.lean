/-
  Texts of this proof, merged: WRf5, WRf6, Sp, WSp3, WRf7, WUp, Chn, WEq.
-/
import Derived.Test.YtbjbmpcgiokdaaaGreatDoorFo5
import Derived.Test.YtbjbmpcgiokdaaaGreatDoorFo4
set_option linter.unusedVariables false
set_option linter.unusedSimpArgs false
namespace Go.Eng
open Go Go.Proofs
set_option maxRecDepth 100000
section
variable {P : Program} {n : Nat} {K : Known}
def Ret3 (r s q : Nat) (R : Value → Frags → Prop) : Post := fun env L => ∃ u v x,get? env r = some u ∧ get? env s = some v ∧ get? env q = some x ∧ R (.tuple #[u,v,x]) L
theorem res3 {fn : Func} {R : Value → Frags → Prop} {t s q : Nat} (hr : fn.results = #[.tmp t,.tmp s,.tmp q]) : ∀ env' L' a w,Ret3 t s q R env' L' → Fits n env' a → Agree K L' w.heap → ∃ v,(results fn a.tmps).run P w = .ok v w ∧ R v L' :=
  fun _ _ a w ⟨u,v,x,hu,hv,hx,h⟩ f _ => ⟨.tuple #[u,v,x],by
    have e1 := f.val t u hu
    have e2 := f.val s v hv
    have e3 := f.val q x hx
    rw [Array.getD_eq_getD_getElem?] at e1 e2 e3
    simp [results,hr,e1,e2,e3],h⟩
end
def TabS (K : Known) (g : Nat) (l : List Nat) : Prop := ∃ b o c,cellAt K g 0 = some (.slice (some ⟨b,o,none⟩) l.length c) ∧ ∀ i,i < l.length → cellAt K b (o + i * 1) = some (.int .i64 ((l.getD i 0 : Nat) : Int))
structure SpT (K : Known) : Prop where
  order : TabS K 7 ordL
  sizes : TabS K 3 sizesL
  more : TabS K 4 moreL
  far : TabS K 5 farL
  further : TabS K 6 furL
section
variable {D : List UInt8} {p n x p2 : Nat} {ok : Bool}
theorem TakeR.le (h : TakeR D p n x ok p2) (hp : p ≤ 8 * D.length) : p ≤ p2 ∧ p2 ≤ 8 * D.length := by
  rcases h with ⟨_,h1,_,h2⟩ | ⟨_,h1,_,h2⟩ <;> (unfold left at h1; omega)
theorem TakeR.yes (h : TakeR D p n x ok p2) (hk : ok = true) : n ≤ left D p ∧ x = takeB D p n ∧ p2 = p + n := by
  rcases h with ⟨_,h1,h2,h3⟩ | ⟨h0,_⟩
  · exact ⟨h1,h2,h3⟩
  · rw [hk] at h0; cases h0
theorem TakeR.no (h : TakeR D p n x ok p2) (hk : ok = false) : left D p < n ∧ p2 = 8 * D.length := by
  rcases h with ⟨h0,_⟩ | ⟨_,h1,_,h3⟩
  · rw [hk] at h0; cases h0
  · exact ⟨h1,h3⟩
theorem TakeR.lt (h : TakeR D p n x ok p2) : x < 2 ^ n := by
  rcases h with ⟨_,_,h2,_⟩ | ⟨_,_,h2,_⟩
  · rw [h2]; exact Eo _ _ _
  · rw [h2]; exact Nat.pow_pos (by decide)
end
theorem take3 {D : List UInt8} {p a b c p1 p2 p3 : Nat} {k1 k2 k3 : Bool} (ha : TakeR D p 5 a k1 p1) (hb : TakeR D p1 5 b k2 p2) (hc : TakeR D p2 4 c k3 p3) :
    (k3 = true → ¬ left D p < 14 ∧ a = takeB D p 5 ∧ b = takeB D (p + 5) 5 ∧ c = takeB D (p + 10) 4 ∧ p3 = p + 14) ∧ (k3 = false → left D p < 14) := by
  have e : left D (8 * D.length) = 0 := by unfold left; omega
  rcases ha with ⟨rfl,ha1,ha2,rfl⟩ | ⟨rfl,ha1,ha2,rfl⟩
  · rcases hb with ⟨rfl,hb1,hb2,rfl⟩ | ⟨rfl,hb1,hb2,rfl⟩
    · rw [Gj] at hb1
      rcases hc with ⟨rfl,hc1,hc2,rfl⟩ | ⟨rfl,hc1,hc2,rfl⟩
      · rw [Gj,Gj] at hc1
        exact ⟨fun _ => ⟨by omega,ha2,hb2,by rw [hc2,Nat.add_assoc],by omega⟩,fun h => by cases h⟩
      · rw [Gj,Gj] at hc1
        exact ⟨fun h => (by cases h),fun _ => by omega⟩
    · rw [Gj] at hb1
      rcases hc with ⟨rfl,hc1,hc2,rfl⟩ | ⟨rfl,hc1,hc2,rfl⟩
      · omega
      · exact ⟨fun h => (by cases h),fun _ => by omega⟩
  · have hb1 : p2 = 8 * D.length := by
      rcases hb with ⟨rfl,hb1,hb2,rfl⟩ | ⟨rfl,hb1,hb2,rfl⟩
      · omega
      · rfl
    subst hb1
    rcases hc with ⟨rfl,hc1,hc2,rfl⟩ | ⟨rfl,hc1,hc2,rfl⟩
    · omega
    · exact ⟨fun h => (by cases h),fun _ => by omega⟩
theorem clL_zero (D : List UInt8) (p : Nat) : List.replicate 19 (Value.int .i64 0) = intsV (clL D p 0) := by
  symm; unfold clL intsV
  rw [List.map_map,List.eq_replicate_iff]
  refine ⟨by simp,fun v hv => ?_⟩
  obtain ⟨a,_,rfl⟩ := List.mem_map.1 hv
  simp
theorem clL_set {D : List UInt8} {p i : Nat} (hi : i < 19) : (intsV (clL D p i)).set (ordL.getD i 0 * 1) (.int .i64 ((takeB D (p + 3 * i) 3 : Nat) : Int)) = intsV (clL D p (i + 1)) := by
  obtain ⟨h1,h2⟩ := ord_idx i hi
  unfold clL intsV
  rw [List.map_map,List.map_map]
  refine map_set ?_ fun o ho hne => ?_
  · simp only [Function.comp]; rw [h1,if_pos (by omega)]
  · simp only [Function.comp]
    have h3 : ordL.idxOf o ≠ i := fun e => hne (by rw [← e,(idx_ord o ho).1])
    by_cases h4 : ordL.idxOf o < i
    · rw [if_pos h4,if_pos (by omega)]
    · rw [if_neg h4,if_neg (by omega)]
theorem Sl.form {s m : Nat} {v : Value} {xs : List Value} {Lf : Frags} (h : Sl s v m xs Lf) : ∃ a c,v = .slice a m c := by
  rcases h.2 with ⟨rfl,rfl,_⟩ | ⟨b,o,c,cs,rfl,_⟩
  · exact ⟨_,_,rfl⟩
  · exact ⟨_,_,rfl⟩
def LenR (dt : List UInt8) (rb : Nat) (ba : Option Addr) (bc p : Nat) (r : Value) (L : Frags) : Prop :=
  ∃ v1 v2 what p2,r = .tuple #[v1,v2,.int .i64 ((what : Nat) : Int)] ∧ p ≤ p2 ∧ p2 ≤ 8 * dt.length ∧
    ((what = 0 ∧ ∃ t ab ao ac rest,dynR dt p = some (t,p2) ∧ v1 = .slice (some ⟨ab,ao,none⟩) t.lit.length ac ∧ v2 = .slice (some ⟨ab,ao + t.lit.length,none⟩) t.dist.length (ac - t.lit.length) ∧ okLens t.lit ∧ okLens t.dist ∧ (∀ x ∈ t.lit,x ≤ 15) ∧ (∀ x ∈ t.dist,x ≤ 15) ∧ t.lit.length ≤ 286 ∧ t.dist.length ≤ 30 ∧ t.mn = max (minL t.lit) (lenOf t.lit 256) ∧
        L = [⟨rb,0,[.slice ba dt.length bc,.int .i64 (((p2) : Nat) : Int)]⟩,⟨ab,ao,intsV t.lit ++ []⟩,⟨ab,ao + t.lit.length,intsV t.dist ++ rest⟩]) ∨
     (what = 1 ∧ L = [⟨rb,0,[.slice ba dt.length bc,.int .i64 (((p2) : Nat) : Int)]⟩] ∧ (dynR dt p = none ∨ ∃ t p3,dynR dt p = some (t,p3) ∧ ∀ s,lenOf t.lit s = 0)) ∨ (what = 2 ∧ L = [⟨rb,0,[.slice ba dt.length bc,.int .i64 (((p2) : Nat) : Int)]⟩]))
set_option maxHeartbeats 1000000
theorem lengths_walk {K : Known} (rb : Nat) (ba : Option Addr) (bc : Nat) (dt : List UInt8) (hD : DB K ba dt) (hl : dt.length ≤ 65536) (hS : SpT K) (p : Nat) (hp : p ≤ 8 * dt.length) : Fn Tryz.prog K 48 #[.pointer (some ⟨rb,0,none⟩)] ([⟨rb,0,[.slice ba dt.length bc,.int .i64 (((p) : Nat) : Int)]⟩]) (fun r L => ∃ L2 J,Same L (L2 ++ J) ∧ LenR dt rb ba bc p r L2) := by
 refine Fn.intro (args:=[.pointer (some ⟨rb,0,none⟩)]) (RR:=Ret3 2 3 4 _) Tryz.func48 rfl rfl Tryz.ntmps48 (res3 Tryz.results48) ?_
 refine Bl (env2:=[(0,.pointer (some ⟨rb,0,none⟩))]) rfl<|Cr<|Ea rfl rfl<|Ea rfl rfl<|Ea rfl rfl<|Ek4 0 2 3 4 rfl<|Cr<|Em rfl rfl ?_
 refine Ak (OpX.pick [0] (F:=[]) rfl (Au rfl Tryz.call47 (Fg rb ba bc dt hD hl (p) 5 (hp) (by omega)))) rfl ?_; rintro _ _ ⟨_,⟨xa,k1,p1,rfl,rfl,hTa⟩,rfl⟩; refine Ab (L2:=[_]) rfl ?_
 refine Bt [0] rfl<|Ab (L2:=[_]) rfl<|Em rfl rfl<|Aa (Bb rfl rfl) rfl<|Aa (Bb rfl rfl) rfl<|Ea rfl rfl<|Ea rfl rfl<|Ek5 0 2 3 4 5 rfl<|Cr<|Em rfl rfl ?_
 refine Ak (OpX.pick [0] (F:=[]) rfl (Au rfl Tryz.call47 (Fg rb ba bc dt hD hl (p1) 5 ((hTa.le hp).2) (by omega)))) rfl ?_; rintro _ _ ⟨_,⟨xb,k2,p2,rfl,rfl,hTb⟩,rfl⟩; refine Ab (L2:=[_]) rfl ?_
 refine Bt [0] rfl<|Ab (L2:=[_]) rfl<|Em rfl rfl<|Aa (Bb rfl rfl) rfl<|Aa (Bb rfl rfl) rfl<|Ea rfl rfl<|Ea rfl rfl<|Ek6 0 2 3 4 5 7 rfl<|Cr<|Em rfl rfl ?_
 refine Ak (OpX.pick [0] (F:=[]) rfl (Au rfl Tryz.call47 (Fg rb ba bc dt hD hl (p2) 4 ((hTb.le (hTa.le hp).2).2) (by omega)))) rfl ?_; rintro _ _ ⟨_,⟨xc,k3,p3,rfl,rfl,hTc⟩,rfl⟩; refine Ab (L2:=[_]) rfl ?_
 refine Bt [0] rfl<|Ab (L2:=[_]) rfl<|Em rfl rfl<|Aa (Bb rfl rfl) rfl<|Aa (Bb rfl rfl) rfl<|Ea rfl rfl<|Ea rfl rfl<|Ek8 0 2 3 4 5 7 9 10 rfl ?_
 have hp1 := hTa.le hp
 have hp2 := hTb.le hp1.2
 have hp3 := hTc.le hp2.2
 have hla := hTa.lt
 have hlb := hTb.lt
 have hlc := hTc.lt
 have h3 := take3 hTa hTb hTc
 refine Ap<|Cr<|Em rfl rfl<|Aa (Fr rfl) rfl<|Em rfl rfl<|E.forkB (fun g41 => ?_) (fun g41 => ?_)
 ·refine Ag 41 true rfl rfl rfl rfl<|Ag 41 true rfl rfl rfl rfl<|Ag 41 true rfl rfl rfl rfl<|Aa (By rfl rfl) rfl<|Ek9 0 2 3 4 5 7 9 10 45 rfl<|Ft rfl (rfl)<|Cr<|Ea rfl rfl<|Ea rfl rfl<|Ea rfl rfl<|Ek9 0 2 3 4 5 7 9 10 45 rfl<|Av ?_
  exact ⟨_,_,_,rfl,rfl,rfl,[_],[],Same.perm (Bj (A:=[_]) (F:=[]) (is:=[0]) rfl),_,_,_,_,rfl,(by omega),(by omega),.inr (.inl ⟨rfl,rfl,.inl (dynR_14 (h3.2 (by simpa using g41)))⟩)⟩
 obtain ⟨h14,rfl,rfl,rfl,rfl⟩ := h3.1 (by simpa using g41)
 refine Aj 41 rfl rfl<|Em rfl rfl<|Aj 41 rfl rfl<|Aa (Bh (b:=((257 : Nat) : Int)) rfl rfl (N.add64 (by omega))) rfl<|Aj 41 rfl rfl<|Aa (Gg (b:=((286 : Nat) : Int)) rfl rfl) rfl<|Aa (Bs rfl rfl) rfl<|Ek9 0 2 3 4 5 7 9 10 45 rfl<|Be rfl (fun h45 => ?_) (fun h45 => ?_)
 ·refine Cr<|Ea rfl rfl<|Ea rfl rfl<|Ea rfl rfl<|Ek9 0 2 3 4 5 7 9 10 45 rfl<|Av ?_
  exact ⟨_,_,_,rfl,rfl,rfl,[_],[],Same.perm (Bj (A:=[_]) (F:=[]) (is:=[0]) rfl),_,_,_,_,rfl,(by omega),(by omega),.inr (.inl ⟨rfl,rfl,.inl (dynR_286 h14 (by omega))⟩)⟩
 have h286 : ¬ 286 < takeB dt p 5 + 257 := by omega
 refine Ar<|Ap<|Cr<|Em rfl rfl<|Aa (Bh (b:=((1 : Nat) : Int)) rfl rfl (N.add64 (by omega))) rfl<|Aa (Gg (b:=((30 : Nat) : Int)) rfl rfl) rfl<|Ek10 0 2 3 4 5 7 9 10 45 48 rfl<|Be rfl (fun h48 => ?_) (fun h48 => ?_)
 ·refine Cr<|Ea rfl rfl<|Ea rfl rfl<|Ea rfl rfl<|Ek10 0 2 3 4 5 7 9 10 45 48 rfl<|Av ?_
  exact ⟨_,_,_,rfl,rfl,rfl,[_],[],Same.perm (Bj (A:=[_]) (F:=[]) (is:=[0]) rfl),_,_,_,_,rfl,(by omega),(by omega),.inr (.inr ⟨rfl,rfl⟩)⟩
 have h30 : ¬ 30 < takeB dt (p + 5) 5 + 1 := by omega
 refine Ar<|Cr ?_
 refine Ak (X.make (l:=19) (c:=19) (bytes:=8) Tu23 infoI (z:=.int .i64 0) rfl rfl rfl rfl rfl rfl (Nat.le_refl _) (by omega) (by omega)) rfl ?_; rintro _ _ ⟨cb,rfl,rfl⟩; refine Ab (L2:=[_,_]) rfl ?_
 refine Ab (L2:=[⟨cb,0,intsV (clL dt (p + 14) (0))⟩,_]) (by rw [clL_zero dt (p + 14)])<|Ea rfl rfl<|Ek11 0 2 3 4 5 7 9 10 11 45 48 rfl<|Ap<|Cr<|Em rfl rfl<|Aa (Bh (b:=((4 : Nat) : Int)) rfl rfl (N.add64 (by omega))) rfl<|Em rfl rfl<|Ek13 0 2 3 4 5 7 9 10 11 45 48 51 52 rfl<|Ax ?_
 refine Bx (fun mm ee ll => ∃ (i : Nat),keeps ee [0,5,7,9,11,51,52] = some [(0,.pointer (some ⟨rb,0,none⟩)),(5,.int .i64 ((takeB dt p 5 : Nat) : Int)),(7,.int .i64 ((takeB dt (p + 5) 5 : Nat) : Int)),(9,.int .i64 ((takeB dt (p + 10) 4 : Nat) : Int)),(11,.slice (some ⟨cb,0,none⟩) 19 19),(51,.int .i64 ((takeB dt (p + 10) 4 + 4 : Nat) : Int)),(52,.int .i64 ((i : Nat) : Int))] ∧ ll = [⟨cb,0,intsV (clL dt (p + 14) (i))⟩,⟨rb,0,[.slice ba dt.length bc,.int .i64 (((p + 14 + 3 * i) : Nat) : Int)]⟩] ∧ (i ≤ takeB dt (p + 10) 4 + 4) ∧ (p + 14 + 3 * i ≤ 8 * dt.length) ∧ mm = takeB dt (p + 10) 4 + 4 - i) (_) ⟨0,rfl,rfl,by omega,by unfold left at h14; omega,rfl⟩ ?_
 rintro m0 _ _ ⟨i,hk0,rfl,hi,hpi,hm0⟩
 refine Ba _ hk0<|Cr<|Aa (Dk rfl rfl) rfl<|Ek8 0 5 7 9 11 51 52 53 rfl<|Ap<|Be rfl (fun h53 => ?_) (fun h53 => ?_)
 ·have hi19 : i < 19 := by omega
  have hoi := (ord_idx i hi19).2
  refine Ar<|Ap<|Ax<|Cr<|Em rfl rfl<|Ea rfl rfl<|Ek9 0 5 7 9 11 12 51 52 53 rfl<|Cr<|Em rfl rfl ?_
  refine Ak (OpX.pick [1] (F:=[_]) rfl (Au rfl Tryz.call47 (Fg rb ba bc dt hD hl (p + 14 + 3 * i) 3 (hpi) (by omega)))) rfl ?_; rintro _ _ ⟨_,⟨xn,okn,p4,rfl,rfl,hTn⟩,rfl⟩; refine Ab (L2:=[_,_]) rfl ?_
  refine Bt [1,0] rfl<|Ab (L2:=[_,_]) rfl<|Em rfl rfl<|Aa (Bb rfl rfl) rfl<|Aa (Bb rfl rfl) rfl<|Ea rfl rfl<|Ea rfl rfl<|Ek11 0 5 7 9 11 12 13 14 51 52 53 rfl ?_
  have hp4 := hTn.le hpi
  refine Ap<|Cr<|Em rfl rfl<|Aa (Fr rfl) rfl<|Ek12 0 5 7 9 11 12 13 14 51 52 53 61 rfl<|Fa rfl (fun h61 => ?_) (fun h61 => ?_)
  ·have hno := (hTn.no (by simpa using h61)).1
   refine Cr<|Ea rfl rfl<|Ea rfl rfl<|Ea rfl rfl<|Ek15 0 2 3 4 5 7 9 11 12 13 14 51 52 53 61 rfl<|Av ?_
   exact ⟨_,_,_,rfl,rfl,rfl,[_],[_],Same.perm (Bj (A:=[_]) (F:=[_]) (is:=[1]) rfl),_,_,_,_,rfl,(by omega),(by omega),.inr (.inl ⟨rfl,rfl,.inl (dynR_cl h14 h286 h30 (by rw [Gj] at hno; omega))⟩)⟩
  obtain ⟨hyes,rfl,rfl⟩ := hTn.yes (by simpa using h61)
  obtain ⟨ob,oo,oc,hord,hordc⟩ := hS.order
  have ho19 : ordL.length = 19 := rfl
  refine Ar<|Al<|Em rfl rfl<|Ah (Bd rfl hord Tryz.isAgg23) rfl<|Em rfl rfl<|Aa (Bw rfl rfl (by omega) Tu23 Tz3) rfl<|Ah (Bd rfl (hordc i hi19) Ta3) rfl<|Em rfl rfl<|Aa (Bw rfl rfl (by omega) Tu23 Tz3) rfl ?_
  refine Ao (Aq 0 (k:=ordL.getD i 0 * 1) rfl rfl rfl rfl (by rw [Nat.blt_eq,Dh,clL_len]; omega) Tz3) ?_
  rintro _ _ ⟨rfl,rfl⟩
  refine Ab (L2:=[⟨cb,0,intsV (clL dt (p + 14) ((i + 1)))⟩,⟨rb,0,[.slice ba dt.length bc,.int .i64 (((p + 14 + 3 * i + 3) : Nat) : Int)]⟩]) (congrArg (fun q => ([(⟨cb,0,q⟩ : Frag),⟨rb,0,[.slice ba dt.length bc,.int .i64 (((p + 14 + 3 * i + 3) : Nat) : Int)]⟩] : Frags)) (clL_set hi19))<|Ek12 0 5 7 9 11 12 13 14 51 52 53 61 rfl<|Al<|Aa (Bh (b:=((1 : Nat) : Int)) rfl rfl (N.add64 (by omega))) rfl<|Em rfl rfl<|Ek12 0 5 7 9 11 12 13 14 51 52 53 61 rfl ?_
  refine ⟨_,?_,i + 1,rfl,rfl,by omega,by omega,rfl⟩; omega
 have hiN : i = takeB dt (p + 10) 4 + 4 := by omega
 subst hiN
 have hcl3 : ¬ left dt (p + 14) < 3 * (takeB dt (p + 10) 4 + 4) := by unfold left; unfold left at h14; omega
 refine Bu rfl<|Ap<|Ap<|Bq (L2:=[⟨cb,0,intsV (clL dt (p + 14) (takeB dt (p + 10) 4 + 4)) ++ []⟩,_]) (by rw [List.append_nil])<|Al<|Em rfl rfl<|Am (v:=.slice (some ⟨cb,0,none⟩) (clL dt (p + 14) (takeB dt (p + 10) 4 + 4)).length 19) (Bo rfl (clL_len _ _ _).symm rfl) ?_
 refine Ak (OpX.pick [0] (F:=[_]) rfl (Au rfl Tryz.call65 (full_spec cb (0) (19) [] (clL dt (p + 14) (takeB dt (p + 10) 4 + 4)) (clL_le _ _ _) (by rw [clL_len]; decide)))) rfl ?_; rintro _ _ ⟨_,⟨rfl,rfl⟩,rfl⟩; refine Ab (L2:=[_,_]) rfl ?_
 refine Bt [0,0] rfl<|Ab (L2:=[_,_]) rfl<|Ea rfl rfl<|Ek9 0 5 7 9 11 15 51 52 53 rfl ?_
 have hfl := fullN_le (clL dt (p + 14) (takeB dt (p + 10) 4 + 4))
 refine Cr<|Em rfl rfl<|Aa (Dx (b:=((0 : Nat) : Int)) rfl rfl) rfl<|Em rfl rfl<|Ec (fun g74 => ?_) (fun g74 => ?_)
 ·have hz74 : dynR dt p = none := by
    have h0 := full_zero (l:=clL dt (p + 14) (takeB dt (p + 10) 4 + 4)) (by omega)
    rw [dynR_eq h14 h286 h30 hcl3,if_neg (fun h => h (Hu (by omega))),lensGo_none (by simp only [List.length_nil]; omega) (symR_of_none (findS_zero h0 _ _))]
  refine Ag 74 true rfl rfl rfl rfl<|Ag 74 true rfl rfl rfl rfl<|Aa (By rfl rfl) rfl<|Ek10 0 5 7 9 11 15 51 52 53 77 rfl<|Ft rfl (rfl)<|Cr<|Ea rfl rfl<|Ea rfl rfl<|Ea rfl rfl<|Ek13 0 2 3 4 5 7 9 11 15 51 52 53 77 rfl<|Av ?_
  exact ⟨_,_,_,rfl,rfl,rfl,[_],[_],Same.perm (Bj (A:=[_]) (F:=[_]) (is:=[1]) rfl),_,_,_,_,rfl,(by omega),(by omega),.inr (.inl ⟨rfl,rfl,.inl (hz74)⟩)⟩
 refine Aj 74 rfl rfl<|Em rfl rfl<|Aj 74 rfl rfl<|Aa (Gg (b:=((32768 : Nat) : Int)) rfl rfl) rfl<|Aa (Bs rfl rfl) rfl<|Ek10 0 5 7 9 11 15 51 52 53 77 rfl<|Be rfl (fun h77 => ?_) (fun h77 => ?_)
 ·have hz77 : dynR dt p = none := by rw [dynR_eq h14 h286 h30 hcl3,if_pos (not_ok_of_full (clL_le _ _ _) (by omega))]
  refine Cr<|Ea rfl rfl<|Ea rfl rfl<|Ea rfl rfl<|Ek13 0 2 3 4 5 7 9 11 15 51 52 53 77 rfl<|Av ?_
  exact ⟨_,_,_,rfl,rfl,rfl,[_],[_],Same.perm (Bj (A:=[_]) (F:=[_]) (is:=[1]) rfl),_,_,_,_,rfl,(by omega),(by omega),.inr (.inl ⟨rfl,rfl,.inl (hz77)⟩)⟩
 refine Cr<|Em rfl rfl<|Aa (Dk (b:=((32768 : Nat) : Int)) rfl rfl) rfl<|Ek11 0 5 7 9 11 15 51 52 53 77 79 rfl<|Be rfl (fun h79 => ?_) (fun h79 => ?_)
 ·refine Cr<|Ea rfl rfl<|Ea rfl rfl<|Ea rfl rfl<|Ek14 0 2 3 4 5 7 9 11 15 51 52 53 77 79 rfl<|Av ?_
  exact ⟨_,_,_,rfl,rfl,rfl,[_],[_],Same.perm (Bj (A:=[_]) (F:=[_]) (is:=[1]) rfl),_,_,_,_,rfl,(by omega),(by omega),.inr (.inr ⟨rfl,rfl⟩)⟩
 have hokc : okLens (clL dt (p + 14) (takeB dt (p + 10) 4 + 4)) := Gz (clL_le _ _ _) (by omega)
 have hdy := dynR_eq h14 h286 h30 hcl3
 rw [if_neg (fun h => h hokc)] at hdy
 refine Ar<|Cr<|Em rfl rfl<|Am (v:=.slice (some ⟨cb,0,none⟩) (clL dt (p + 14) (takeB dt (p + 10) 4 + 4)).length 19) (Bo rfl (clL_len _ _ _).symm rfl) ?_
 refine Ak (OpX.pick [0] (F:=[_]) rfl (Au rfl Tryz.call66 (tree_spec cb 0 19 [] (clL dt (p + 14) (takeB dt (p + 10) 4 + 4)) (clL_le _ _ _) (by rw [clL_len]; decide) hokc))) rfl ?_; rintro _ _ ⟨_,⟨tb,f,rfl,hTr,hfb,rfl⟩,rfl⟩; refine Ab (L2:=[_,_,_]) rfl ?_
 refine Ea rfl rfl<|Ek12 0 5 7 9 11 15 16 51 52 53 77 79 rfl<|Ap<|C.forget [2,0] (A:=[_,_]) (F:=[_]) rfl<|Al<|Ea rfl rfl<|Ek13 0 5 7 9 11 15 16 17 51 52 53 77 79 rfl<|Ap<|Ax ?_
 refine Bx (fun mm ee ll => ∃ (acc : List Nat),∃ (pp : Nat),∃ (aa : Option Addr),∃ (ac : Nat),∃ (La : Frags),keeps ee [0,5,7,16,17] = some [(0,.pointer (some ⟨rb,0,none⟩)),(5,.int .i64 ((takeB dt p 5 : Nat) : Int)),(7,.int .i64 ((takeB dt (p + 5) 5 : Nat) : Int)),(16,.slice (some ⟨tb,0,none⟩) (2 ^ (maxL (clL dt (p + 14) (takeB dt (p + 10) 4 + 4)) + 1)) (2 ^ (maxL (clL dt (p + 14) (takeB dt (p + 10) 4 + 4)) + 1))),(17,.slice aa acc.length ac)] ∧ ll = [⟨rb,0,[.slice ba dt.length bc,.int .i64 (((pp) : Nat) : Int)]⟩,⟨tb,0,cellsI (2 ^ (maxL (clL dt (p + 14) (takeB dt (p + 10) 4 + 4)) + 1)) f⟩] ++ La ∧ (lensGo dt (clL dt (p + 14) (takeB dt (p + 10) 4 + 4)) (takeB dt p 5 + 257 + (takeB dt (p + 5) 5 + 1)) [] (p + 14 + 3 * (takeB dt (p + 10) 4 + 4)) = lensGo dt (clL dt (p + 14) (takeB dt (p + 10) 4 + 4)) (takeB dt p 5 + 257 + (takeB dt (p + 5) 5 + 1)) acc pp) ∧ (p ≤ pp) ∧ (pp ≤ 8 * dt.length) ∧ (acc.length ≤ takeB dt p 5 + 257 + (takeB dt (p + 5) 5 + 1)) ∧ (∀ x ∈ acc,x ≤ 15) ∧ (Sl 1 (.slice aa acc.length ac) acc.length (intsV acc) La) ∧ mm = takeB dt p 5 + 257 + (takeB dt (p + 5) 5 + 1) - acc.length) (_) ⟨[],p + 14 + 3 * (takeB dt (p + 10) 4 + 4),none,0,[],rfl,rfl,rfl,by omega,by unfold left at h14 hcl3; omega,by simp,(fun x h => by cases h),Sl.nil 1,rfl⟩ ?_
 rintro m1 _ _ ⟨acc,pp,aa,ac,La,hk1,rfl,hgo,hpp1,hpp2,hal,ha15,hsl,hm1⟩
 refine Ba _ hk1<|Ap<|Cr<|Em rfl rfl<|Aa (Bk rfl Tu23) rfl<|Em rfl rfl<|Aa (Bh (b:=((257 : Nat) : Int)) rfl rfl (N.add64 (by omega))) rfl<|Em rfl rfl<|Aa (Bh rfl rfl (N.add64 (by omega))) rfl<|Aa (Bh (b:=((1 : Nat) : Int)) rfl rfl (N.add64 (by omega))) rfl<|Aa (Dk rfl rfl) rfl<|Ek6 0 5 7 16 17 89 rfl ?_
 refine Be rfl (fun h89 => ?_) (fun h89 => ?_)
 ·have haN : acc.length < takeB dt p 5 + 257 + (takeB dt (p + 5) 5 + 1) := by omega
  refine Ar<|Ax<|Cr<|Em rfl rfl<|Em rfl rfl ?_
  refine Ak (OpX.pick [0,0] (F:=(_)) rfl (Au rfl Tryz.call67 (symbol_spec rb ba bc dt hD hl pp hpp2 (clL dt (p + 14) (takeB dt (p + 10) 4 + 4)) hokc (clL_le _ _ _) (by rw [clL_len]; decide) tb f hTr hfb))) rfl ?_; rintro _ _ ⟨_,⟨z,p5,rfl,hp5a,hp5b,rfl,hSz⟩,rfl⟩; refine Ab (L2:=(_::_::_)) rfl ?_
  refine Bt [0,0] rfl<|Ab (L2:=(_::_::_)) rfl<|Ea rfl rfl<|Ek7 0 5 7 16 17 18 89 rfl<|Cr<|Em rfl rfl<|Ea rfl rfl<|Ea rfl rfl<|Ek9 0 5 7 16 17 18 19 20 89 rfl<|Cr<|Ea rfl rfl<|Ek10 0 5 7 16 17 18 19 20 21 89 rfl ?_
  refine Eg (M:=fun ee ll => ∃ (v : Nat),∃ (nn : Nat),∃ (lx : Nat),∃ (okb : Bool),∃ (p3 : Nat),∃ (La2 : Frags),keeps ee [0,5,7,16,17,19,20,21] = some [(0,.pointer (some ⟨rb,0,none⟩)),(5,.int .i64 ((takeB dt p 5 : Nat) : Int)),(7,.int .i64 ((takeB dt (p + 5) 5 : Nat) : Int)),(16,.slice (some ⟨tb,0,none⟩) (2 ^ (maxL (clL dt (p + 14) (takeB dt (p + 10) 4 + 4)) + 1)) (2 ^ (maxL (clL dt (p + 14) (takeB dt (p + 10) 4 + 4)) + 1))),(17,.slice aa acc.length ac),(19,.int .i64 ((nn : Nat) : Int)),(20,.int .i64 ((lx : Nat) : Int)),(21,.bool okb)] ∧ ll = [⟨rb,0,[.slice ba dt.length bc,.int .i64 (((p3) : Nat) : Int)]⟩,⟨tb,0,cellsI (2 ^ (maxL (clL dt (p + 14) (takeB dt (p + 10) 4 + 4)) + 1)) f⟩] ++ La2 ∧ (findS (clL dt (p + 14) (takeB dt (p + 10) 4 + 4)) (bitsAt dt pp) (left dt pp) = some v) ∧ ((v < 16 ∧ nn = 1 ∧ lx = v ∧ okb = true ∧ p3 = (pp + lenOf (clL dt (p + 14) (takeB dt (p + 10) 4 + 4)) v)) ∨ (16 ≤ v ∧ ¬ (v = 16 ∧ acc = []) ∧ ∃ x,TakeR dt (pp + lenOf (clL dt (p + 14) (takeB dt (p + 10) 4 + 4)) v) (repN v) x okb p3 ∧ nn = x + repB v ∧ lx = (if v = 16 then acc.getLastD 0 else 0))) ∧ (Sl 1 (.slice aa acc.length ac) acc.length (intsV acc) La2)) ?_ ?_
  ·refine Ax<|Cr<|Em rfl rfl<|Aa (Dk (b:=((0 : Nat) : Int)) rfl rfl) rfl<|Em rfl rfl<|Ec (fun g97 => ?_) (fun g97 => ?_)
   ·have hsn : symR (clL dt (p + 14) (takeB dt (p + 10) 4 + 4)) (minL (clL dt (p + 14) (takeB dt (p + 10) 4 + 4))) dt pp = none := by
      rw [symR_findS]
      rcases hSz with ⟨s,_,hz,_⟩ | ⟨h,_⟩
      · omega
      · exact h
    refine Ag 97 true rfl rfl rfl rfl<|Ag 97 true rfl rfl rfl rfl<|Ag 97 true rfl rfl rfl rfl<|Gd 100 rfl rfl rfl<|Gd 100 rfl rfl rfl<|Gd 100 rfl rfl rfl<|Ag 97 true rfl rfl rfl rfl<|Aa (By rfl rfl) rfl<|Ea rfl rfl<|Ek11 0 5 7 16 17 18 19 20 21 89 94 rfl<|Ft rfl (rfl)<|Cr ?_
    refine Ea rfl rfl<|Ea rfl rfl<|Ea rfl rfl<|Ek14 0 2 3 4 5 7 16 17 18 19 20 21 89 94 rfl<|Av ?_
    exact ⟨_,_,_,rfl,rfl,rfl,[_],_::_,Same.perm (Bj (A:=[_]) (F:=_::_) (is:=[0]) rfl),_,_,_,_,rfl,(by omega),(by omega),.inr (.inl ⟨rfl,rfl,.inl (hdy.trans (by rw [hgo,lensGo_none (by omega) hsn]))⟩)⟩
   obtain ⟨v,hs1,rfl,rfl⟩ := hSz.resolve_right (fun h => by omega)
   obtain ⟨hm1,hv0,hvl,hv19⟩ := findS_min hs1
   rw [clL_len] at hv19
   have hsy : symR (clL dt (p + 14) (takeB dt (p + 10) 4 + 4)) (minL (clL dt (p + 14) (takeB dt (p + 10) 4 + 4))) dt pp = some v := by rw [symR_findS]; exact hs1
   have hpe : (pp + lenOf (clL dt (p + 14) (takeB dt (p + 10) 4 + 4)) v) ≤ 8 * dt.length := by unfold left at hvl; omega
   refine Aj 97 rfl rfl<|Em rfl rfl<|Aj 97 rfl rfl<|Aa (Dx (b:=((16 : Nat) : Int)) rfl rfl) rfl<|Aj 97 rfl rfl<|Em rfl rfl<|Ec (fun g100 => ?_) (fun g100 => ?_)
   ·refine Aj 100 rfl rfl<|Em rfl rfl<|Aj 100 rfl rfl<|Aa (Bk rfl Tu23) rfl<|Aj 100 rfl rfl<|Aa (Dx (b:=((0 : Nat) : Int)) rfl rfl) rfl<|Aj 97 rfl rfl<|Aa (By rfl rfl) rfl<|Aa (Bs rfl rfl) rfl<|Ea rfl rfl<|Ek11 0 5 7 16 17 18 19 20 21 89 94 rfl<|Be rfl (fun h94 => ?_) (fun h94 => ?_)
    ·have hac : acc = [] := List.eq_nil_of_length_eq_zero (by omega)
     have hv : v = 16 := by omega
     rw [hv] at hsy
     refine Cr<|Ea rfl rfl<|Ea rfl rfl<|Ea rfl rfl<|Ek14 0 2 3 4 5 7 16 17 18 19 20 21 89 94 rfl<|Av ?_
     exact ⟨_,_,_,rfl,rfl,rfl,[_],_::_,Same.perm (Bj (A:=[_]) (F:=_::_) (is:=[0]) rfl),_,_,_,_,rfl,(by omega),(by omega),.inr (.inl ⟨rfl,rfl,.inl (hdy.trans (by rw [hgo,lensGo_empty (by omega) hsy hac]))⟩)⟩
    refine Cr<|Em rfl rfl<|Aa (Dx (b:=((16 : Nat) : Int)) rfl rfl) rfl<|Ea rfl rfl<|Ek12 0 5 7 16 17 18 19 20 21 89 94 106 rfl<|Be rfl (fun h106 => ?_) (fun h106 => ?_)
    ·have hv : v = 16 := by omega
     have hvc : findS (clL dt (p + 14) (takeB dt (p + 10) 4 + 4)) (bitsAt dt pp) (left dt pp) = some 16 := by rw [← hv]; exact hs1
     have hac : acc ≠ [] := fun h => by subst h; simp at h94
     obtain ⟨lb,lo,lc,ls,hav,rfl,hlc1,hlc2⟩ := hsl.ints (List.length_pos_iff.2 hac)
     obtain ⟨rfl,rfl⟩ : aa = some ⟨lb,lo,none⟩ ∧ ac = lc := by injection hav with h1 h2 h3; exact ⟨h1,h3⟩
     have ha1 : 0 < acc.length := List.length_pos_iff.2 hac
     refine Bq (L2:=[_,_,⟨lb,lo,intsV acc ++ ls⟩]) rfl<|Cr<|Em rfl rfl<|Em rfl rfl<|Aa (Bk rfl Tu23) rfl<|Aa (Du (b:=((1 : Nat) : Int)) rfl rfl (N.sub64 (by omega) (by omega))) rfl<|Aa (Bw rfl rfl (by omega) Tu23 Tz3) rfl<|Ah (An 2 (k:=(acc.length - 1) * 1) rfl rfl (last_get hac) Ta3) rfl<|Ea rfl rfl<|Ek12 0 5 7 16 17 18 19 20 21 89 94 106 rfl<|Cr<|Em rfl rfl ?_
     refine Ak (OpX.pick [0] (F:=[_,_]) rfl (Au rfl Tryz.call47 (Fg rb ba bc dt hD hl ((pp + lenOf (clL dt (p + 14) (takeB dt (p + 10) 4 + 4)) v)) 2 (hpe) (by omega)))) rfl ?_; rintro _ _ ⟨_,⟨x,okb,p3,rfl,rfl,hTk⟩,rfl⟩; refine Ab (L2:=[_,_,_]) rfl ?_
     refine Bt [0,0,0] rfl<|Ab (L2:=[_,_,_]) rfl<|Em rfl rfl<|Aa (Bb rfl rfl) rfl<|Aa (Bb rfl rfl) rfl<|Ea rfl rfl<|Ea rfl rfl<|Ek12 0 5 7 16 17 18 19 20 21 89 94 106 rfl ?_
     have hrn : repN v = 2 := by rw [hv]; rfl
     have hrb : repB v = 3 := by rw [hv]; rfl
     have hTk2 : TakeR dt (pp + lenOf (clL dt (p + 14) (takeB dt (p + 10) 4 + 4)) v) (repN v) x okb p3 := by rw [hrn]; exact hTk
     have hxlt := hTk.lt
     refine Al<|Em rfl rfl<|Aa (Bh (b:=((3 : Nat) : Int)) rfl rfl (N.add64 (by omega))) rfl<|Ea rfl rfl<|Ek12 0 5 7 16 17 18 19 20 21 89 94 106 rfl ?_
     exact ⟨v,_,_,_,_,[⟨lb,lo,intsV acc ++ ls⟩],rfl,rfl,hs1,.inr ⟨by omega,fun h => hac h.2,_,hTk2,by rw [hrb],by rw [if_pos hv]⟩,hsl⟩
    exact absurd g100 h106
   refine Ag 100 false rfl rfl rfl rfl<|Ag 100 false rfl rfl rfl rfl<|Ag 100 false rfl rfl rfl rfl<|Aj 97 rfl rfl<|Aa (Bs rfl rfl) rfl<|Aa (Bs rfl rfl) rfl<|Ea rfl rfl<|Ek11 0 5 7 16 17 18 19 20 21 89 94 rfl<|Gw rfl (rfl)<|Cr<|Em rfl rfl<|Aa (Dx (b:=((16 : Nat) : Int)) rfl rfl) rfl ?_
   refine Ea rfl rfl<|Ek12 0 5 7 16 17 18 19 20 21 89 94 106 rfl<|Be rfl (fun h106 => ?_) (fun h106 => ?_)
   ·exact absurd h106 g100
   refine Cr<|Em rfl rfl<|Aa (Dx (b:=((17 : Nat) : Int)) rfl rfl) rfl<|Ea rfl rfl<|Ek13 0 5 7 16 17 18 19 20 21 89 94 106 122 rfl<|Be rfl (fun h122 => ?_) (fun h122 => ?_)
   ·have hv : v = 17 := by omega
    refine Cr<|Ea rfl rfl<|Ek13 0 5 7 16 17 18 19 20 21 89 94 106 122 rfl<|Cr<|Em rfl rfl ?_
    refine Ak (OpX.pick [0] (F:=(_::_)) rfl (Au rfl Tryz.call47 (Fg rb ba bc dt hD hl ((pp + lenOf (clL dt (p + 14) (takeB dt (p + 10) 4 + 4)) v)) 3 (hpe) (by omega)))) rfl ?_; rintro _ _ ⟨_,⟨x,okb,p3,rfl,rfl,hTk⟩,rfl⟩; refine Ab (L2:=(_::_::_)) rfl ?_
    refine Bt [0,0] rfl<|Ab (L2:=(_::_::_)) rfl<|Em rfl rfl<|Aa (Bb rfl rfl) rfl<|Aa (Bb rfl rfl) rfl<|Ea rfl rfl<|Ea rfl rfl<|Ek13 0 5 7 16 17 18 19 20 21 89 94 106 122 rfl ?_
    have hrn : repN v = 3 := by rw [hv]; rfl
    have hrb : repB v = 3 := by rw [hv]; rfl
    have hTk2 : TakeR dt (pp + lenOf (clL dt (p + 14) (takeB dt (p + 10) 4 + 4)) v) (repN v) x okb p3 := by rw [hrn]; exact hTk
    have hxlt := hTk.lt
    refine Al<|Em rfl rfl<|Aa (Bh (b:=((3 : Nat) : Int)) rfl rfl (N.add64 (by omega))) rfl<|Ea rfl rfl<|Ek13 0 5 7 16 17 18 19 20 21 89 94 106 122 rfl ?_
    exact ⟨v,_,0,_,_,_,rfl,rfl,hs1,.inr ⟨by omega,fun h => by omega,_,hTk2,by rw [hrb],by rw [if_neg (by omega)]⟩,hsl⟩
   refine Cr<|Em rfl rfl<|Aa (Dx (b:=((18 : Nat) : Int)) rfl rfl) rfl<|Ea rfl rfl<|Ek14 0 5 7 16 17 18 19 20 21 89 94 106 122 132 rfl<|Be rfl (fun h132 => ?_) (fun h132 => ?_)
   ·have hv : v = 18 := by omega
    refine Cr<|Ea rfl rfl<|Ek14 0 5 7 16 17 18 19 20 21 89 94 106 122 132 rfl<|Cr<|Em rfl rfl ?_
    refine Ak (OpX.pick [0] (F:=(_::_)) rfl (Au rfl Tryz.call47 (Fg rb ba bc dt hD hl ((pp + lenOf (clL dt (p + 14) (takeB dt (p + 10) 4 + 4)) v)) 7 (hpe) (by omega)))) rfl ?_; rintro _ _ ⟨_,⟨x,okb,p3,rfl,rfl,hTk⟩,rfl⟩; refine Ab (L2:=(_::_::_)) rfl ?_
    refine Bt [0,0] rfl<|Ab (L2:=(_::_::_)) rfl<|Em rfl rfl<|Aa (Bb rfl rfl) rfl<|Aa (Bb rfl rfl) rfl<|Ea rfl rfl<|Ea rfl rfl<|Ek14 0 5 7 16 17 18 19 20 21 89 94 106 122 132 rfl ?_
    have hrn : repN v = 7 := by rw [hv]; rfl
    have hrb : repB v = 11 := by rw [hv]; rfl
    have hTk2 : TakeR dt (pp + lenOf (clL dt (p + 14) (takeB dt (p + 10) 4 + 4)) v) (repN v) x okb p3 := by rw [hrn]; exact hTk
    have hxlt := hTk.lt
    refine Al<|Em rfl rfl<|Aa (Bh (b:=((11 : Nat) : Int)) rfl rfl (N.add64 (by omega))) rfl<|Ea rfl rfl<|Ek14 0 5 7 16 17 18 19 20 21 89 94 106 122 132 rfl ?_
    exact ⟨v,_,0,_,_,_,rfl,rfl,hs1,.inr ⟨by omega,fun h => by omega,_,hTk2,by rw [hrb],by rw [if_neg (by omega)]⟩,hsl⟩
   have hv : v < 16 := by omega
   refine Ar ?_
   exact ⟨v,1,v,true,_,_,rfl,rfl,hs1,.inl ⟨hv,rfl,rfl,rfl,rfl⟩,hsl⟩
  rintro _ _ ⟨v,nn,lx,okb,p3,La2,hq42,rfl,hs1,hq,hLa⟩
  refine Ba _ hq42 ?_
  obtain ⟨hm1,hv0,hvl,hv19⟩ := findS_min hs1
  rw [clL_len] at hv19
  have hsy : symR (clL dt (p + 14) (takeB dt (p + 10) 4 + 4)) (minL (clL dt (p + 14) (takeB dt (p + 10) 4 + 4))) dt pp = some v := by rw [symR_findS]; exact hs1
  have hpe : (pp + lenOf (clL dt (p + 14) (takeB dt (p + 10) 4 + 4)) v) ≤ 8 * dt.length := by unfold left at hvl; omega
  have hp3 : p ≤ p3 ∧ p3 ≤ 8 * dt.length := by
    rcases hq with ⟨_,_,_,_,rfl⟩ | ⟨_,_,x,hTk,_,_⟩
    · omega
    · have := hTk.le hpe; omega
  have hnnb : nn ≤ 200 := by
    rcases hq with ⟨_,h,_⟩ | ⟨h16,_,x,hTk,h,_⟩
    · omega
    · have := hTk.lt
      obtain ⟨r1,r2⟩ := rep_facts h16
      have h2r : 2 ^ repN v ≤ 2 ^ 7 := Nat.pow_le_pow_right (by omega) r1
      omega
  refine Ap<|Cr<|Em rfl rfl<|Aa (Fr rfl) rfl<|Em rfl rfl<|E.forkB (fun g144 => ?_) (fun g144 => ?_)
  ·have hz144 : dynR dt p = none := by
     rcases hq with ⟨_,_,_,hk,_⟩ | ⟨hv16,hne,x,hTk,_,_⟩
     · rw [hk] at g144; cases g144
     · exact hdy.trans (by rw [hgo,lensGo_short (by omega) hsy hv16 hne (hTk.no (by simpa using g144)).1])
   refine Ag 144 true rfl rfl rfl rfl<|Ag 144 true rfl rfl rfl rfl<|Ag 144 true rfl rfl rfl rfl<|Ag 144 true rfl rfl rfl rfl<|Ag 144 true rfl rfl rfl rfl<|Ag 144 true rfl rfl rfl rfl<|Ag 144 true rfl rfl rfl rfl<|Ag 144 true rfl rfl rfl rfl<|Ag 144 true rfl rfl rfl rfl<|Ag 144 true rfl rfl rfl rfl<|Aa (By rfl rfl) rfl<|Ek9 0 5 7 16 17 19 20 21 155 rfl ?_
   refine Ft rfl (rfl)<|Cr<|Ea rfl rfl<|Ea rfl rfl<|Ea rfl rfl<|Ek12 0 2 3 4 5 7 16 17 19 20 21 155 rfl<|Av ?_
   exact ⟨_,_,_,rfl,rfl,rfl,[_],_::_,Same.perm (Bj (A:=[_]) (F:=_::_) (is:=[0]) rfl),_,_,_,_,rfl,(by omega),(by omega),.inr (.inl ⟨rfl,rfl,.inl (hz144)⟩)⟩
  refine Aj 144 rfl rfl<|Em rfl rfl<|Aj 144 rfl rfl<|Aa (Bk rfl Tu23) rfl<|Aj 144 rfl rfl<|Em rfl rfl<|Aj 144 rfl rfl<|Aa (Bh rfl rfl (N.add64 (by omega))) rfl<|Aj 144 rfl rfl<|Em rfl rfl<|Aj 144 rfl rfl<|Aa (Bh (b:=((257 : Nat) : Int)) rfl rfl (N.add64 (by omega))) rfl ?_
  refine Aj 144 rfl rfl<|Em rfl rfl<|Aj 144 rfl rfl<|Aa (Bh rfl rfl (N.add64 (by omega))) rfl<|Aj 144 rfl rfl<|Aa (Bh (b:=((1 : Nat) : Int)) rfl rfl (N.add64 (by omega))) rfl<|Aj 144 rfl rfl<|Aa (Gg rfl rfl) rfl<|Aa (Bs rfl rfl) rfl<|Ek9 0 5 7 16 17 19 20 21 155 rfl<|Be rfl (fun h155 => ?_) (fun h155 => ?_)
  ·have hz155 : dynR dt p = none := by
     rcases hq with ⟨_,hk,_⟩ | ⟨hv16,hne,x,hTk,hx,_⟩
     · exfalso; omega
     · obtain ⟨hy1,hy2,_⟩ := hTk.yes (by simpa using g144)
       exact hdy.trans (by rw [hgo,lensGo_over (by omega) hsy hv16 hne (by omega) (by omega)])
   refine Cr<|Ea rfl rfl<|Ea rfl rfl<|Ea rfl rfl<|Ek12 0 2 3 4 5 7 16 17 19 20 21 155 rfl<|Av ?_
   exact ⟨_,_,_,rfl,rfl,rfl,[_],_::_,Same.perm (Bj (A:=[_]) (F:=_::_) (is:=[0]) rfl),_,_,_,_,rfl,(by omega),(by omega),.inr (.inl ⟨rfl,rfl,.inl (hz155)⟩)⟩
  have hnn : acc.length + nn ≤ takeB dt p 5 + 257 + (takeB dt (p + 5) 5 + 1) := by omega
  have hgo2 : lensGo dt (clL dt (p + 14) (takeB dt (p + 10) 4 + 4)) (takeB dt p 5 + 257 + (takeB dt (p + 5) 5 + 1)) [] (p + 14 + 3 * (takeB dt (p + 10) 4 + 4)) = lensGo dt (clL dt (p + 14) (takeB dt (p + 10) 4 + 4)) (takeB dt p 5 + 257 + (takeB dt (p + 5) 5 + 1)) (acc ++ List.replicate nn lx) p3 := by
    rcases hq with ⟨hv,rfl,rfl,_,rfl⟩ | ⟨hv16,hne,x,hTk,hx,hlx⟩
    · exact hgo.trans (lensGo_lit haN hsy hv)
    · obtain ⟨hy1,hy2,hy3⟩ := hTk.yes (by simpa using g144)
      subst hy2 hy3
      have hnn2 : nn = repB v + takeB dt (pp + lenOf (clL dt (p + 14) (takeB dt (p + 10) 4 + 4)) v) (repN v) := by omega
      rw [hgo,lensGo_rep haN hsy hv16 hne (by omega) (by omega),hnn2,hlx]
  have hlx15 : lx ≤ 15 := by
    rcases hq with ⟨_,_,rfl,_,_⟩ | ⟨_,_,x,_,_,hlx⟩
    · omega
    · rw [hlx]; exact last_le ha15 v
  refine Ar<|Cr<|Em rfl rfl<|Em rfl rfl<|Ek11 0 5 7 16 17 19 20 21 155 156 157 rfl<|Ax<|Bx (fun mm ee ll => ∃ (j : Nat),∃ (al : List Nat),∃ (ba2 : Option Addr),∃ (bc2 : Nat),∃ (La2 : Frags),keeps ee [0,5,7,16,17,20,156,157] = some [(0,.pointer (some ⟨rb,0,none⟩)),(5,.int .i64 ((takeB dt p 5 : Nat) : Int)),(7,.int .i64 ((takeB dt (p + 5) 5 : Nat) : Int)),(16,.slice (some ⟨tb,0,none⟩) (2 ^ (maxL (clL dt (p + 14) (takeB dt (p + 10) 4 + 4)) + 1)) (2 ^ (maxL (clL dt (p + 14) (takeB dt (p + 10) 4 + 4)) + 1))),(17,.slice ba2 al.length bc2),(20,.int .i64 ((lx : Nat) : Int)),(156,.int .i64 ((nn : Nat) : Int)),(157,.int .i64 ((j : Nat) : Int))] ∧ ll = [⟨rb,0,[.slice ba dt.length bc,.int .i64 (((p3) : Nat) : Int)]⟩,⟨tb,0,cellsI (2 ^ (maxL (clL dt (p + 14) (takeB dt (p + 10) 4 + 4)) + 1)) f⟩] ++ La2 ∧ (j ≤ nn) ∧ (al = acc ++ List.replicate j lx) ∧ (Sl 1 (.slice ba2 al.length bc2) al.length (intsV al) La2) ∧ mm = nn - j) (_) ⟨0,acc,aa,ac,_,rfl,rfl,by omega,by simp,hLa,rfl⟩ ?_
  rintro m2 _ _ ⟨j,al,ba2,bc2,La2,hk2,rfl,hj,hal2,hsl3,hm2⟩
  refine Ba _ hk2<|Cr<|Aa (Dk rfl rfl) rfl<|Ek9 0 5 7 16 17 20 156 157 158 rfl<|Ap<|Be rfl (fun h158 => ?_) (fun h158 => ?_)
  ·have hall : al.length = acc.length + j := by rw [hal2,List.length_append,List.length_replicate]
   refine Ar<|Ap<|Ax<|Al<|Em rfl rfl<|Em rfl rfl ?_
   refine Ak (Dd (vs:=[.int .i64 ((lx : Nat) : Int)]) (e:=3) [(0,.int .i64 ((lx : Nat) : Int))] rfl (fun w => by simp [Instr.buildSlice,Instr.fill,Value.cells,newRow,Tryz.runUnderlying23,Tryz.typeInfo3]; rw [arr1])) rfl ?_
   rintro _ _ ⟨yb,rfl,rfl⟩
   refine Ab (L2:=[⟨yb,0,_⟩,_,_] ++ La2) rfl<|Eb (Same.perm List.perm_append_comm) ?_
   refine Ak (Gu (L:=[⟨yb,0,_⟩,_,_]) (xs:=al) (ys:=[lx]) (Lf:=La2) rfl rfl hsl3 rfl (.inr ⟨yb,0,rfl,Reads.mem (k:=0) (List.mem_append_right _ (.head _)) rfl⟩) (by simp only [List.length_cons,List.length_nil]; omega)) rfl ?_
   rintro v2 _ ⟨La3,hsl4,rfl⟩
   refine Fw (A:=[_,_] ++ La3) (F:=[_]) (Same.perm app_perm)<|Ab (L2:=_::_::La3) rfl ?_
   obtain ⟨ba3,bc3,rfl⟩ := hsl4.form
   refine Ea rfl rfl<|Ek9 0 5 7 16 17 20 156 157 158 rfl<|Al<|Aa (Bh (b:=((1 : Nat) : Int)) rfl rfl (N.add64 (by omega))) rfl<|Em rfl rfl<|Ek9 0 5 7 16 17 20 156 157 158 rfl ?_
   refine ⟨_,?_,j + 1,al ++ [lx],_,_,_,rfl,rfl,by omega,(by rw [hal2,List.append_assoc,← List.replicate_succ']),hsl4,rfl⟩; omega
  have hjn : j = nn := by omega
  subst hjn
  have hall : al.length = acc.length + j := by rw [hal2,List.length_append,List.length_replicate]
  have hgo3 := hgo2
  rw [← hal2] at hgo3
  have hal15 : ∀ x ∈ al,x ≤ 15 := fun x hx => by
    rw [hal2] at hx
    rcases List.mem_append.1 hx with h | h
    · exact ha15 x h
    · rw [(List.mem_replicate.1 h).2]; exact hlx15
  have hnn1 : 0 < j := by
    rcases hq with ⟨_,h,_⟩ | ⟨h16,_,x,_,h,_⟩
    · omega
    · have : 0 < repB v := by unfold repB; split <;> omega
      omega
  refine Bu rfl ?_
  refine ⟨_,?_,al,p3,_,_,_,rfl,rfl,hgo3,hp3.1,hp3.2,by omega,hal15,hsl3,rfl⟩; omega
 have haN : acc.length = takeB dt p 5 + 257 + (takeB dt (p + 5) 5 + 1) := by omega
 rw [hgo,lensGo_done (by omega)] at hdy
 simp only at hdy
 have htl : (acc.take (takeB dt p 5 + 257)).length = takeB dt p 5 + 257 := by rw [List.length_take]; omega
 have hdl : (acc.drop (takeB dt p 5 + 257)).length = takeB dt (p + 5) 5 + 1 := by rw [List.length_drop]; omega
 have hl15 : ∀ x ∈ acc.take (takeB dt p 5 + 257),x ≤ 15 := fun x h => ha15 x (List.mem_of_mem_take h)
 have hd15 : ∀ x ∈ acc.drop (takeB dt p 5 + 257),x ≤ 15 := fun x h => ha15 x (List.mem_of_mem_drop h)
 have hfl := fullN_le (acc.take (takeB dt p 5 + 257))
 have hfd := fullN_le (acc.drop (takeB dt p 5 + 257))
 obtain ⟨ab,ao,ac2,rest,hav,rfl,hc1,hc2⟩ := hsl.ints (by omega)
 obtain ⟨rfl,rfl⟩ : aa = some ⟨ab,ao,none⟩ ∧ ac = ac2 := by injection hav with h1 h2 h3; exact ⟨h1,h3⟩
 refine Bq (L2:=[_,_,⟨ab,ao,intsV acc ++ rest⟩]) rfl<|Bu rfl<|Ap<|Br [0,0,2,5,0,0,32,80,15,511] (.pure 0 246 (.pure 1 241 (.pure 2 243 (.pure 3 247 (.pure 4 367 (.pure 5 287 (.pure 6 319 (.pure 7 383 (.pure 8 255 (.pure 9 511 .done)))))))))) mixed (by decide +kernel)<|Dm rfl rfl rfl<|Dm rfl rfl rfl<|Ai rfl (Bh (b:=((257 : Nat) : Int)) rfl rfl (N.add64 (by omega))) rfl<|Ai rfl (S.slH rfl rfl (by omega) Tu23 Tz3) rfl<|Dn (v:=.slice (some ⟨ab,ao,none⟩) (acc.take (takeB dt p 5 + 257)).length ac) (Bo rfl htl.symm rfl)<|Dm rfl rfl rfl<|Dm rfl rfl rfl<|Ai rfl (Bh (b:=((257 : Nat) : Int)) rfl rfl (N.add64 (by omega))) rfl ?_
 refine Ai rfl (S.slL rfl rfl (by omega) Tu23 Tz3) rfl ?_
 refine Dn (v:=.slice (some ⟨ab,ao + (takeB dt p 5 + 257),none⟩) (acc.drop (takeB dt p 5 + 257)).length (ac - (takeB dt p 5 + 257))) (Bo (by rw [part,if_neg (by omega)]; omega) (by rw [hdl]; omega) rfl) ?_
 refine Ai rfl (Bc rfl) rfl<|Ai rfl (Bc rfl) rfl<|Dk8 0 2 3 5 7 16 17 89 rfl ?_
 refine Ez (Same.splitAt (L:=[_,_,⟨ab,ao,intsV acc ++ rest⟩]) (F:=[_,_]) (xs:=intsV (acc.take (takeB dt p 5 + 257)) ++ []) (ys:=intsV (acc.drop (takeB dt p 5 + 257)) ++ rest) (o' := ao + (takeB dt p 5 + 257)) (k:=takeB dt p 5 + 257) 2 rfl rfl (by rw [List.append_nil,← List.append_assoc,← intsV_append,List.take_append_drop]) (by rw [List.append_nil,Dh]; exact htl) rfl) ?_
 refine Bq (L2:=[⟨ab,ao,intsV (acc.take (takeB dt p 5 + 257)) ++ []⟩,⟨ab,ao + (takeB dt p 5 + 257),intsV (acc.drop (takeB dt p 5 + 257)) ++ rest⟩,_,_]) rfl<|Ap<|Cr<|Em rfl rfl ?_
 refine Ak (OpX.pick [0] (F:=[_,_,_]) rfl (Au rfl Tryz.call65 (full_spec ab (ao) (ac) [] (acc.take (takeB dt p 5 + 257)) (hl15) (by omega)))) rfl ?_; rintro _ _ ⟨_,⟨rfl,rfl⟩,rfl⟩; refine Ab (L2:=[_,_,_,_]) rfl ?_
 refine Bt [0,0,0,0] rfl<|Ab (L2:=[_,_,_,_]) rfl<|Ea rfl rfl<|Ek9 0 2 3 5 7 16 17 22 89 rfl<|Cr<|Em rfl rfl<|Aa (Dx (b:=((0 : Nat) : Int)) rfl rfl) rfl<|Em rfl rfl<|Ec (fun g176 => ?_) (fun g176 => ?_)
 ·have hz176 : dynR dt p = none ∨ ∃ t p3,dynR dt p = some (t,p3) ∧ ∀ s,lenOf t.lit s = 0 := by
    rw [hdy]
    split
    · exact .inr ⟨_,_,rfl,full_zero (show fullN (acc.take (takeB dt p 5 + 257)) = 0 by omega)⟩
    · exact .inl rfl
  refine Ag 176 true rfl rfl rfl rfl<|Ag 176 true rfl rfl rfl rfl<|Aa (By rfl rfl) rfl<|Ek10 0 2 3 5 7 16 17 22 89 179 rfl<|Ft rfl (rfl)<|Cr<|Ea rfl rfl<|Ea rfl rfl<|Ea rfl rfl<|Ek11 0 2 3 4 5 7 16 17 22 89 179 rfl<|Av ?_
  exact ⟨_,_,_,rfl,rfl,rfl,[_],[_,_,_],Same.perm (Bj (A:=[_]) (F:=[_,_,_]) (is:=[2]) rfl),_,_,_,_,rfl,(by omega),(by omega),.inr (.inl ⟨rfl,rfl,hz176⟩)⟩
 refine Aj 176 rfl rfl<|Em rfl rfl<|Aj 176 rfl rfl<|Aa (Gg (b:=((32768 : Nat) : Int)) rfl rfl) rfl<|Aa (Bs rfl rfl) rfl<|Ek10 0 2 3 5 7 16 17 22 89 179 rfl<|Be rfl (fun h179 => ?_) (fun h179 => ?_)
 ·have hz179 : dynR dt p = none := by rw [hdy,if_neg (fun h => not_ok_of_full hl15 (by omega) h.1)]
  refine Cr<|Ea rfl rfl<|Ea rfl rfl<|Ea rfl rfl<|Ek11 0 2 3 4 5 7 16 17 22 89 179 rfl<|Av ?_
  exact ⟨_,_,_,rfl,rfl,rfl,[_],[_,_,_],Same.perm (Bj (A:=[_]) (F:=[_,_,_]) (is:=[2]) rfl),_,_,_,_,rfl,(by omega),(by omega),.inr (.inl ⟨rfl,rfl,.inl (hz179)⟩)⟩
 refine Cr<|Em rfl rfl<|Aa (Dk (b:=((32768 : Nat) : Int)) rfl rfl) rfl<|Ek11 0 2 3 5 7 16 17 22 89 179 181 rfl<|Be rfl (fun h181 => ?_) (fun h181 => ?_)
 ·refine Cr<|Ea rfl rfl<|Ea rfl rfl<|Ea rfl rfl<|Ek12 0 2 3 4 5 7 16 17 22 89 179 181 rfl<|Av ?_
  exact ⟨_,_,_,rfl,rfl,rfl,[_],[_,_,_],Same.perm (Bj (A:=[_]) (F:=[_,_,_]) (is:=[2]) rfl),_,_,_,_,rfl,(by omega),(by omega),.inr (.inr ⟨rfl,rfl⟩)⟩
 have hok1 : okLens (acc.take (takeB dt p 5 + 257)) := Gz hl15 (by omega)
 refine Ar<|Eg (M:=fun ee ll => keeps ee [2,3] = some [(2,.slice (some ⟨ab,ao,none⟩) (acc.take (takeB dt p 5 + 257)).length ac),(3,.slice (some ⟨ab,ao + (takeB dt p 5 + 257),none⟩) (acc.drop (takeB dt p 5 + 257)).length (ac - (takeB dt p 5 + 257)))] ∧ ll = [⟨ab,ao,intsV (acc.take (takeB dt p 5 + 257)) ++ []⟩,⟨ab,ao + (takeB dt p 5 + 257),intsV (acc.drop (takeB dt p 5 + 257)) ++ rest⟩,⟨rb,0,[.slice ba dt.length bc,.int .i64 (((pp) : Nat) : Int)]⟩,⟨tb,0,cellsI (2 ^ (maxL (clL dt (p + 14) (takeB dt (p + 10) 4 + 4)) + 1)) f⟩] ∧ (okLens (acc.drop (takeB dt p 5 + 257)))) ?_ ?_
 ·refine Cr<|Em rfl rfl ?_
  refine Ak (OpX.pick [1] (F:=[_,_,_]) rfl (Au rfl Tryz.call65 (full_spec ab (ao + (takeB dt p 5 + 257)) (ac - (takeB dt p 5 + 257)) rest (acc.drop (takeB dt p 5 + 257)) (hd15) (by omega)))) rfl ?_; rintro _ _ ⟨_,⟨rfl,rfl⟩,rfl⟩; refine Ab (L2:=[_,_,_,_]) rfl ?_
  refine Bt [1,0,0,0] rfl<|Ab (L2:=[_,_,_,_]) rfl<|Ea rfl rfl<|Ek12 0 2 3 5 7 16 17 22 23 89 179 181 rfl<|Ax<|Cr<|Em rfl rfl<|Aa (Gg (b:=((32768 : Nat) : Int)) rfl rfl) rfl<|Ea rfl rfl<|Ek13 0 2 3 5 7 16 17 22 23 89 179 181 184 rfl<|Be rfl (fun h184 => ?_) (fun h184 => ?_)
  ·have hz184 : dynR dt p = none := by rw [hdy,if_neg (fun h => not_ok_of_full hd15 (by omega) h.2)]
   refine Cr<|Ea rfl rfl<|Ea rfl rfl<|Ea rfl rfl<|Ek14 0 2 3 4 5 7 16 17 22 23 89 179 181 184 rfl<|Av ?_
   exact ⟨_,_,_,rfl,rfl,rfl,[_],[_,_,_],Same.perm (Bj (A:=[_]) (F:=[_,_,_]) (is:=[2]) rfl),_,_,_,_,rfl,(by omega),(by omega),.inr (.inl ⟨rfl,rfl,.inl (hz184)⟩)⟩
  refine Cr<|Em rfl rfl<|Aa (Dx (b:=((0 : Nat) : Int)) rfl rfl) rfl<|Em rfl rfl<|Ec (fun g190 => ?_) (fun g190 => ?_)
  ·refine Aj 190 rfl rfl<|Em rfl rfl<|Aj 190 rfl rfl<|Aa (Bk rfl Tu23) rfl<|Aj 190 rfl rfl<|Aa (Gg (b:=((1 : Nat) : Int)) rfl rfl) rfl<|Aa (By rfl rfl) rfl<|Ea rfl rfl<|Ek14 0 2 3 5 7 16 17 22 23 89 179 181 184 187 rfl<|Be rfl (fun h187 => ?_) (fun h187 => ?_)
   ·refine Cr<|Ea rfl rfl<|Ea rfl rfl<|Ea rfl rfl<|Ek15 0 2 3 4 5 7 16 17 22 23 89 179 181 184 187 rfl<|Av ?_
    exact ⟨_,_,_,rfl,rfl,rfl,[_],[_,_,_],Same.perm (Bj (A:=[_]) (F:=[_,_,_]) (is:=[2]) rfl),_,_,_,_,rfl,(by omega),(by omega),.inr (.inr ⟨rfl,rfl⟩)⟩
   refine Cr<|Em rfl rfl<|Aa (Gg (b:=((0 : Nat) : Int)) rfl rfl) rfl<|Em rfl rfl<|Ec (fun g198 => ?_) (fun g198 => ?_)
   ·refine Aj 198 rfl rfl<|Em rfl rfl<|Aj 198 rfl rfl<|Aa (Dk (b:=((32768 : Nat) : Int)) rfl rfl) rfl<|Aa (By rfl rfl) rfl<|Em rfl rfl<|Ec (fun g202 => ?_) (fun g202 => ?_)
    ·refine Aj 202 rfl rfl<|Em rfl rfl<|Aj 202 rfl rfl ?_
     refine Ak (OpX.pick [1] (F:=[_,_,_]) rfl (Au rfl Tryz.call68 (lonely_spec ab (ao + (takeB dt p 5 + 257)) (ac - (takeB dt p 5 + 257)) rest (acc.drop (takeB dt p 5 + 257)) hd15 (by omega)))) rfl ?_; rintro _ _ ⟨_,⟨⟨okl,rfl,hlone⟩,rfl⟩,rfl⟩; refine Ab (L2:=[_,_,_,_]) rfl ?_
     refine Bt [1,0,0,0] rfl<|Ab (L2:=[_,_,_,_]) rfl<|Aj 202 rfl rfl<|Aa (Fr rfl) rfl<|Aa (By rfl rfl) rfl<|Ea rfl rfl<|Ek15 0 2 3 5 7 16 17 22 23 89 179 181 184 187 195 rfl<|Fa rfl (fun h195 => ?_) (fun h195 => ?_)
     ·refine Cr<|Ea rfl rfl<|Ea rfl rfl<|Ea rfl rfl<|Ek16 0 2 3 4 5 7 16 17 22 23 89 179 181 184 187 195 rfl<|Av ?_
      exact ⟨_,_,_,rfl,rfl,rfl,[_],[_,_,_],Same.perm (Bj (A:=[_]) (F:=[_,_,_]) (is:=[2]) rfl),_,_,_,_,rfl,(by omega),(by omega),.inr (.inr ⟨rfl,rfl⟩)⟩
     refine Ar ?_
     exact ⟨rfl,rfl,by first | exact Hu (by omega) | exact Gz hd15 (by omega) | exact ok_of_lone (hlone (by simpa using h195))⟩
    refine Ag 202 false rfl rfl rfl rfl<|Ag 202 false rfl rfl rfl rfl<|Ag 202 false rfl rfl rfl rfl<|Aa (Bs rfl rfl) rfl<|Ea rfl rfl<|Ek15 0 2 3 5 7 16 17 22 23 89 179 181 184 187 195 rfl<|Gw rfl (rfl)<|Ar ?_
    exact ⟨rfl,rfl,by first | exact Hu (by omega) | exact Gz hd15 (by omega) | exact ok_of_lone (hlone (by simpa using h195))⟩
   refine Ag 198 false rfl rfl rfl rfl<|Ag 198 false rfl rfl rfl rfl<|Aa (Bs rfl rfl) rfl<|Em rfl rfl<|Ag 202 false rfl rfl rfl rfl<|Ag 202 false rfl rfl rfl rfl<|Ag 202 false rfl rfl rfl rfl<|Aa (Bs rfl rfl) rfl<|Ea rfl rfl<|Ek15 0 2 3 5 7 16 17 22 23 89 179 181 184 187 195 rfl<|Gw rfl (rfl)<|Ar ?_
   exact ⟨rfl,rfl,by first | exact Hu (by omega) | exact Gz hd15 (by omega) | exact ok_of_lone (hlone (by simpa using h195))⟩
  refine Ag 190 false rfl rfl rfl rfl<|Ag 190 false rfl rfl rfl rfl<|Ag 190 false rfl rfl rfl rfl<|Aa (Bs rfl rfl) rfl<|Ea rfl rfl<|Ek14 0 2 3 5 7 16 17 22 23 89 179 181 184 187 rfl<|Gw rfl (rfl)<|Cr<|Em rfl rfl<|Aa (Gg (b:=((0 : Nat) : Int)) rfl rfl) rfl<|Em rfl rfl<|Ec (fun g198 => ?_) (fun g198 => ?_)
  ·refine Aj 198 rfl rfl<|Em rfl rfl<|Aj 198 rfl rfl<|Aa (Dk (b:=((32768 : Nat) : Int)) rfl rfl) rfl<|Aa (By rfl rfl) rfl<|Em rfl rfl<|Ec (fun g202 => ?_) (fun g202 => ?_)
   ·refine Aj 202 rfl rfl<|Em rfl rfl<|Aj 202 rfl rfl ?_
    refine Ak (OpX.pick [1] (F:=[_,_,_]) rfl (Au rfl Tryz.call68 (lonely_spec ab (ao + (takeB dt p 5 + 257)) (ac - (takeB dt p 5 + 257)) rest (acc.drop (takeB dt p 5 + 257)) hd15 (by omega)))) rfl ?_; rintro _ _ ⟨_,⟨⟨okl,rfl,hlone⟩,rfl⟩,rfl⟩; refine Ab (L2:=[_,_,_,_]) rfl ?_
    refine Bt [1,0,0,0] rfl<|Ab (L2:=[_,_,_,_]) rfl<|Aj 202 rfl rfl<|Aa (Fr rfl) rfl<|Aa (By rfl rfl) rfl<|Ea rfl rfl<|Ek15 0 2 3 5 7 16 17 22 23 89 179 181 184 187 195 rfl<|Fa rfl (fun h195 => ?_) (fun h195 => ?_)
    ·refine Cr<|Ea rfl rfl<|Ea rfl rfl<|Ea rfl rfl<|Ek16 0 2 3 4 5 7 16 17 22 23 89 179 181 184 187 195 rfl<|Av ?_
     exact ⟨_,_,_,rfl,rfl,rfl,[_],[_,_,_],Same.perm (Bj (A:=[_]) (F:=[_,_,_]) (is:=[2]) rfl),_,_,_,_,rfl,(by omega),(by omega),.inr (.inr ⟨rfl,rfl⟩)⟩
    refine Ar ?_
    exact ⟨rfl,rfl,by first | exact Hu (by omega) | exact Gz hd15 (by omega) | exact ok_of_lone (hlone (by simpa using h195))⟩
   refine Ag 202 false rfl rfl rfl rfl<|Ag 202 false rfl rfl rfl rfl<|Ag 202 false rfl rfl rfl rfl<|Aa (Bs rfl rfl) rfl<|Ea rfl rfl<|Ek15 0 2 3 5 7 16 17 22 23 89 179 181 184 187 195 rfl<|Gw rfl (rfl)<|Ar ?_
   exact ⟨rfl,rfl,by first | exact Hu (by omega) | exact Gz hd15 (by omega) | exact ok_of_lone (hlone (by simpa using h195))⟩
  refine Ag 198 false rfl rfl rfl rfl<|Ag 198 false rfl rfl rfl rfl<|Aa (Bs rfl rfl) rfl<|Em rfl rfl<|Ag 202 false rfl rfl rfl rfl<|Ag 202 false rfl rfl rfl rfl<|Ag 202 false rfl rfl rfl rfl<|Aa (Bs rfl rfl) rfl<|Ea rfl rfl<|Ek15 0 2 3 5 7 16 17 22 23 89 179 181 184 187 195 rfl<|Gw rfl (rfl)<|Ar ?_
  exact ⟨rfl,rfl,by first | exact Hu (by omega) | exact Gz hd15 (by omega) | exact ok_of_lone (hlone (by simpa using h195))⟩
 rintro _ _ ⟨hq61,rfl,hok2⟩
 refine Ba _ hq61<|Cr<|Em rfl rfl<|Em rfl rfl<|Ea rfl rfl<|Ea rfl rfl<|Ea rfl rfl<|Ek3 2 3 4 rfl<|Av ?_
 have he : (acc.take (takeB dt p 5 + 257)).length = takeB dt p 5 + 257 := htl
 refine ⟨_,_,_,rfl,rfl,rfl,[_,_,_],[_],Same.perm (Bj (A:=[_,_,_]) (F:=[_]) (is:=[2,0,0]) rfl),_,_,_,_,rfl,by omega,by omega,.inl ⟨rfl,⟨acc.take (takeB dt p 5 + 257),max (minL (acc.take (takeB dt p 5 + 257))) (acc.getD 256 0),acc.drop (takeB dt p 5 + 257)⟩,ab,ao,ac,rest,?_,?_,?_,hok1,hok2,hl15,hd15,?_,?_,?_,?_⟩⟩
 · rw [hdy,if_pos ⟨hok1,hok2⟩]
 · rfl
 · simp only; rw [he]
 · simp only; omega
 · simp only; omega
 · simp only; rw [lenOf,List.getD_eq_getElem?_getD (l:=acc.take (takeB dt p 5 + 257)),List.getElem?_take,if_pos (by omega),← List.getD_eq_getElem?_getD]
 · simp only; rw [he]
theorem lengths_spec {K : Known} (rb : Nat) (ba : Option Addr) (bc : Nat) (dt : List UInt8) (hD : DB K ba dt) (hl : dt.length ≤ 65536) (hS : SpT K) (p : Nat) (hp : p ≤ 8 * dt.length) : Fn Tryz.prog K 48 #[.pointer (some ⟨rb,0,none⟩)] [⟨rb,0,[.slice ba dt.length bc,.int .i64 (((p) : Nat) : Int)]⟩] (LenR dt rb ba bc p) := by
  refine Fn.lose (lengths_walk rb ba bc dt hD hl hS p hp) ?_
  rintro r L ⟨L2,J,hS,h⟩
  exact ⟨L2,J,hS,h⟩
def BadR (R : ResR) (out : List UInt8) : Prop := R.2 = .bad ∧ R.1 <+: out
def InB (dt : List UInt8) (R : ResR) (last : Bool) (t : Tabs) (out : List UInt8) (p : Nat) : Prop := R = run dt (.sym last t) out p ∨ (BadR R out ∧ left dt p < lenOf t.lit 256)
def SymB (dt : List UInt8) (R : ResR) (last : Bool) (t : Tabs) (out : List UInt8) (p v : Nat) : Prop := (symR t.lit t.mn dt p = some v ∧ R = run dt (.sym last t) out p) ∨ (BadR R out ∧ left dt p < lenOf t.lit 256)
section
variable {dt : List UInt8} {R : ResR} {last : Bool} {t : Tabs} {out : List UInt8} {p v n d p2 : Nat}
theorem Hg (h : R = (out,.bad)) : BadR R out := by rw [h]; exact ⟨rfl,List.prefix_refl _⟩
theorem InB.none (h : InB dt R last t out p) (hs : findS t.lit (bitsAt dt p) (left dt p) = none) : BadR R out := by
  rcases h with h | h
  · exact Hg (h.trans (run_none (symR_of_none hs)))
  · exact h.1
theorem InB.sym (h : InB dt R last t out p) (hmn : t.mn = max (minL t.lit) (lenOf t.lit 256)) (hs : findS t.lit (bitsAt dt p) (left dt p) = some v) : SymB dt R last t out p v := by
  rcases h with h | h
  · by_cases hl : left dt p < t.mn
    · right
      have := findS_min hs
      have hn : symR t.lit t.mn dt p = Option.none := by unfold symR; rw [if_pos hl]
      exact ⟨Hg (h.trans (run_none hn)),by omega⟩
    · left
      exact ⟨by unfold symR; rw [if_neg hl]; exact hs,h⟩
  · exact .inr h
theorem SymB.big (h : SymB dt R last t out p v) (hv : 286 ≤ v) : BadR R out := by
  rcases h with ⟨hs,h⟩ | h
  · exact Hg (h.trans (run_big hs hv))
  · exact h.1
theorem SymB.bad (h : SymB dt R last t out p v) (h1 : 257 ≤ v) (h2 : v < 286) (hc : copyR t dt v (p + lenOf t.lit v) = Option.none) : BadR R out := by
  rcases h with ⟨hs,h⟩ | h
  · exact Hg (h.trans (run_bad hs h1 h2 hc))
  · exact h.1
theorem SymB.far (h : SymB dt R last t out p v) (h1 : 257 ≤ v) (h2 : v < 286) (hc : copyR t dt v (p + lenOf t.lit v) = some (n,d,p2)) (hd : out.length < d) : BadR R out := by
  rcases h with ⟨hs,h⟩ | h
  · exact Hg (h.trans (run_far hs h1 h2 hc hd))
  · exact h.1
theorem left_mono {p2 : Nat} (h : p ≤ p2) : left dt p2 ≤ left dt p := by unfold left; omega
theorem SymB.lit (h : SymB dt R last t out p v) (hv : v < 256) : InB dt R last t (out ++ [UInt8.ofNat v]) (p + lenOf t.lit v) := by
  rcases h with ⟨hs,h⟩ | ⟨h,h2⟩
  · exact .inl (h.trans (run_lit hs hv))
  · exact .inr ⟨⟨h.1,h.2.trans (List.prefix_append _ _)⟩,Nat.lt_of_le_of_lt (left_mono (Nat.le_add_right _ _)) h2⟩
theorem copyN_prefix (out : List UInt8) (d : Nat) : ∀ n,out <+: copyN out d n
  | 0 => List.prefix_refl _
  | n + 1 => (copyN_prefix out d n).trans (List.prefix_append _ _)
theorem SymB.go (h : SymB dt R last t out p v) (h1 : 257 ≤ v) (h2 : v < 286) (hc : copyR t dt v (p + lenOf t.lit v) = some (n,d,p2)) (hd : d ≤ out.length) (hp : p < p2) (hl : p2 ≤ 8 * dt.length) : InB dt R last t (copyN out d n) p2 := by
  rcases h with ⟨hs,h⟩ | ⟨h,h2⟩
  · exact .inl (h.trans (run_copy hs h1 h2 hc hd hp hl))
  · exact .inr ⟨⟨h.1,h.2.trans (copyN_prefix _ _ _)⟩,Nat.lt_of_le_of_lt (left_mono (by omega)) h2⟩
theorem SymB.eob (h : SymB dt R last t out p 256) (hl : lenOf t.lit 256 ≤ left dt p) : (last = true → R = (out,.done ((p + lenOf t.lit 256 + 7) / 8))) ∧ (last = false → R = run dt .next out (p + lenOf t.lit 256)) := by
  rcases h with ⟨hs,h⟩ | ⟨h,h2⟩
  · have := run_eob (last:=last) (out:=out) hs
    exact ⟨fun e => h.trans (this.1 e),fun e => h.trans (this.2 e)⟩
  · omega
end
theorem bytes_getD {l : List UInt8} {cs : List Value} {k : Nat} (h : k < l.length) : (bytesV l ++ cs)[k * 1]? = some (.int .u8 (((l.getD k 0).toNat : Nat) : Int)) := by
  rw [Nat.mul_one,List.getElem?_append_left (by rw [Bp]; exact h),Hb h,List.getD_eq_getElem?_getD,List.getElem?_eq_getElem h]; rfl
theorem Sl.bytes {v : Value} {xs : List UInt8} {Lf : Frags} (h : Sl 1 v xs.length (bytesV xs) Lf) (hm : 0 < xs.length) : ∃ b o c cs,v = .slice (some ⟨b,o,none⟩) xs.length c ∧ Lf = [⟨b,o,bytesV xs ++ cs⟩] ∧ xs.length ≤ c ∧ c ≤ 9223372036854775807 := by
  obtain ⟨b,o,c,cs,rfl,rfl,h1,h2,h3,h4⟩ := h.one hm
  rw [Nat.mul_one] at h4
  exact ⟨b,o,c,cs.drop xs.length,rfl,by rw [← h4,List.take_append_drop],h2,h3⟩
def BlockR (dt : List UInt8) (rb : Nat) (ba : Option Addr) (bc p : Nat) (R : ResR) (last : Bool) (r : Value) (L : Frags) : Prop :=
  ∃ oa oc out what p2 Lo,r = .tuple #[.slice oa (out).length oc,.int .i64 ((what : Nat) : Int)] ∧ L = ⟨rb,0,[.slice ba dt.length bc,.int .i64 (((p2) : Nat) : Int)]⟩::Lo ∧ Sl 1 (.slice oa (out).length oc) out.length (bytesV out) Lo ∧ out.length ≤ 300 * p2 ∧ p ≤ p2 ∧ p2 ≤ 8 * dt.length ∧
    ((what = 0 ∧ (last = true → R = (out,.done ((p2 + 7) / 8))) ∧ (last = false → R = run dt .next out p2)) ∨ (what = 1 ∧ BadR R out) ∨ what = 2)
set_option maxHeartbeats 1000000
theorem drop5 {a b c d e : Frag} {Lo : Frags} : Same ([a,b,c,d,e] ++ Lo) ((a::Lo) ++ [b,c,d,e]) := Same.perm (List.Perm.cons a (List.perm_append_comm (l₁:=[b,c,d,e]) (l₂:=Lo)))
theorem fur_le : ∀ x ∈ furL,x ≤ 13 := by decide
theorem block_walk {K : Known} (rb : Nat) (ba : Option Addr) (bc : Nat) (dt : List UInt8) (hD : DB K ba dt) (hl : dt.length ≤ 65536) (hS : SpT K) (p0 : Nat) (hp0 : p0 ≤ 8 * dt.length) (t : Tabs) (hok1 : okLens t.lit) (hok2 : okLens t.dist) (h15a : ∀ x ∈ t.lit,x ≤ 15) (h15b : ∀ x ∈ t.dist,x ≤ 15) (hle1 : t.lit.length ≤ 320) (hle2 : t.dist.length ≤ 320) (hmn : t.mn = max (minL t.lit) (lenOf t.lit 256)) (lb lo lc db do_ dc : Nat) (ls ds : List Value) (out : List UInt8) (oa : Option Addr) (oc : Nat) (Lo : Frags) (hsl : Sl 1 (.slice oa out.length oc) out.length (bytesV out) Lo) (hout : out.length ≤ 300 * p0) (R : ResR) (last : Bool) (hR : R = run dt (.sym last t) out p0) : Fn Tryz.prog K 49 #[.pointer (some ⟨rb,0,none⟩),.slice oa (out).length oc,.slice (some ⟨lb,lo,none⟩) t.lit.length lc,.slice (some ⟨db,do_,none⟩) t.dist.length dc] ([⟨rb,0,[.slice ba dt.length bc,.int .i64 (((p0) : Nat) : Int)]⟩,⟨lb,lo,intsV t.lit ++ ls⟩,⟨db,do_,intsV t.dist ++ ds⟩] ++ Lo) (fun r L => ∃ L2 J,Same L (L2 ++ J) ∧ BlockR dt rb ba bc p0 R last r L2) := by
 refine Fn.intro (args:=[.pointer (some ⟨rb,0,none⟩),.slice oa (out).length oc,.slice (some ⟨lb,lo,none⟩) t.lit.length lc,.slice (some ⟨db,do_,none⟩) t.dist.length dc]) (RR:=Ret2 8 9 _) Tryz.func49 rfl rfl Tryz.ntmps49 (res2 Tryz.results49) ?_
 refine Bl (env2:=[(0,.pointer (some ⟨rb,0,none⟩)),(1,.slice oa (out).length oc),(2,.slice (some ⟨lb,lo,none⟩) t.lit.length lc),(3,.slice (some ⟨db,do_,none⟩) t.dist.length dc)]) rfl<|Cr<|Ea rfl rfl<|Ea rfl rfl<|Ek6 0 1 2 3 8 9 rfl<|Cr<|Em rfl rfl ?_
 refine Ak (OpX.pick [1] (F:=(_::_::_)) rfl (Au rfl Tryz.call66 (tree_spec lb lo lc ls t.lit h15a hle1 hok1))) rfl ?_; rintro _ _ ⟨_,⟨tb1,f1,rfl,hTr1,hfb1,rfl⟩,rfl⟩; refine Ab (L2:=(_::_::_::_::_)) rfl ?_
 refine Em rfl rfl ?_
 refine Ak (OpX.pick [3] (F:=(_::_::_::_)) rfl (Au rfl Tryz.call66 (tree_spec db do_ dc ds t.dist h15b hle2 hok2))) rfl ?_; rintro _ _ ⟨_,⟨tb2,f2,rfl,hTr2,hfb2,rfl⟩,rfl⟩; refine Ab (L2:=(_::_::_::_::_::_)) rfl ?_
 refine Ea rfl rfl<|Ea rfl rfl<|Ek6 0 1 8 9 10 11 rfl<|Ge [4,2,0,1,0] rfl<|Bq (L2:=_::_::_::_::_::Lo) rfl<|Ax<|Bx (fun mm ee ll => ∃ (out : List UInt8),∃ (p : Nat),∃ (oa : Option Addr),∃ (oc : Nat),∃ (Lo : Frags),keeps ee [0,1,10,11] = some [(0,.pointer (some ⟨rb,0,none⟩)),(1,.slice oa (out).length oc),(10,.slice (some ⟨tb1,0,none⟩) (2 ^ (maxL t.lit + 1)) (2 ^ (maxL t.lit + 1))),(11,.slice (some ⟨tb2,0,none⟩) (2 ^ (maxL t.dist + 1)) (2 ^ (maxL t.dist + 1)))] ∧ ll = [⟨rb,0,[.slice ba dt.length bc,.int .i64 (((p) : Nat) : Int)]⟩,⟨tb1,0,cellsI (2 ^ (maxL t.lit + 1)) f1⟩,⟨tb2,0,cellsI (2 ^ (maxL t.dist + 1)) f2⟩,⟨lb,lo,intsV t.lit ++ ls⟩,⟨db,do_,intsV t.dist ++ ds⟩] ++ Lo ∧ (InB dt R last t out p) ∧ (p0 ≤ p) ∧ (p ≤ 8 * dt.length) ∧ (out.length ≤ 300 * p) ∧ (Sl 1 (.slice oa (out).length oc) out.length (bytesV out) Lo) ∧ mm = 8 * dt.length - p) (_) ⟨out,p0,_,_,_,rfl,rfl,.inl hR,Nat.le_refl _,hp0,hout,hsl,rfl⟩ ?_
 rintro m0 _ _ ⟨out,p,oa,oc,Lo,hk0,rfl,hInv,hpp,hp,hout,hsl,hm0⟩
 refine Ba _ hk0<|Ax<|Cr<|Em rfl rfl<|Em rfl rfl ?_
 refine Ak (OpX.pick [0,0] (F:=(_::_::_::_)) rfl (Au rfl Tryz.call67 (symbol_spec rb ba bc dt hD hl p hp t.lit hok1 h15a hle1 tb1 f1 hTr1 hfb1))) rfl ?_; rintro _ _ ⟨_,⟨z,p5,rfl,hp5a,hp5b,rfl,hSz⟩,rfl⟩; refine Ab (L2:=(_::_::_::_::_::_)) rfl ?_
 refine Bt [0,0,0,0,0] rfl<|Ab (L2:=(_::_::_::_::_::_)) rfl<|Ea rfl rfl<|Ek5 0 1 10 11 12 rfl<|Ap<|Ax<|Cr<|Em rfl rfl<|Aa (Dk (b:=((0 : Nat) : Int)) rfl rfl) rfl<|Em rfl rfl<|Ec (fun g27 => ?_) (fun g27 => ?_)
 ·have hsn : findS t.lit (bitsAt dt p) (left dt p) = none := by
    rcases hSz with ⟨s,_,hz,_⟩ | ⟨h,_⟩
    · omega
    · exact h
  refine Ag 27 true rfl rfl rfl rfl<|Ag 27 true rfl rfl rfl rfl<|Aa (By rfl rfl) rfl<|Ea rfl rfl<|Ek6 0 1 10 11 12 24 rfl<|Ft rfl (rfl)<|Cr<|Em rfl rfl<|Ea rfl rfl<|Ea rfl rfl<|Ek8 0 1 8 9 10 11 12 24 rfl<|Av ?_
  exact ⟨_,_,rfl,rfl,_,[_,_,_,_],drop5,_,_,_,_,_,_,rfl,rfl,hsl,by omega,by omega,by omega,.inr (.inl ⟨rfl,hInv.none hsn⟩)⟩
 obtain ⟨v,hs1,rfl,rfl⟩ := hSz.resolve_right (fun h => by omega)
 obtain ⟨hm1,hv0,hvl,hv19⟩ := findS_min hs1
 have hSy := hInv.sym hmn hs1
 have hq1 : p + lenOf t.lit v ≤ 8 * dt.length := by unfold left at hvl; omega
 refine Aj 27 rfl rfl<|Em rfl rfl<|Aj 27 rfl rfl<|Aa (Gg (b:=((285 : Nat) : Int)) rfl rfl) rfl<|Aa (Bs rfl rfl) rfl<|Ea rfl rfl<|Ek6 0 1 10 11 12 24 rfl<|Be rfl (fun h24 => ?_) (fun h24 => ?_)
 ·refine Cr<|Em rfl rfl<|Ea rfl rfl<|Ea rfl rfl<|Ek8 0 1 8 9 10 11 12 24 rfl<|Av ?_
  exact ⟨_,_,rfl,rfl,_,[_,_,_,_],drop5,_,_,_,_,_,_,rfl,rfl,hsl,by omega,by omega,by omega,.inr (.inl ⟨rfl,hSy.big (by omega)⟩)⟩
 have hv2 : v < 286 := by omega
 refine Cr<|Em rfl rfl<|Aa (Dk (b:=((256 : Nat) : Int)) rfl rfl) rfl<|Ea rfl rfl<|Ek7 0 1 10 11 12 24 32 rfl<|Be rfl (fun h32 => ?_) (fun h32 => ?_)
 ·have hvs : v < 256 := by omega
  have hvb : (UInt8.ofNat v).toNat = v := by rw [UInt8.toNat_ofNat']; omega
  refine Cr<|Em rfl rfl<|Em rfl rfl<|Aa (Bv rfl Tu3 Tu5 (N.in_u8 (by omega))) rfl<|Am (v:=.int .u8 (((UInt8.ofNat v).toNat : Nat) : Int)) (by rw [hvb]) ?_
  refine Ak (Dd (vs:=[.int .u8 (((UInt8.ofNat v).toNat : Nat) : Int)]) (e:=5) [(0,.int .u8 (((UInt8.ofNat v).toNat : Nat) : Int))] rfl (fun w => by simp [Instr.buildSlice,Instr.fill,Value.cells,newRow,Tryz.runUnderlying25,Tryz.typeInfo5]; rw [arr1])) rfl ?_
  rintro _ _ ⟨yb,rfl,rfl⟩
  refine Ab (L2:=[⟨yb,0,_⟩,_,_,_,_,_] ++ Lo) rfl<|Eb (Same.perm List.perm_append_comm) ?_
  refine Ak (Gv (L:=[⟨yb,0,_⟩,_,_,_,_,_]) (xs:=out) (ys:=[UInt8.ofNat v]) (Lf:=Lo) rfl rfl hsl rfl (.inr ⟨yb,0,rfl,Reads.mem (k:=0) (List.mem_append_right _ (.head _)) rfl⟩) (by simp only [List.length_cons,List.length_nil]; omega)) rfl ?_
  rintro v2 _ ⟨Lf2,hsl2,rfl⟩
  refine Fw (A:=[_,_,_,_,_] ++ Lf2) (F:=[_]) (Same.perm app_perm)<|Ab (L2:=_::_::_::_::_::Lf2) rfl ?_
  obtain ⟨oa3,oc3,rfl⟩ := hsl2.form
  refine Ea rfl rfl<|Ek7 0 1 10 11 12 24 32 rfl<|Bu rfl ?_
  refine ⟨_,?_,out ++ [UInt8.ofNat v],_,_,_,_,rfl,rfl,hSy.lit hvs,by omega,by omega,by (rw [List.length_append,List.length_singleton]; omega),hsl2,rfl⟩; omega
 refine Cr<|Em rfl rfl<|Aa (Dx (b:=((256 : Nat) : Int)) rfl rfl) rfl<|Ea rfl rfl<|Ek8 0 1 10 11 12 24 32 40 rfl<|Be rfl (fun h40 => ?_) (fun h40 => ?_)
 ·have hv6 : v = 256 := by omega
  subst hv6
  refine Cr<|Em rfl rfl<|Ea rfl rfl<|Ea rfl rfl<|Ek10 0 1 8 9 10 11 12 24 32 40 rfl<|Av ?_
  exact ⟨_,_,rfl,rfl,_,[_,_,_,_],drop5,_,_,_,_,_,_,rfl,rfl,hsl,by omega,by omega,by omega,.inl ⟨rfl,hSy.eob hvl⟩⟩
 have hv1 : 257 ≤ v := by omega
 obtain ⟨moa,moo,moc,hmore,hmorec⟩ := hS.more
 have hmol : moreL.length = 29 := rfl
 obtain ⟨hszb,hmo5⟩ := size_bound (D:=dt) (p:=p + lenOf t.lit v) hv2 hv1
 refine Ar<|Cr<|Em rfl rfl<|Ah (Bd rfl hmore Tryz.isAgg23) rfl<|Em rfl rfl<|Aa (Du (b:=((257 : Nat) : Int)) rfl rfl (N.sub64 (by omega) (by omega))) rfl<|Aa (Bw rfl rfl (by omega) Tu23 Tz3) rfl<|Ah (Bd rfl (hmorec (v - 257) (by omega)) Ta3) rfl ?_
 refine Ak (OpX.pick [0] (F:=(_::_::_::_::_)) rfl (Au rfl Tryz.call47 (Fg rb ba bc dt hD hl (p + lenOf t.lit v) (moreL.getD (v - 257) 0) hq1 (by omega)))) rfl ?_; rintro _ _ ⟨_,⟨x,okm,p6,rfl,rfl,hTm⟩,rfl⟩; refine Ab (L2:=(_::_::_::_::_::_)) rfl ?_
 refine Bt [0,0,0,0,0] rfl<|Ab (L2:=(_::_::_::_::_::_)) rfl<|Em rfl rfl<|Aa (Bb rfl rfl) rfl<|Aa (Bb rfl rfl) rfl<|Ea rfl rfl<|Ea rfl rfl<|Ek10 0 1 10 11 12 13 14 24 32 40 rfl<|Ap<|Cr<|Em rfl rfl<|Aa (Fr rfl) rfl ?_
 refine Ek11 0 1 10 11 12 13 14 24 32 40 55 rfl<|Fa rfl (fun h55 => ?_) (fun h55 => ?_)
 ·have hp6 := hTm.le hq1
  refine Cr<|Em rfl rfl<|Ea rfl rfl<|Ea rfl rfl<|Ek13 0 1 8 9 10 11 12 13 14 24 32 40 55 rfl<|Av ?_
  exact ⟨_,_,rfl,rfl,_,[_,_,_,_],drop5,_,_,_,_,_,_,rfl,rfl,hsl,by omega,by omega,by omega,.inr (.inl ⟨rfl,hSy.bad hv1 hv2 (copyR_more (hTm.no (by simpa using h55)).1)⟩)⟩
 obtain ⟨hmy,rfl,rfl⟩ := hTm.yes (by simpa using h55)
 have hm2 : ¬ left dt (p + lenOf t.lit v) < moreL.getD (v - 257) 0 := by omega
 have hq2 : p + lenOf t.lit v + moreL.getD (v - 257) 0 ≤ 8 * dt.length := by unfold left at hmy; omega
 obtain ⟨sza,szo,szc,hsize,hsizec⟩ := hS.sizes
 have hszl : sizesL.length = 29 := rfl
 refine Ar<|Cr<|Em rfl rfl<|Ah (Bd rfl hsize Tryz.isAgg23) rfl<|Em rfl rfl<|Aa (Du (b:=((257 : Nat) : Int)) rfl rfl (N.sub64 (by omega) (by omega))) rfl<|Aa (Bw rfl rfl (by omega) Tu23 Tz3) rfl<|Ah (Bd rfl (hsizec (v - 257) (by omega)) Ta3) rfl<|Aa (Bh rfl rfl (N.add64 (by omega))) rfl<|Ea rfl rfl<|Ek11 0 1 10 11 12 13 14 24 32 40 55 rfl<|Eg (M:=fun ee ll => keeps ee [0,1,10,11,12,13] = some [(0,.pointer (some ⟨rb,0,none⟩)),(1,.slice oa (out).length oc),(10,.slice (some ⟨tb1,0,none⟩) (2 ^ (maxL t.lit + 1)) (2 ^ (maxL t.lit + 1))),(11,.slice (some ⟨tb2,0,none⟩) (2 ^ (maxL t.dist + 1)) (2 ^ (maxL t.dist + 1))),(12,.int .i64 ((v : Nat) : Int)),(13,.int .i64 ((takeB dt (p + lenOf t.lit v) (moreL.getD (v - 257) 0) + sizesL.getD (v - 257) 0 : Nat) : Int))] ∧ ll = [⟨rb,0,[.slice ba dt.length bc,.int .i64 (((p + lenOf t.lit v + moreL.getD (v - 257) 0) : Nat) : Int)]⟩,⟨tb1,0,cellsI (2 ^ (maxL t.lit + 1)) f1⟩,⟨tb2,0,cellsI (2 ^ (maxL t.dist + 1)) f2⟩,⟨lb,lo,intsV t.lit ++ ls⟩,⟨db,do_,intsV t.dist ++ ds⟩] ++ Lo) ?_ ?_
 ·refine Cr<|Em rfl rfl<|Aa (Dx (b:=((284 : Nat) : Int)) rfl rfl) rfl<|Em rfl rfl<|Ec (fun g66 => ?_) (fun g66 => ?_)
  ·refine Aj 66 rfl rfl<|Em rfl rfl<|Aj 66 rfl rfl<|Aa (Dx (b:=((258 : Nat) : Int)) rfl rfl) rfl<|Aa (By rfl rfl) rfl<|Ek12 0 1 10 11 12 13 14 24 32 40 55 69 rfl<|Be rfl (fun h69 => ?_) (fun h69 => ?_)
   ·refine Cr<|Em rfl rfl<|Ea rfl rfl<|Ea rfl rfl<|Ek14 0 1 8 9 10 11 12 13 14 24 32 40 55 69 rfl<|Av ?_
    exact ⟨_,_,rfl,rfl,_,[_,_,_,_],drop5,_,_,_,_,_,_,rfl,rfl,hsl,by omega,by omega,by omega,.inr (.inr rfl)⟩
   refine Ar ?_
   exact ⟨rfl,rfl⟩
  refine Ag 66 false rfl rfl rfl rfl<|Ag 66 false rfl rfl rfl rfl<|Aa (Bs rfl rfl) rfl<|Ek12 0 1 10 11 12 13 14 24 32 40 55 69 rfl<|Gw rfl (rfl)<|Ar ?_
  exact ⟨rfl,rfl⟩
 rintro _ _ ⟨hq15,rfl⟩
 refine Ba _ hq15<|Cr<|Em rfl rfl<|Em rfl rfl ?_
 refine Ak (OpX.pick [0,1] (F:=(_::_::_::_)) rfl (Au rfl Tryz.call67 (symbol_spec rb ba bc dt hD hl (p + lenOf t.lit v + moreL.getD (v - 257) 0) hq2 t.dist hok2 h15b hle2 tb2 f2 hTr2 hfb2))) rfl ?_; rintro _ _ ⟨_,⟨z2,p7,rfl,hp7a,hp7b,rfl,hSd⟩,rfl⟩; refine Ab (L2:=(_::_::_::_::_::_)) rfl ?_
 refine Bt [0,1,0,0,0] rfl<|Ab (L2:=(_::_::_::_::_::_)) rfl<|Ea rfl rfl<|Ek7 0 1 10 11 12 13 15 rfl<|Ap<|Cr<|Em rfl rfl<|Aa (Dk (b:=((0 : Nat) : Int)) rfl rfl) rfl<|Em rfl rfl<|Ec (fun g76 => ?_) (fun g76 => ?_)
 ·have hdn : findS t.dist (bitsAt dt (p + lenOf t.lit v + moreL.getD (v - 257) 0)) (left dt (p + lenOf t.lit v + moreL.getD (v - 257) 0)) = none := by
    rcases hSd with ⟨s,_,hz,_⟩ | ⟨h,_⟩
    · omega
    · exact h
  refine Ag 76 true rfl rfl rfl rfl<|Ag 76 true rfl rfl rfl rfl<|Aa (By rfl rfl) rfl<|Ek8 0 1 10 11 12 13 15 79 rfl<|Ft rfl (rfl)<|Cr<|Em rfl rfl<|Ea rfl rfl<|Ea rfl rfl<|Ek10 0 1 8 9 10 11 12 13 15 79 rfl<|Av ?_
  exact ⟨_,_,rfl,rfl,_,[_,_,_,_],drop5,_,_,_,_,_,_,rfl,rfl,hsl,by omega,by omega,by omega,.inr (.inl ⟨rfl,hSy.bad hv1 hv2 (copyR_nodist hm2 (by rw [symR_0]; exact hdn))⟩)⟩
 obtain ⟨d,hs2,rfl,rfl⟩ := hSd.resolve_right (fun h => by omega)
 obtain ⟨_,hd0,hdl,hd19⟩ := findS_min hs2
 have hq3 : p + lenOf t.lit v + moreL.getD (v - 257) 0 + lenOf t.dist d ≤ 8 * dt.length := by unfold left at hdl; omega
 have hds : symR t.dist 0 dt (p + lenOf t.lit v + moreL.getD (v - 257) 0) = some d := by rw [symR_0]; exact hs2
 refine Aj 76 rfl rfl<|Em rfl rfl<|Aj 76 rfl rfl<|Aa (Gg (b:=((29 : Nat) : Int)) rfl rfl) rfl<|Aa (Bs rfl rfl) rfl<|Ek8 0 1 10 11 12 13 15 79 rfl<|Be rfl (fun h79 => ?_) (fun h79 => ?_)
 ·refine Cr<|Em rfl rfl<|Ea rfl rfl<|Ea rfl rfl<|Ek10 0 1 8 9 10 11 12 13 15 79 rfl<|Av ?_
  exact ⟨_,_,rfl,rfl,_,[_,_,_,_],drop5,_,_,_,_,_,_,rfl,rfl,hsl,by omega,by omega,by omega,.inr (.inl ⟨rfl,hSy.bad hv1 hv2 (copyR_30 hm2 hds (by omega))⟩)⟩
 have hd30 : d < 30 := by omega
 obtain ⟨fua,fuo,fuc,hfur,hfurc⟩ := hS.further
 have hful : furL.length = 30 := rfl
 obtain ⟨faa,fao,fac,hfar,hfarc⟩ := hS.far
 have hfal : farL.length = 30 := rfl
 have hf13 : furL.getD d 0 ≤ 13 := getD_le fur_le d
 refine Ar<|Cr<|Em rfl rfl<|Ah (Bd rfl hfur Tryz.isAgg23) rfl<|Em rfl rfl<|Aa (Bw rfl rfl (by omega) Tu23 Tz3) rfl<|Ah (Bd rfl (hfurc (d) (by omega)) Ta3) rfl ?_
 refine Ak (OpX.pick [0] (F:=(_::_::_::_::_)) rfl (Au rfl Tryz.call47 (Fg rb ba bc dt hD hl (p + lenOf t.lit v + moreL.getD (v - 257) 0 + lenOf t.dist d) (furL.getD d 0) hq3 (by omega)))) rfl ?_; rintro _ _ ⟨_,⟨y,okf,p8,rfl,rfl,hTf⟩,rfl⟩; refine Ab (L2:=(_::_::_::_::_::_)) rfl ?_
 refine Bt [0,0,0,0,0] rfl<|Ab (L2:=(_::_::_::_::_::_)) rfl<|Em rfl rfl<|Aa (Bb rfl rfl) rfl<|Aa (Bb rfl rfl) rfl<|Ea rfl rfl<|Ea rfl rfl<|Ek10 0 1 10 11 12 13 14 15 16 79 rfl<|Ap<|Cr<|Em rfl rfl<|Aa (Fr rfl) rfl ?_
 refine Em rfl rfl<|E.forkB (fun g92 => ?_) (fun g92 => ?_)
 ·have hp8 := hTf.le hq3
  refine Ag 92 true rfl rfl rfl rfl<|Ag 92 true rfl rfl rfl rfl<|Ag 92 true rfl rfl rfl rfl<|Ag 92 true rfl rfl rfl rfl<|Ag 92 true rfl rfl rfl rfl<|Ag 92 true rfl rfl rfl rfl<|Ag 92 true rfl rfl rfl rfl<|Ag 92 true rfl rfl rfl rfl<|Ag 92 true rfl rfl rfl rfl<|Aa (By rfl rfl) rfl<|Ek11 0 1 10 11 12 13 14 15 16 79 102 rfl<|Ft rfl (rfl) ?_
  refine Cr<|Em rfl rfl<|Ea rfl rfl<|Ea rfl rfl<|Ek13 0 1 8 9 10 11 12 13 14 15 16 79 102 rfl<|Av ?_
  exact ⟨_,_,rfl,rfl,_,[_,_,_,_],drop5,_,_,_,_,_,_,rfl,rfl,hsl,by omega,by omega,by omega,.inr (.inl ⟨rfl,hSy.bad hv1 hv2 (copyR_fur hm2 hds hd30 (hTf.no (by simpa using g92)).1)⟩)⟩
 obtain ⟨hfy,rfl,rfl⟩ := hTf.yes (by simpa using g92)
 have hfbd := far_bound (D:=dt) (p:=p + lenOf t.lit v + moreL.getD (v - 257) 0 + lenOf t.dist d) hd30
 have hcp := copyR_some hm2 hds hd30 (by omega)
 have hq4 : p + lenOf t.lit v + moreL.getD (v - 257) 0 + lenOf t.dist d + furL.getD d 0 ≤ 8 * dt.length := by unfold left at hfy; omega
 refine Aj 92 rfl rfl<|Em rfl rfl<|Aj 92 rfl rfl<|Ah (Bd rfl hfar Tryz.isAgg23) rfl<|Aj 92 rfl rfl<|Em rfl rfl<|Aj 92 rfl rfl<|Aa (Bw rfl rfl (by omega) Tu23 Tz3) rfl<|Aj 92 rfl rfl<|Ah (Bd rfl (hfarc (d) (by omega)) Ta3) rfl<|Aj 92 rfl rfl<|Aa (Bh rfl rfl (N.add64 (by omega))) rfl ?_
 refine Aj 92 rfl rfl<|Em rfl rfl<|Aj 92 rfl rfl<|Aa (Bk rfl Tu25) rfl<|Aj 92 rfl rfl<|Aa (Gg rfl rfl) rfl<|Aa (Bs rfl rfl) rfl<|Ek11 0 1 10 11 12 13 14 15 16 79 102 rfl<|Be rfl (fun h102 => ?_) (fun h102 => ?_)
 ·refine Cr<|Em rfl rfl<|Ea rfl rfl<|Ea rfl rfl<|Ek13 0 1 8 9 10 11 12 13 14 15 16 79 102 rfl<|Av ?_
  exact ⟨_,_,rfl,rfl,_,[_,_,_,_],drop5,_,_,_,_,_,_,rfl,rfl,hsl,by omega,by omega,by omega,.inr (.inl ⟨rfl,hSy.far hv1 hv2 hcp (by omega)⟩)⟩
 refine Ar<|Cr<|Em rfl rfl<|Ah (Bd rfl hfar Tryz.isAgg23) rfl<|Em rfl rfl<|Aa (Bw rfl rfl (by omega) Tu23 Tz3) rfl<|Ah (Bd rfl (hfarc (d) (by omega)) Ta3) rfl<|Aa (Bh rfl rfl (N.add64 (by omega))) rfl<|Ea rfl rfl<|Ek11 0 1 10 11 12 13 14 15 16 79 102 rfl<|Cr<|Em rfl rfl ?_
 refine Em rfl rfl<|Ek13 0 1 10 11 12 13 14 15 16 79 102 110 111 rfl<|Ax<|Bx (fun mm ee ll => ∃ (j : Nat),∃ (ol : List UInt8),∃ (oa2 : Option Addr),∃ (oc2 : Nat),∃ (Lo2 : Frags),keeps ee [0,1,10,11,16,110,111] = some [(0,.pointer (some ⟨rb,0,none⟩)),(1,.slice oa2 (ol).length oc2),(10,.slice (some ⟨tb1,0,none⟩) (2 ^ (maxL t.lit + 1)) (2 ^ (maxL t.lit + 1))),(11,.slice (some ⟨tb2,0,none⟩) (2 ^ (maxL t.dist + 1)) (2 ^ (maxL t.dist + 1))),(16,.int .i64 ((takeB dt (p + lenOf t.lit v + moreL.getD (v - 257) 0 + lenOf t.dist d) (furL.getD d 0) + farL.getD d 0 : Nat) : Int)),(110,.int .i64 ((takeB dt (p + lenOf t.lit v) (moreL.getD (v - 257) 0) + sizesL.getD (v - 257) 0 : Nat) : Int)),(111,.int .i64 ((j : Nat) : Int))] ∧ ll = [⟨rb,0,[.slice ba dt.length bc,.int .i64 (((p + lenOf t.lit v + moreL.getD (v - 257) 0 + lenOf t.dist d + furL.getD d 0) : Nat) : Int)]⟩,⟨tb1,0,cellsI (2 ^ (maxL t.lit + 1)) f1⟩,⟨tb2,0,cellsI (2 ^ (maxL t.dist + 1)) f2⟩,⟨lb,lo,intsV t.lit ++ ls⟩,⟨db,do_,intsV t.dist ++ ds⟩] ++ Lo2 ∧ (j ≤ takeB dt (p + lenOf t.lit v) (moreL.getD (v - 257) 0) + sizesL.getD (v - 257) 0) ∧ (ol = copyN out (takeB dt (p + lenOf t.lit v + moreL.getD (v - 257) 0 + lenOf t.dist d) (furL.getD d 0) + farL.getD d 0) j) ∧ (Sl 1 (.slice oa2 (ol).length oc2) ol.length (bytesV ol) Lo2) ∧ mm = (takeB dt (p + lenOf t.lit v) (moreL.getD (v - 257) 0) + sizesL.getD (v - 257) 0) - j) (_) ⟨0,out,_,_,_,rfl,rfl,by omega,rfl,hsl,rfl⟩ ?_
 rintro m1 _ _ ⟨j,ol,oa2,oc2,Lo2,hk1,rfl,hj,hjo,hsl3,hm1⟩
 refine Ba _ hk1<|Cr<|Aa (Dk rfl rfl) rfl<|Ek8 0 1 10 11 16 110 111 112 rfl<|Ap<|Be rfl (fun h112 => ?_) (fun h112 => ?_)
 ·have hol : ol.length = out.length + j := by rw [hjo,copyN_len]
  obtain ⟨ob,oo,occ,ocs,hav,rfl,hlc1,hlc2⟩ := hsl3.bytes (by omega)
  obtain ⟨rfl,rfl⟩ : oa2 = some ⟨ob,oo,none⟩ ∧ oc2 = occ := by injection hav with h1 h2 h3; exact ⟨h1,h3⟩
  refine Bq (L2:=[_,_,_,_,_,⟨ob,oo,bytesV ol ++ ocs⟩]) rfl<|Ar<|Ap<|Ax<|Al<|Em rfl rfl<|Em rfl rfl<|Em rfl rfl<|Aa (Bk rfl Tu25) rfl<|Em rfl rfl<|Aa (Du rfl rfl (N.sub64 (by omega) (by omega))) rfl<|Aa (Bw rfl rfl (by omega) Tu25 Tz5) rfl ?_
  refine Ah (An 5 (k:=(ol.length - (takeB dt (p + lenOf t.lit v + moreL.getD (v - 257) 0 + lenOf t.dist d) (furL.getD d 0) + farL.getD d 0)) * 1) rfl rfl (bytes_getD (by omega)) Ta5) rfl ?_
  refine Ak (Dd (vs:=[.int .u8 (((ol.getD (ol.length - (takeB dt (p + lenOf t.lit v + moreL.getD (v - 257) 0 + lenOf t.dist d) (furL.getD d 0) + farL.getD d 0)) 0).toNat : Nat) : Int)]) (e:=5) [(0,.int .u8 (((ol.getD (ol.length - (takeB dt (p + lenOf t.lit v + moreL.getD (v - 257) 0 + lenOf t.dist d) (furL.getD d 0) + farL.getD d 0)) 0).toNat : Nat) : Int))] rfl (fun w => by simp [Instr.buildSlice,Instr.fill,Value.cells,newRow,Tryz.runUnderlying25,Tryz.typeInfo5]; rw [arr1])) rfl ?_
  rintro _ _ ⟨yb,rfl,rfl⟩
  refine Ab (L2:=[⟨yb,0,_⟩,_,_,_,_,_] ++ [⟨ob,oo,bytesV ol ++ ocs⟩]) rfl<|Eb (Same.perm List.perm_append_comm) ?_
  refine Ak (Gv (L:=[⟨yb,0,_⟩,_,_,_,_,_]) (xs:=ol) (ys:=[ol.getD (ol.length - (takeB dt (p + lenOf t.lit v + moreL.getD (v - 257) 0 + lenOf t.dist d) (furL.getD d 0) + farL.getD d 0)) 0]) (Lf:=[⟨ob,oo,bytesV ol ++ ocs⟩]) rfl rfl hsl3 rfl (.inr ⟨yb,0,rfl,Reads.mem (k:=0) (List.mem_append_right _ (.head _)) rfl⟩) (by simp only [List.length_cons,List.length_nil]; omega)) rfl ?_
  rintro v2 _ ⟨Lo3,hsl4,rfl⟩
  refine Fw (A:=[_,_,_,_,_] ++ Lo3) (F:=[_]) (Same.perm app_perm)<|Ab (L2:=_::_::_::_::_::Lo3) rfl ?_
  obtain ⟨oa3,oc3,rfl⟩ := hsl4.form
  refine Ea rfl rfl<|Ek8 0 1 10 11 16 110 111 112 rfl<|Al<|Aa (Bh (b:=((1 : Nat) : Int)) rfl rfl (N.add64 (by omega))) rfl<|Em rfl rfl<|Ek8 0 1 10 11 16 110 111 112 rfl ?_
  refine ⟨_,?_,j + 1,_,_,_,_,rfl,rfl,by omega,(by rw [hjo]; rfl),hsl4,rfl⟩; omega
 refine Bu rfl ?_
 have hjn : j = takeB dt (p + lenOf t.lit v) (moreL.getD (v - 257) 0) + sizesL.getD (v - 257) 0 := by omega
 subst hjn
 have hol : ol.length = out.length + (takeB dt (p + lenOf t.lit v) (moreL.getD (v - 257) 0) + sizesL.getD (v - 257) 0) := by rw [hjo,copyN_len]
 have hInv2 : InB dt R last t ol (p + lenOf t.lit v + moreL.getD (v - 257) 0 + lenOf t.dist d + furL.getD d 0) := by rw [hjo,Nat.add_comm (takeB dt (p + lenOf t.lit v) (moreL.getD (v - 257) 0)),Nat.add_comm (takeB dt (p + lenOf t.lit v + moreL.getD (v - 257) 0 + lenOf t.dist d) (furL.getD d 0))]; exact hSy.go hv1 hv2 hcp (by omega) (by omega) (by omega)
 refine ⟨_,?_,ol,p + lenOf t.lit v + moreL.getD (v - 257) 0 + lenOf t.dist d + furL.getD d 0,_,_,_,rfl,rfl,hInv2,by omega,by omega,by omega,hsl3,rfl⟩; omega
theorem block_spec {K : Known} (rb : Nat) (ba : Option Addr) (bc : Nat) (dt : List UInt8) (hD : DB K ba dt) (hl : dt.length ≤ 65536) (hS : SpT K) (p0 : Nat) (hp0 : p0 ≤ 8 * dt.length) (t : Tabs) (hok1 : okLens t.lit) (hok2 : okLens t.dist) (h15a : ∀ x ∈ t.lit,x ≤ 15) (h15b : ∀ x ∈ t.dist,x ≤ 15) (hle1 : t.lit.length ≤ 320) (hle2 : t.dist.length ≤ 320) (hmn : t.mn = max (minL t.lit) (lenOf t.lit 256)) (lb lo lc db do_ dc : Nat) (ls ds : List Value) (out : List UInt8) (oa : Option Addr) (oc : Nat) (Lo : Frags) (hsl : Sl 1 (.slice oa out.length oc) out.length (bytesV out) Lo) (hout : out.length ≤ 300 * p0) (R : ResR) (last : Bool) (hR : R = run dt (.sym last t) out p0) :
    Fn Tryz.prog K 49 #[.pointer (some ⟨rb,0,none⟩),.slice oa (out).length oc,.slice (some ⟨lb,lo,none⟩) t.lit.length lc,.slice (some ⟨db,do_,none⟩) t.dist.length dc] ([⟨rb,0,[.slice ba dt.length bc,.int .i64 (((p0) : Nat) : Int)]⟩,⟨lb,lo,intsV t.lit ++ ls⟩,⟨db,do_,intsV t.dist ++ ds⟩] ++ Lo) (BlockR dt rb ba bc p0 R last) := by
  refine Fn.lose (block_walk rb ba bc dt hD hl hS p0 hp0 t hok1 hok2 h15a h15b hle1 hle2 hmn lb lo lc db do_ dc ls ds out oa oc Lo hsl hout R last hR) ?_
  rintro r L ⟨L2,J,hS,h⟩
  exact ⟨L2,J,hS,h⟩
abbrev SpR := Hd × Nat × Nat × Nat
def sp4 (b : List UInt8) (flg n : Nat) (h : Hd) : SpR :=
  if flg &&& 2 = 0 then (h,n,0,0)
  else if b.length - n < 2 then (h,0,1,0)
  else if le16of (b.drop n) ≠ crcOn IEEE 0 (b.take n) % 65536 then (h,0,1,2)
  else (h,n + 2,0,0)
def sp3 (b : List UInt8) (flg n : Nat) (h : Hd) : SpR :=
  if flg &&& 16 = 0 then sp4 b flg n h
  else if n + strLen (b.drop n) = b.length then (h,0,1,0)
  else if 512 ≤ strLen (b.drop n) then (h,0,2,0)
  else sp4 b flg (n + (strLen (b.drop n) + 1)) { h with comment := latin ((b.drop n).take (strLen (b.drop n))) }
def sp2 (b : List UInt8) (flg n : Nat) (h : Hd) : SpR :=
  if flg &&& 8 = 0 then sp3 b flg n h
  else if n + strLen (b.drop n) = b.length then (h,0,1,0)
  else if 512 ≤ strLen (b.drop n) then (h,0,2,0)
  else sp3 b flg (n + (strLen (b.drop n) + 1)) { h with name := latin ((b.drop n).take (strLen (b.drop n))) }
def sp1 (b : List UInt8) (flg : Nat) (h : Hd) : SpR :=
  if flg &&& 4 = 0 then sp2 b flg 10 h
  else if b.length - 10 < 2 ∨ b.length - 10 - 2 < le16of (b.drop 10) then (h,0,1,0)
  else sp2 b flg (10 + (2 + le16of (b.drop 10))) { h with extra := some (((b.drop 10).drop 2).take (le16of (b.drop 10))) }
def As (b : List UInt8) : SpR :=
  if b.length < 10 then (noHd,0,1,0)
  else if (b.getD 0 0).toNat = 31 ∧ (b.getD 1 0).toNat = 139 ∧ (b.getD 2 0).toNat = 8 then
    if (b.getD 3 0).toNat &&& 224 ≠ 0 then (noHd,0,2,0)
    else sp1 b (b.getD 3 0).toNat { noHd with mod := le32 (b.getD 4 0).toNat (b.getD 5 0).toNat (b.getD 6 0).toNat (b.getD 7 0).toNat,os := (b.getD 9 0).toNat }
  else (noHd,0,1,2)
def Agrees (l : List UInt8) (r : Er × List UInt8 × Hd) (s : SpR) : Prop :=
  (s.2.2.1 = 2) ∨ (s.2.2.1 = 0 ∧ r.1 = .none ∧ r.2.1 = l.drop s.2.1 ∧ s.2.1 ≤ l.length ∧ r.2.2 = s.1) ∨ (s.2.2.1 = 1 ∧ r.1 ≠ .none ∧ (s.2.2.2 = 2 → r.1 = .header))
theorem agrees4 {b : List UInt8} {flg n d : Nat} {h : Hd} (hn : n ≤ b.length) (hd : d = crcOn IEEE 0 (b.take n)) : Agrees b (rd4 (b.drop n) flg d h) (sp4 b flg n h) := by
  unfold rd4 sp4
  by_cases h1 : flg &&& 2 = 0
  · rw [if_pos h1,if_pos h1]
    exact .inr (.inl ⟨rfl,rfl,rfl,hn,rfl⟩)
  · rw [if_neg h1,if_neg h1]
    have hl : (b.drop n).length = b.length - n := List.length_drop
    by_cases h2 : b.length - n < 2
    · have h3 : De (b.drop n) 2 ≠ .none := En.2 (by omega)
      rw [if_pos h3,if_pos h2]
      exact .inr (.inr ⟨rfl,Dl h3,fun h => by cases h⟩)
    · have h3 : ¬ De (b.drop n) 2 ≠ .none := fun h => h2 (by rw [En] at h; omega)
      rw [if_neg h3,if_neg h2,hd]
      split
      · exact .inr (.inr ⟨rfl,by simp,fun _ => rfl⟩)
      · exact .inr (.inl ⟨rfl,rfl,List.drop_drop,by simp only; omega,rfl⟩)
theorem str_cases (l : List UInt8) : (strLen l = l.length ∧ strEr l ≠ .none) ∨ (strLen l < l.length ∧ 512 ≤ strLen l) ∨ (strLen l < l.length ∧ strLen l < 512 ∧ strEr l = .none ∧ Fb l = strLen l + 1 ∧ strTxt l = latin (l.take (strLen l)) ∧ ∀ d,strCrc d l = crcOn IEEE d (l.take (strLen l + 1))) := by
  have hle := strLen_le l
  rcases Nat.lt_or_ge (strLen l) l.length with h | h
  · right
    rcases Nat.lt_or_ge (strLen l) 512 with h2 | h2
    · right
      have h3 : min (strLen l + 1) l.length = strLen l + 1 := by omega
      simp [strEr,Fb,strTxt,strCrc,strOk,h,h2,h3]
    · exact .inl ⟨h,h2⟩
  · left
    refine ⟨by omega,?_⟩
    unfold strEr
    split
    · rw [if_neg (by omega)]; simp
    · simp
theorem crc_more {b : List UInt8} {n k : Nat} (d : Nat) (hd : d = crcOn IEEE 0 (b.take n)) : crcOn IEEE d ((b.drop n).take k) = crcOn IEEE 0 (b.take (n + k)) := by
  rw [hd,crcOn_append,← List.take_add]
theorem agrees3 {b : List UInt8} {flg n d : Nat} {h : Hd} (hn : n ≤ b.length) (hd : d = crcOn IEEE 0 (b.take n)) : Agrees b (rd3 (b.drop n) flg d h) (sp3 b flg n h) := by
  unfold rd3 sp3
  by_cases h1 : flg &&& 16 = 0
  · rw [if_pos h1,if_pos h1]; exact agrees4 hn hd
  · rw [if_neg h1,if_neg h1]
    have hl : (b.drop n).length = b.length - n := List.length_drop
    rcases str_cases (b.drop n) with ⟨e1,e2⟩ | ⟨e1,e2⟩ | ⟨e1,e2,e3,e4,e5,e6⟩
    · rw [if_pos e2,if_pos (by omega)]
      exact .inr (.inr ⟨rfl,Dl e2,fun h => by cases h⟩)
    · rw [if_neg (by omega : ¬ n + strLen (b.drop n) = b.length),if_pos e2]
      exact .inl rfl
    · rw [if_neg (by simpa using e3),if_neg (by omega : ¬ n + strLen (b.drop n) = b.length),if_neg (by omega : ¬ 512 ≤ strLen (b.drop n)),e4,e5,List.drop_drop]
      exact agrees4 (by omega) (by rw [e6]; exact crc_more d hd)
theorem agrees2 {b : List UInt8} {flg n d : Nat} {h : Hd} (hn : n ≤ b.length) (hd : d = crcOn IEEE 0 (b.take n)) : Agrees b (rd2 (b.drop n) flg d h) (sp2 b flg n h) := by
  unfold rd2 sp2
  by_cases h1 : flg &&& 8 = 0
  · rw [if_pos h1,if_pos h1]; exact agrees3 hn hd
  · rw [if_neg h1,if_neg h1]
    have hl : (b.drop n).length = b.length - n := List.length_drop
    rcases str_cases (b.drop n) with ⟨e1,e2⟩ | ⟨e1,e2⟩ | ⟨e1,e2,e3,e4,e5,e6⟩
    · rw [if_pos e2,if_pos (by omega)]
      exact .inr (.inr ⟨rfl,Dl e2,fun h => by cases h⟩)
    · rw [if_neg (by omega : ¬ n + strLen (b.drop n) = b.length),if_pos e2]
      exact .inl rfl
    · rw [if_neg (by simpa using e3),if_neg (by omega : ¬ n + strLen (b.drop n) = b.length),if_neg (by omega : ¬ 512 ≤ strLen (b.drop n)),e4,e5,List.drop_drop]
      exact agrees3 (by omega) (by rw [e6]; exact crc_more d hd)
theorem agrees1 {b : List UInt8} {flg d : Nat} {h : Hd} (hn : 10 ≤ b.length) (hd : d = crcOn IEEE 0 (b.take 10)) : Agrees b (rd1 (b.drop 10) flg d h) (sp1 b flg h) := by
  unfold rd1 sp1
  by_cases h1 : flg &&& 4 = 0
  · rw [if_pos h1,if_pos h1]; exact agrees2 hn hd
  · rw [if_neg h1,if_neg h1]
    have hl : (b.drop 10).length = b.length - 10 := List.length_drop
    have hl2 : ((b.drop 10).drop 2).length = b.length - 10 - 2 := by rw [List.length_drop,hl]
    by_cases h2 : b.length - 10 < 2
    · have h3 : De (b.drop 10) 2 ≠ .none := En.2 (by omega)
      rw [if_pos h3,if_pos (.inl h2)]
      exact .inr (.inr ⟨rfl,Dl h3,fun h => by cases h⟩)
    · have h3 : ¬ De (b.drop 10) 2 ≠ .none := fun h => h2 (by rw [En] at h; omega)
      rw [if_neg h3]
      by_cases h4 : b.length - 10 - 2 < le16of (b.drop 10)
      · have h5 : De ((b.drop 10).drop 2) (le16of (b.drop 10)) ≠ .none := En.2 (by omega)
        rw [if_pos h5,if_pos (.inr h4)]
        exact .inr (.inr ⟨rfl,Dl h5,fun h => by cases h⟩)
      · have h5 : ¬ De ((b.drop 10).drop 2) (le16of (b.drop 10)) ≠ .none := fun h => h4 (by rw [En] at h; omega)
        rw [if_neg h5,if_neg (by omega)]
        have e1 : ((b.drop 10).drop 2).drop (le16of (b.drop 10)) = b.drop (10 + (2 + le16of (b.drop 10))) := by rw [List.drop_drop,List.drop_drop]
        rw [e1]
        refine agrees2 (by omega) ?_
        rw [crc_more d hd,List.drop_drop,crc_more _ rfl,Nat.add_assoc]
theorem agrees (b : List UInt8) : Agrees b (Ac b) (As b) := by
  unfold Ac As
  by_cases h1 : b.length < 10
  · have h2 : De b 10 ≠ .none := En.2 h1
    rw [if_pos h2,if_pos h1]
    exact .inr (.inr ⟨rfl,h2,fun h => by cases h⟩)
  · have h2 : ¬ De b 10 ≠ .none := fun h => h1 (En.1 h)
    rw [if_neg h2,if_neg h1]
    split
    · split
      · exact .inl rfl
      · exact agrees1 (by omega) rfl
    · exact .inr (.inr ⟨rfl,by simp,fun _ => rfl⟩)
theorem KB.sub {K : Known} {b o : Nat} {l : List UInt8} (h : KB K b o l) (k m : Nat) : KB K b (o + k) ((l.drop k).take m) := by
  intro j hj
  have hj' : j < (l.drop k).length := Nat.lt_of_lt_of_le hj (by rw [List.length_take]; exact Nat.min_le_right _ _)
  rw [h.drop k j hj',List.getElem_take]
theorem KB.mono {K K' : Known} (hk : ∀ b o,K b = some o → K' b = some o) {b o : Nat} {l : List UInt8} (h : KB K b o l) : KB K' b o l := fun j hj => cellAt_mono hk (h j hj)
theorem latin_any {K : Known} {L : Frags} (pb po cap : Nat) (l : List UInt8) (hp : KB K pb po l) (hl : l.length ≤ 35184372088832) : Fn Tryz.prog K 46 #[.slice (some ⟨pb,po,none⟩) (l.length) (cap)] L (fun v L' => v = .string (latin l) ∧ L' = L) :=
  Fn.stillR fun w hw => latin_spec pb po cap l (hp.mono fun b o h => hw.base b o h) hl
def ExSp (ex : Option (List UInt8)) (v : Value) (g : Frag) : Prop := match ex with
  | none => v = .slice none 0 0
  | some d => (d = [] ∧ v = .slice none 0 0) ∨ Own d v g
def spK (b : List UInt8) (flg k n : Nat) (h : Hd) : SpR := if k = 0 then sp2 b flg n h else if k = 1 then sp3 b flg n h else sp4 b flg n h
def flagK (k : Nat) : Nat := if k = 0 then 8 else 16
theorem flagK_lt (k : Nat) : flagK k < 256 := by unfold flagK; split <;> decide
theorem spK_skip {b : List UInt8} {flg k n : Nat} {h : Hd} (hk : k < 2) (hf : flg &&& flagK k = 0) : spK b flg k n h = spK b flg (k + 1) n h := by
  rcases (show k = 0 ∨ k = 1 by omega) with rfl | rfl
  · have hf' : flg &&& 8 = 0 := hf
    show sp2 b flg n h = sp3 b flg n h
    rw [sp2,if_pos hf']
  · have hf' : flg &&& 16 = 0 := hf
    show sp3 b flg n h = sp4 b flg n h
    rw [sp3,if_pos hf']
theorem spK_bad {b : List UInt8} {flg k n : Nat} {h : Hd} (hk : k < 2) (hf : ¬ flg &&& flagK k = 0) (he : n + strLen (b.drop n) = b.length) : spK b flg k n h = (h,0,1,0) := by
  rcases (show k = 0 ∨ k = 1 by omega) with rfl | rfl
  · have hf' : ¬ flg &&& 8 = 0 := hf
    show sp2 b flg n h = _
    rw [sp2,if_neg hf',if_pos he]
  · have hf' : ¬ flg &&& 16 = 0 := hf
    show sp3 b flg n h = _
    rw [sp3,if_neg hf',if_pos he]
theorem spK_open {b : List UInt8} {flg k n : Nat} {h : Hd} (hk : k < 2) (hf : ¬ flg &&& flagK k = 0) (he : ¬ n + strLen (b.drop n) = b.length) (hl : 512 ≤ strLen (b.drop n)) : spK b flg k n h = (h,0,2,0) := by
  rcases (show k = 0 ∨ k = 1 by omega) with rfl | rfl
  · have hf' : ¬ flg &&& 8 = 0 := hf
    show sp2 b flg n h = _
    rw [sp2,if_neg hf',if_neg he,if_pos hl]
  · have hf' : ¬ flg &&& 16 = 0 := hf
    show sp3 b flg n h = _
    rw [sp3,if_neg hf',if_neg he,if_pos hl]
theorem spK_name {b : List UInt8} {flg n : Nat} {h : Hd} (hf : ¬ flg &&& flagK 0 = 0) (he : ¬ n + strLen (b.drop n) = b.length) (hl : ¬ 512 ≤ strLen (b.drop n)) :
    spK b flg 0 n h = spK b flg 1 (n + (strLen (b.drop n) + 1)) { h with name := latin ((b.drop n).take (strLen (b.drop n))) } := by
  have hf' : ¬ flg &&& 8 = 0 := hf
  show sp2 b flg n h = sp3 _ _ _ _
  rw [sp2,if_neg hf',if_neg he,if_neg hl]
theorem Fy {b : List UInt8} {flg n : Nat} {h : Hd} (hf : ¬ flg &&& flagK 1 = 0) (he : ¬ n + strLen (b.drop n) = b.length) (hl : ¬ 512 ≤ strLen (b.drop n)) :
    spK b flg 1 n h = spK b flg 2 (n + (strLen (b.drop n) + 1)) { h with comment := latin ((b.drop n).take (strLen (b.drop n))) } := by
  have hf' : ¬ flg &&& 16 = 0 := hf
  show sp3 b flg n h = sp4 _ _ _ _
  rw [sp3,if_neg hf',if_neg he,if_neg hl]
theorem Fz {l : List UInt8} (h : 2 ≤ l.length) : Fi (l.take 2) = le16of l := by
  match l,h with
  | a::c::r,_ =>
    show a.toNat + 256 * (c.toNat + 256 * 0) = le16 a.toNat c.toNat
    rw [le16_val a.toNat_lt c.toNat_lt]; omega
theorem le32_val {a b c d : Nat} (ha : a < 256) (hb : b < 256) (hc : c < 256) (hd : d < 256) : le32 a b c d = a + 256 * b + 65536 * c + 16777216 * d := by
  unfold le32
  rw [show (b <<< 8) % 4294967296 = b <<< 8 by rw [Nat.shiftLeft_eq]; omega,show (c <<< 16) % 4294967296 = c <<< 16 by rw [Nat.shiftLeft_eq]; omega,show (d <<< 24) % 4294967296 = d <<< 24 by rw [Nat.shiftLeft_eq]; omega]
  have h1 := Nat.shiftLeft_add_eq_or_of_lt (b:=a) (i:=8) (by omega) b
  have h2 := Nat.shiftLeft_add_eq_or_of_lt (b:=a ||| b <<< 8) (i:=16) (by rw [Nat.or_comm,← h1,Nat.shiftLeft_eq]; omega) c
  have h3 := Nat.shiftLeft_add_eq_or_of_lt (b:=a ||| b <<< 8 ||| c <<< 16) (i:=24) (by rw [Nat.or_comm,← h2,Nat.or_comm a,← h1,Nat.shiftLeft_eq,Nat.shiftLeft_eq]; omega) d
  rw [Nat.or_comm _ (d <<< 24),← h3,Nat.or_comm _ (c <<< 16),← h2,Nat.or_comm a,← h1]
  simp only [Nat.shiftLeft_eq]; omega
theorem le32_little {l : List UInt8} (h : 4 ≤ l.length) : Fi (l.take 4) = le32 (l.getD 0 0).toNat (l.getD 1 0).toNat (l.getD 2 0).toNat (l.getD 3 0).toNat := by
  match l,h with
  | a::c::x::y::r,_ =>
    show a.toNat + 256 * (c.toNat + 256 * (x.toNat + 256 * (y.toNat + 256 * 0))) = le32 a.toNat c.toNat x.toNat y.toNat
    rw [le32_val a.toNat_lt c.toNat_lt x.toNat_lt y.toNat_lt]; omega
section
variable {K : Known} {n : Nat} {env : Env} {L : Frags} {ty : TypeId}
theorem X.appendNil {x y : Operand} {k yc : Nat} {ya : Option Addr} {ys : List UInt8} (hx : ev? env x = some (.slice none 0 0)) (hy : ev? env y = some (.slice ya k yc)) (hk : k = ys.length)
    (hread : ∃ yb yo,ya = some ⟨yb,yo,none⟩ ∧ Reads K L yb yo (bytesV ys)) (hb : ys.length ≤ 140737488355328) :
    OpX Tryz.prog K n (.call { callee := .builtin .append,args := #[x,y],argTypes := #[25,25] }) ty env L fun v' L' =>
      (ys = [] ∧ v' = .slice none 0 0 ∧ L' = L) ∨ (∃ b o c cs,ys ≠ [] ∧ v' = .slice (some ⟨b,o,none⟩) ys.length c ∧ L' = ⟨b,o,bytesV ys ++ cs⟩::L ∧ ys.length ≤ c) := by
  by_cases he : ys = []
  · subst he
    intro ac w hf hw
    subst hk
    have hrun : (Builtin.append_ #[25,25] ty #[.slice none 0 0,.slice ya 0 yc]).run Tryz.prog w = .ok (.slice none 0 0) w := by
      cases ya <;> simp [Builtin.append_,run_underlying Tu25,sizeOf,typeInfo,infoB,Tryz.t5,Builtin.lenOf,Builtin.firstCells,loadCells,loadCellsFrom]
    have : (exop ac.eval (.call { callee := .builtin .append,args := #[x,y],argTypes := #[25,25] }) ty).run Tryz.prog w = .ok (.value (.slice none 0 0)) w := by
      simp only [exop,execOp,resolve]
      simp [hf.eval hx,hf.eval hy,invoke_builtin,Hc .append _ _ _ _ _ rfl hrun]
    rw [this]
    exact ⟨_,.inl ⟨rfl,rfl,rfl⟩,To.refl hw⟩
  · have h := Gv (K:=K) (n:=n) (ty:=ty) (env:=env) (L:=L) (xs:=[]) (ys:=ys) (Lf:=[]) hx hy (Sl.nil 1) hk (.inr hread) (by simpa using hb)
    refine OpX.mono h ?_
    rintro v' L' ⟨Lf',h1,rfl⟩
    rw [List.nil_append] at h1
    obtain ⟨b,o,c,cs,rfl,rfl,h2,h3,h4,h5⟩ := h1.one (List.length_pos_iff.2 he)
    rw [Nat.mul_one] at h5
    exact .inr ⟨b,o,c,cs.drop ys.length,he,rfl,by rw [← h5]; simp,h3⟩
end
theorem getD_kb {K : Known} {pb po : Nat} {b : List UInt8} (hp : KB K pb po b) {j : Nat} (hj : j < b.length) : cellAt K pb (po + j * 1) = some (u8 (b.getD j 0)) := by
  rw [hp.at hj]; simp [hj]
def StartRes (b : List UInt8) (r : Value) (L : Frags) : Prop :=
  ∃ xa xn xc g,ExSp (As b).1.extra (.slice xa xn xc) g ∧ g ∈ L ∧
    r = .tuple #[.agg #[.string (As b).1.name,.string (As b).1.comment,.slice xa xn xc,.int .i64 (((As b).1.mod : Nat) : Int),.int .u8 (((As b).1.os : Nat) : Int)],.int .i64 (((As b).2.1 : Nat) : Int),.int .i64 (((As b).2.2.1 : Nat) : Int),.int .i64 (((As b).2.2.2 : Nat) : Int)]
theorem flagK_get (k : Nat) (hk : k < 2) : ([.int .u8 8,.int .u8 16] : List Value)[k]? = some (.int .u8 ((flagK k : Nat) : Int)) := by
  rcases (show k = 0 ∨ k = 1 by omega) with rfl | rfl <;> rfl
theorem nz_more {l : List UInt8} {s : Nat} (h : ∀ c ∈ l.take s,c ≠ 0) (hs : s < l.length) (hz : l[s] ≠ 0) : ∀ c ∈ l.take (s + 1),c ≠ 0 := by
  rw [Ds hs]
  intro c hc
  rcases List.mem_append.1 hc with h1 | h1
  · exact h c h1
  · rw [List.mem_singleton.1 h1]; exact hz
theorem kb_part {K : Known} {pb po cap : Nat} {b : List UInt8} (hp : KB K pb po b) (hcap : b.length ≤ cap) (lo m : Nat) : KB K pb (part po lo cap 1) ((b.drop lo).take m) := by
  unfold Go.Eng.part
  split
  · rw [List.drop_eq_nil_of_le (by omega),List.take_nil]
    intro j hj; simp at hj
  · rw [Nat.mul_one]; exact hp.sub lo m
set_option maxHeartbeats 4000000
theorem start_spec {K : Known} (pb po cap : Nat) (b : List UInt8) (hp : KB K pb po b) (hl : b.length ≤ 4294967296) (hcap : b.length ≤ cap) : Fn Tryz.prog K 29 #[.slice (some ⟨pb,po,none⟩) (b.length) (cap)] ([]) (StartRes b) := by
 refine Fn.intro (args:=[.slice (some ⟨pb,po,none⟩) (b.length) (cap)]) (RR:=RetC3 2 5 3 4 5 _) Tryz.func29 rfl rfl Tryz.ntmps29 (resC3 Tryz.results29 Ta32 Tz32) ?_
 refine Bl (env2:=[(0,.slice (some ⟨pb,po,none⟩) (b.length) (cap))]) rfl<|Cr ?_
 refine Ak (Dy Tryz.zeroValue32) rfl ?_; rintro _ _ ⟨b2,rfl,rfl⟩; refine Ab (L2:=[_]) rfl ?_
 refine Ea rfl rfl<|Ea rfl rfl<|Ea rfl rfl<|Ek5 0 2 3 4 5 rfl<|Ap<|Cr<|Em rfl rfl<|Aa (Bk rfl Tu25) rfl<|Aa (Dk (b:=((10 : Nat) : Int)) rfl rfl) rfl<|Ek6 0 2 3 4 5 13 rfl<|Be rfl (fun h13 => ?_) (fun h13 => ?_)
 ·refine Cr<|Ah (Bn 0 (k:=0) rfl rfl rfl rfl Ta32 Tz32) rfl ?_
  refine Ao (Bi 0 (k:=0) rfl rfl rfl rfl rfl rfl Tz32 rfl) ?_; rintro _ _ ⟨rfl,rfl⟩; refine Ab (L2:=[_]) rfl ?_
  refine Ea rfl rfl<|Ea rfl rfl<|Ea rfl rfl<|Ek6 0 2 3 4 5 13 rfl<|Av ?_
  have hRR : As b = (noHd,0,1,0) := by rw [As,if_pos (by omega)]
  refine ⟨_,_,_,_,⟨_,_,0,rfl,rfl,rfl⟩,rfl,rfl,rfl,none,0,0,_,by rw [hRR]; rfl,(.head _),?_⟩
  rw [hRR]; rfl
 have g0 := getD_kb hp (j:=0) (by omega)
 have g1 := getD_kb hp (j:=1) (by omega)
 have g2 := getD_kb hp (j:=2) (by omega)
 have g3 := getD_kb hp (j:=3) (by omega)
 have g9 := getD_kb hp (j:=9) (by omega)
 have e0 := (b.getD 0 0).toNat_lt
 have e1 := (b.getD 1 0).toNat_lt
 have e2 := (b.getD 2 0).toNat_lt
 have e3 := (b.getD 3 0).toNat_lt
 have e4 := (b.getD 4 0).toNat_lt
 have e5 := (b.getD 5 0).toNat_lt
 have e6 := (b.getD 6 0).toNat_lt
 have e7 := (b.getD 7 0).toNat_lt
 have e8 := (b.getD 8 0).toNat_lt
 have e9 := (b.getD 9 0).toNat_lt
 have hmod : Fi ((b.drop 4).take 4) = le32 (b.getD 4 0).toNat (b.getD 5 0).toNat (b.getD 6 0).toNat (b.getD 7 0).toNat := by rw [le32_little (by rw [List.length_drop]; omega)]; simp [List.getD,List.getElem?_drop]
 refine Ar<|Ap<|Cr<|Em rfl rfl<|Aa (Bw (i:=0) rfl rfl (by omega) Tu25 Tz5) rfl<|Ah (Bd rfl (by assumption) Ta5) rfl<|Aa (Fq (b:=((31 : Nat) : Int)) rfl rfl) rfl<|Em rfl rfl<|Ec (fun g19 => ?_) (fun g19 => ?_)
 ·refine Ag 19 true rfl rfl rfl rfl<|Ag 19 true rfl rfl rfl rfl<|Ag 19 true rfl rfl rfl rfl<|Ag 19 true rfl rfl rfl rfl<|Aa (By rfl rfl) rfl<|Em rfl rfl<|Ag 25 true rfl rfl rfl rfl<|Ag 25 true rfl rfl rfl rfl<|Ag 25 true rfl rfl rfl rfl<|Ag 25 true rfl rfl rfl rfl<|Aa (By rfl rfl) rfl<|Ek7 0 2 3 4 5 13 30 rfl ?_
  refine Ft rfl (rfl)<|Cr<|Ah (Bn 0 (k:=0) rfl rfl rfl rfl Ta32 Tz32) rfl ?_
  refine Ao (Bi 0 (k:=0) rfl rfl rfl rfl rfl rfl Tz32 rfl) ?_; rintro _ _ ⟨rfl,rfl⟩; refine Ab (L2:=[_]) rfl ?_
  refine Ea rfl rfl<|Ea rfl rfl<|Ea rfl rfl<|Ek7 0 2 3 4 5 13 30 rfl<|Av ?_
  have hRR : As b = (noHd,0,1,2) := by rw [As,if_neg (by omega),if_neg (by omega)]
  refine ⟨_,_,_,_,⟨_,_,0,rfl,rfl,rfl⟩,rfl,rfl,rfl,none,0,0,_,by rw [hRR]; rfl,(.head _),?_⟩
  rw [hRR]; rfl
 refine Aj 19 rfl rfl<|Em rfl rfl<|Aj 19 rfl rfl<|Aa (Bw (i:=1) rfl rfl (by omega) Tu25 Tz5) rfl<|Aj 19 rfl rfl<|Ah (Bd rfl (by assumption) Ta5) rfl<|Aj 19 rfl rfl<|Aa (Fq (b:=((139 : Nat) : Int)) rfl rfl) rfl<|Aa (Bs rfl rfl) rfl<|Em rfl rfl<|Ec (fun g25 => ?_) (fun g25 => ?_)
 ·refine Ag 25 true rfl rfl rfl rfl<|Ag 25 true rfl rfl rfl rfl<|Ag 25 true rfl rfl rfl rfl<|Ag 25 true rfl rfl rfl rfl<|Aa (By rfl rfl) rfl<|Ek7 0 2 3 4 5 13 30 rfl<|Ft rfl (rfl)<|Cr<|Ah (Bn 0 (k:=0) rfl rfl rfl rfl Ta32 Tz32) rfl ?_
  refine Ao (Bi 0 (k:=0) rfl rfl rfl rfl rfl rfl Tz32 rfl) ?_; rintro _ _ ⟨rfl,rfl⟩; refine Ab (L2:=[_]) rfl ?_
  refine Ea rfl rfl<|Ea rfl rfl<|Ea rfl rfl<|Ek7 0 2 3 4 5 13 30 rfl<|Av ?_
  have hRR : As b = (noHd,0,1,2) := by rw [As,if_neg (by omega),if_neg (by omega)]
  refine ⟨_,_,_,_,⟨_,_,0,rfl,rfl,rfl⟩,rfl,rfl,rfl,none,0,0,_,by rw [hRR]; rfl,(.head _),?_⟩
  rw [hRR]; rfl
 refine Aj 25 rfl rfl<|Em rfl rfl<|Aj 25 rfl rfl<|Aa (Bw (i:=2) rfl rfl (by omega) Tu25 Tz5) rfl<|Aj 25 rfl rfl<|Ah (Bd rfl (by assumption) Ta5) rfl<|Aj 25 rfl rfl<|Aa (Fq (b:=((8 : Nat) : Int)) rfl rfl) rfl<|Aa (Bs rfl rfl) rfl<|Ek7 0 2 3 4 5 13 30 rfl<|Be rfl (fun h30 => ?_) (fun h30 => ?_)
 ·refine Cr<|Ah (Bn 0 (k:=0) rfl rfl rfl rfl Ta32 Tz32) rfl ?_
  refine Ao (Bi 0 (k:=0) rfl rfl rfl rfl rfl rfl Tz32 rfl) ?_; rintro _ _ ⟨rfl,rfl⟩; refine Ab (L2:=[_]) rfl ?_
  refine Ea rfl rfl<|Ea rfl rfl<|Ea rfl rfl<|Ek7 0 2 3 4 5 13 30 rfl<|Av ?_
  have hRR : As b = (noHd,0,1,2) := by rw [As,if_neg (by omega),if_neg (by omega)]
  refine ⟨_,_,_,_,⟨_,_,0,rfl,rfl,rfl⟩,rfl,rfl,rfl,none,0,0,_,by rw [hRR]; rfl,(.head _),?_⟩
  rw [hRR]; rfl
 refine Ar<|Cr<|Em rfl rfl<|Aa (Bw (i:=3) rfl rfl (by omega) Tu25 Tz5) rfl<|Ah (Bd rfl (by assumption) Ta5) rfl<|Ea rfl rfl<|Ek8 0 2 3 4 5 6 13 30 rfl<|Ap<|Cr<|Em rfl rfl<|Aa (Ei (b:=((224 : Nat) : Int)) rfl rfl (N.and_u8 (by omega) (by omega))) rfl<|Aa (Fq (b:=((0 : Nat) : Int)) rfl rfl) rfl ?_
 refine Ek9 0 2 3 4 5 6 13 30 37 rfl<|Be rfl (fun h37 => ?_) (fun h37 => ?_)
 ·refine Cr<|Ah (Bn 0 (k:=0) rfl rfl rfl rfl Ta32 Tz32) rfl ?_
  refine Ao (Bi 0 (k:=0) rfl rfl rfl rfl rfl rfl Tz32 rfl) ?_; rintro _ _ ⟨rfl,rfl⟩; refine Ab (L2:=[_]) rfl ?_
  refine Ea rfl rfl<|Ea rfl rfl<|Ea rfl rfl<|Ek9 0 2 3 4 5 6 13 30 37 rfl<|Av ?_
  have hRR : As b = (noHd,0,2,0) := by rw [As,if_neg (by omega),if_pos (by omega),if_pos (by omega)]
  refine ⟨_,_,_,_,⟨_,_,0,rfl,rfl,rfl⟩,rfl,rfl,rfl,none,0,0,_,by rw [hRR]; rfl,(.head _),?_⟩
  rw [hRR]; rfl
 refine Ar<|Ap<|Br [0,1,2,0,8,16,7,71,255,511] (.pure 0 56 (.pure 1 57 (.pure 3 199 (.pure 4 207 (.alt 2 (.pure 6 63 (.alt 5 (.alt 7 (.pure 8 255 (.alt 9 .done .stop)) .stop) (.alt 7 (.seg [(5,223),(8,255)] (.alt 9 .done .stop)) .stop))) (.alt 5 (.alt 2 (.pure 6 63 (.alt 7 (.pure 8 255 (.alt 9 .done .stop)) .stop)) .stop) .stop)))))) mixed (by decide +kernel)<|Dm rfl rfl rfl<|Ai rfl (Ey (lo:=4) (hi:=8) rfl rfl rfl (by omega) (by omega) Tu25 Tz5) rfl ?_
 refine Dn (v:=.slice (some ⟨pb,po + (4),none⟩) (((b.drop (4)).take 4).length) (cap - (4))) (Bo (by have hpa : part po (4) cap 1 = po + (4) * 1 := if_neg (by omega); omega) (by rw [List.length_take,List.length_drop]; omega) rfl) ?_
 refine Dm rfl rfl rfl<|Ai rfl (Bw (i:=9) rfl rfl (by omega) Tu25 Tz5) rfl<|Hr ?_ ⟨?_,trivial⟩
 ·refine Df rfl (OpX.pick [] (F:=[_]) rfl (Au rfl Tryz.call31 (Ep pb (po + (4)) (cap - (4)) ((b.drop (4)).take 4) (hp.sub (4) 4) (by rw [List.length_take]; omega)))) rfl ?_; rintro _ _ ⟨_,⟨rfl,rfl⟩,rfl⟩; refine Bf (L2:=[_]) rfl ?_
  refine Ai rfl (Ae rfl fa32_3) rfl<|Hr ?_ ⟨?_,trivial⟩
  ·refine Fc rfl (Bd rfl (by assumption) Ta5) rfl<|Da ?_
   refine Bz rfl (Aq 0 (k:=3) rfl rfl rfl rfl rfl Tz2) ?_; rintro _ _ ⟨rfl,rfl⟩; refine Bf (L2:=[_]) rfl ?_
   refine Ai rfl (Ae rfl fa32_4) rfl<|Da ?_
   refine Bz rfl (Aq 0 (k:=4) rfl rfl rfl rfl rfl Tz5) ?_; rintro _ _ ⟨rfl,rfl⟩; refine Bf (L2:=[_]) rfl ?_
   refine Dk9 0 2 3 4 5 6 13 30 37 rfl<|Eg (M:=fun ee ll => ∃ (n : Nat),∃ (h : Hd),keeps ee [0,2,3,6] = some [(0,.slice (some ⟨pb,po,none⟩) (b.length) (cap)),(2,.pointer (some ⟨b2,0,none⟩)),(3,.int .i64 ((n : Nat) : Int)),(6,.int .u8 (((b.getD 3 0).toNat : Nat) : Int))] ∧ ll = [⟨b2,0,[.string h.name,.string h.comment,.slice none 0 0,.int .i64 ((h.mod : Nat) : Int),.int .u8 ((h.os : Nat) : Int)]⟩] ∧ (n = 10) ∧ (h = { noHd with mod := le32 (b.getD 4 0).toNat (b.getD 5 0).toNat (b.getD 6 0).toNat (b.getD 7 0).toNat,os := (b.getD 9 0).toNat }) ∧ (As b = sp1 b (b.getD 3 0).toNat h)) ?_ ?_
   ·refine Al<|Ea rfl rfl<|Am (v:=.int .i64 ((10 : Nat) : Int)) rfl<|Ek9 0 2 3 4 5 6 13 30 37 rfl ?_
    exact ⟨10,{ noHd with mod := le32 (b.getD 4 0).toNat (b.getD 5 0).toNat (b.getD 6 0).toNat (b.getD 7 0).toNat,os := (b.getD 9 0).toNat },rfl,(by first | (rw [← hmod]; done) | (rw [← hmod]; rfl)),rfl,rfl,by rw [As,if_neg (by omega),if_pos (by omega),if_neg (by omega)]⟩
   rintro _ _ ⟨n,h,hq10,rfl,hn,hh,hR0⟩
   refine Ba _ hq10<|Eg (M:=fun ee ll => ∃ (n : Nat),∃ (h : Hd),∃ (xa : Option Addr),∃ (xn : Nat),∃ (xc : Nat),∃ (xf : Frag),keeps ee [0,2,3,6] = some [(0,.slice (some ⟨pb,po,none⟩) (b.length) (cap)),(2,.pointer (some ⟨b2,0,none⟩)),(3,.int .i64 ((n : Nat) : Int)),(6,.int .u8 (((b.getD 3 0).toNat : Nat) : Int))] ∧ ll = [⟨b2,0,[.string h.name,.string h.comment,.slice xa xn xc,.int .i64 ((h.mod : Nat) : Int),.int .u8 ((h.os : Nat) : Int)]⟩,xf] ∧ (As b = sp2 b (b.getD 3 0).toNat n h) ∧ (n ≤ b.length) ∧ (ExSp h.extra (.slice xa xn xc) xf)) ?_ ?_
   ·refine Cr<|Em rfl rfl<|Aa (Ei (b:=((4 : Nat) : Int)) rfl rfl (N.and_u8 (by omega) (by omega))) rfl<|Aa (Fq (b:=((0 : Nat) : Int)) rfl rfl) rfl<|Ek5 0 2 3 6 49 rfl<|Be rfl (fun h49 => ?_) (fun h49 => ?_)
    ·refine Ap<|Cr<|Em rfl rfl<|Aa (Bk rfl Tu25) rfl<|Em rfl rfl<|Aa (Du rfl rfl (N.sub64 (by omega) (by omega))) rfl<|Aa (Dk (b:=((2 : Nat) : Int)) rfl rfl) rfl<|Em rfl rfl<|Ec (fun g55 => ?_) (fun g55 => ?_)
     ·refine Ag 55 true rfl rfl rfl rfl<|Ag 55 true rfl rfl rfl rfl<|Ag 55 true rfl rfl rfl rfl<|Ag 55 true rfl rfl rfl rfl<|Ag 55 true rfl rfl rfl rfl<|Ag 55 true rfl rfl rfl rfl<|Ag 55 true rfl rfl rfl rfl<|Ag 55 true rfl rfl rfl rfl<|Ag 55 true rfl rfl rfl rfl<|Ag 55 true rfl rfl rfl rfl<|Ag 55 true rfl rfl rfl rfl<|Ag 55 true rfl rfl rfl rfl ?_
      refine Aa (By rfl rfl) rfl<|Ek6 0 2 3 6 49 68 rfl<|Ft rfl (rfl)<|Cr<|Ah (Bn 0 (k:=0) rfl rfl rfl rfl Ta32 Tz32) rfl ?_
      refine Ao (Bi 0 (k:=0) rfl rfl rfl rfl rfl rfl Tz32 rfl) ?_; rintro _ _ ⟨rfl,rfl⟩; refine Ab (L2:=[_]) rfl ?_
      refine Ea rfl rfl<|Ea rfl rfl<|Ea rfl rfl<|Ek8 0 2 3 4 5 6 49 68 rfl<|Av ?_
      have hRR : As b = (h,0,1,0) := by rw [hR0,sp1,← hn,if_neg (by omega),if_pos (by omega)]
      refine ⟨_,_,_,_,⟨_,_,0,rfl,rfl,rfl⟩,rfl,rfl,rfl,none,0,0,_,by rw [hRR,hh]; rfl,(.head _),?_⟩
      rw [hRR]; rfl
     refine Aj 55 rfl rfl<|Em rfl rfl<|Aj 55 rfl rfl<|Aa (Bk rfl Tu25) rfl<|Aj 55 rfl rfl<|Em rfl rfl<|Aj 55 rfl rfl<|Aa (Du rfl rfl (N.sub64 (by omega) (by omega))) rfl<|Aj 55 rfl rfl<|Aa (Du (b:=((2 : Nat) : Int)) rfl rfl (N.sub64 (by omega) (by omega))) rfl<|Aj 55 rfl rfl<|Em rfl rfl ?_
     refine Aj 55 rfl rfl<|Em rfl rfl<|Aj 55 rfl rfl<|Em rfl rfl<|Aj 55 rfl rfl<|Aa (Bh (b:=((2 : Nat) : Int)) rfl rfl (N.add64 (by omega))) rfl<|Aj 55 rfl rfl<|Aa (Ey rfl rfl rfl (by omega) (by omega) Tu25 Tz5) rfl ?_
     refine Am (v:=.slice (some ⟨pb,po + (n),none⟩) (((b.drop (n)).take 2).length) (cap - (n))) (Bo (by have hpa : part po (n) cap 1 = po + (n) * 1 := if_neg (by omega); omega) (by rw [List.length_take,List.length_drop]; omega) rfl) ?_
     refine Aj 55 rfl rfl ?_
     refine Ak (OpX.pick [] (F:=[_]) rfl (Au rfl Tryz.call31 (Ep pb (po + (n)) (cap - (n)) ((b.drop (n)).take 2) (hp.sub (n) 2) (by rw [List.length_take]; omega)))) rfl ?_; rintro _ _ ⟨_,⟨rfl,rfl⟩,rfl⟩; refine Ab (L2:=[_]) rfl ?_
     refine Am (v:=.int .i64 ((le16of (b.drop n) : Nat) : Int)) (by rw [Fz (by rw [List.length_drop]; omega)]) ?_
     refine Aj 55 rfl rfl<|Aa (Dk rfl rfl) rfl<|Aa (Bs rfl rfl) rfl<|Ek6 0 2 3 6 49 68 rfl<|Be rfl (fun h68 => ?_) (fun h68 => ?_)
     ·refine Cr<|Ah (Bn 0 (k:=0) rfl rfl rfl rfl Ta32 Tz32) rfl ?_
      refine Ao (Bi 0 (k:=0) rfl rfl rfl rfl rfl rfl Tz32 rfl) ?_; rintro _ _ ⟨rfl,rfl⟩; refine Ab (L2:=[_]) rfl ?_
      refine Ea rfl rfl<|Ea rfl rfl<|Ea rfl rfl<|Ek8 0 2 3 4 5 6 49 68 rfl<|Av ?_
      have hRR : As b = (h,0,1,0) := by rw [hR0,sp1,← hn,if_neg (by omega),if_pos (by omega)]
      refine ⟨_,_,_,_,⟨_,_,0,rfl,rfl,rfl⟩,rfl,rfl,rfl,none,0,0,_,by rw [hRR,hh]; rfl,(.head _),?_⟩
      rw [hRR]; rfl
     refine Ar<|Cr<|Em rfl rfl<|Em rfl rfl<|Em rfl rfl<|Aa (Bh (b:=((2 : Nat) : Int)) rfl rfl (N.add64 (by omega))) rfl<|Aa (Ey rfl rfl rfl (by omega) (by omega) Tu25 Tz5) rfl ?_
     refine Am (v:=.slice (some ⟨pb,po + (n),none⟩) (((b.drop (n)).take 2).length) (cap - (n))) (Bo (by have hpa : part po (n) cap 1 = po + (n) * 1 := if_neg (by omega); omega) (by rw [List.length_take,List.length_drop]; omega) rfl) ?_
     refine Ak (OpX.pick [] (F:=[_]) rfl (Au rfl Tryz.call31 (Ep pb (po + (n)) (cap - (n)) ((b.drop (n)).take 2) (hp.sub (n) 2) (by rw [List.length_take]; omega)))) rfl ?_; rintro _ _ ⟨_,⟨rfl,rfl⟩,rfl⟩; refine Ab (L2:=[_]) rfl ?_
     refine Am (v:=.int .i64 ((le16of (b.drop n) : Nat) : Int)) (by rw [Fz (by rw [List.length_drop]; omega)]) ?_
     refine Ea rfl rfl<|Ek7 0 2 3 6 7 49 68 rfl<|Cr<|Em rfl rfl<|Em rfl rfl<|Aa (Bh (b:=((2 : Nat) : Int)) rfl rfl (N.add64 (by omega))) rfl<|Em rfl rfl<|Aa (Bh (b:=((2 : Nat) : Int)) rfl rfl (N.add64 (by omega))) rfl<|Em rfl rfl<|Aa (Bh rfl rfl (N.add64 (by omega))) rfl<|Aa (Ey rfl rfl rfl (by omega) (by omega) Tu25 Tz5) rfl ?_
     refine Am (v:=.slice (some ⟨pb,part po (n + 2) cap 1,none⟩) (((b.drop (n + 2)).take (le16of (b.drop n))).length) (cap - (n + 2))) (Bo rfl (by rw [List.length_take,List.length_drop]; omega) rfl) ?_
     refine Ak (X.appendNil (ys:=((b.drop (n + 2)).take (le16of (b.drop n)))) rfl rfl rfl ⟨_,_,rfl,(kb_part hp hcap _ _).reads⟩ (by rw [List.length_take]; omega)) rfl ?_
     rintro _ _ (⟨hy,rfl,rfl⟩ | ⟨xb,xo,xc,xcs,hy,rfl,rfl,hxc⟩)
     ·refine Ab (L2:=[_]) rfl<|Eb (Same.addEmpty (f:=⟨b2,0,_⟩) (.head _) 0)<|Bt [1,0] (A:=[_,_]) (F:=[]) rfl<|Ab (L2:=[_,_]) rfl<|Aa (Ae rfl fa32_2) rfl ?_
      refine Ao (Aq 0 (k:=2) rfl rfl rfl rfl rfl Tz25) ?_; rintro _ _ ⟨rfl,rfl⟩; refine Ab (L2:=[_,_]) rfl ?_
      refine Ek7 0 2 3 6 7 49 68 rfl<|Al<|Em rfl rfl<|Em rfl rfl<|Aa (Bh (a:=((2 : Nat) : Int)) rfl rfl (N.add64 (by omega))) rfl<|Aa (Bh rfl rfl (N.add64 (by omega))) rfl<|Ea rfl rfl<|Ek7 0 2 3 6 7 49 68 rfl ?_
      exact ⟨n + (2 + le16of (b.drop n)),{ h with extra := some ((b.drop (n + 2)).take (le16of (b.drop n))) },none,0,0,_,rfl,rfl,by rw [hR0,sp1,← hn,if_neg (by omega),if_neg (by omega),List.drop_drop],by omega,.inl ⟨hy,rfl⟩⟩
     refine Ab (L2:=[_,_]) rfl<|Bt [1,0] (A:=[_,_]) (F:=[]) rfl<|Ab (L2:=[_,_]) rfl<|Aa (Ae rfl fa32_2) rfl ?_
     refine Ao (Aq 0 (k:=2) rfl rfl rfl rfl rfl Tz25) ?_; rintro _ _ ⟨rfl,rfl⟩; refine Ab (L2:=[_,_]) rfl ?_
     refine Ek7 0 2 3 6 7 49 68 rfl<|Al<|Em rfl rfl<|Em rfl rfl<|Aa (Bh (a:=((2 : Nat) : Int)) rfl rfl (N.add64 (by omega))) rfl<|Aa (Bh rfl rfl (N.add64 (by omega))) rfl<|Ea rfl rfl<|Ek7 0 2 3 6 7 49 68 rfl ?_
     exact ⟨n + (2 + le16of (b.drop n)),{ h with extra := some ((b.drop (n + 2)).take (le16of (b.drop n))) },some ⟨xb,xo,none⟩,((b.drop (n + 2)).take (le16of (b.drop n))).length,xc,_,rfl,rfl,by rw [hR0,sp1,← hn,if_neg (by omega),if_neg (by omega),List.drop_drop],by omega,.inr ⟨xb,xo,xc,xcs,rfl,rfl,hxc⟩⟩
    refine Ez (Same.addEmpty (f:=⟨b2,0,_⟩) (.head _) 0)<|Ge [1,0] (A:=[_,_]) (F:=[]) rfl<|Bq (L2:=[_,_]) rfl<|Ar ?_
    exact ⟨n,h,none,0,0,_,rfl,rfl,by rw [hR0,sp1,← hn,if_pos (by omega)],by omega,by rw [hh]; rfl⟩
   rintro _ _ ⟨n,h,xa,xn,xc,xf,hq16,rfl,hR,hn,hX⟩
   refine Ba _ hq16<|Eg (M:=fun ee ll => ∃ (fb : Nat),∃ (n : Nat),∃ (h : Hd),keeps ee [0,2,3,6] = some [(0,.slice (some ⟨pb,po,none⟩) (b.length) (cap)),(2,.pointer (some ⟨b2,0,none⟩)),(3,.int .i64 ((n : Nat) : Int)),(6,.int .u8 (((b.getD 3 0).toNat : Nat) : Int))] ∧ ll = [⟨fb,0,[.int .u8 8,.int .u8 16]⟩,⟨b2,0,[.string h.name,.string h.comment,.slice xa xn xc,.int .i64 ((h.mod : Nat) : Int),.int .u8 ((h.os : Nat) : Int)]⟩,xf] ∧ (As b = sp4 b (b.getD 3 0).toNat n h) ∧ (n ≤ b.length) ∧ (ExSp h.extra (.slice xa xn xc) xf)) ?_ ?_
   ·refine Cr ?_
    refine Ak (Dd (vs:=[.int .u8 8,.int .u8 16]) (e:=5) [(0,.int .u8 8),(1,.int .u8 16)] rfl (fun w => by simp [Instr.buildSlice,Instr.fill,Value.cells,newRow,Tryz.runUnderlying25,Tryz.typeInfo5]; rw [arr2])) rfl ?_; rintro _ _ ⟨fb,rfl,rfl⟩; refine Ab (L2:=[_,_,_]) rfl ?_
    refine Aa (Bk rfl Tu25) rfl<|Em rfl rfl<|Ek7 0 2 3 6 90 91 92 rfl<|Ax<|Bx (fun mm ee ll => ∃ (k : Nat),∃ (n : Nat),∃ (h : Hd),keeps ee [0,2,3,6,90,91,92] = some [(0,.slice (some ⟨pb,po,none⟩) (b.length) (cap)),(2,.pointer (some ⟨b2,0,none⟩)),(3,.int .i64 ((n : Nat) : Int)),(6,.int .u8 (((b.getD 3 0).toNat : Nat) : Int)),(90,.slice (some ⟨fb,0,none⟩) (2) (2)),(91,.int .i64 ((2 : Nat) : Int)),(92,.int .i64 ((k : Nat) : Int))] ∧ ll = [⟨fb,0,[.int .u8 8,.int .u8 16]⟩,⟨b2,0,[.string h.name,.string h.comment,.slice xa xn xc,.int .i64 ((h.mod : Nat) : Int),.int .u8 ((h.os : Nat) : Int)]⟩,xf] ∧ (As b = spK b (b.getD 3 0).toNat k n h) ∧ (k ≤ 2) ∧ (n ≤ b.length) ∧ (ExSp h.extra (.slice xa xn xc) xf) ∧ mm = 2 - k) (_) ⟨0,n,h,rfl,rfl,hR,by omega,hn,hX,rfl⟩ ?_
    rintro m0 _ _ ⟨k,n,h,hk0,rfl,hR,hk,hn,hX,hm0⟩
    refine Ba _ hk0<|Cr<|Aa (Dk rfl rfl) rfl<|Ek8 0 2 3 6 90 91 92 93 rfl<|Ap<|Be rfl (fun h93 => ?_) (fun h93 => ?_)
    ·have hk2 : k < 2 := by omega
     have hfk := flagK_lt k
     refine Ar<|Ap<|Ax<|Cr<|Aa (Bw rfl rfl (by omega) Tu25 Tz5) rfl<|Am (v:=.pointer (some ⟨fb,0 + k,none⟩)) (ptr_to (by omega))<|Ah (An 0 (k:=k) rfl rfl (flagK_get k hk2) Ta5) rfl<|Ea rfl rfl<|Ek9 0 2 3 6 9 90 91 92 93 rfl<|Ap<|Cr<|Em rfl rfl ?_
     refine Em rfl rfl<|Aa (Ei rfl rfl (N.and_u8 (by omega) (by omega))) rfl<|Aa (Dx (b:=((0 : Nat) : Int)) rfl rfl) rfl<|Ek10 0 2 3 6 9 90 91 92 93 99 rfl<|Be rfl (fun h99 => ?_) (fun h99 => ?_)
     ·refine Bu rfl<|Al<|Aa (Bh (b:=((1 : Nat) : Int)) rfl rfl (N.add64 (by omega))) rfl<|Em rfl rfl<|Ek10 0 2 3 6 9 90 91 92 93 99 rfl ?_
      refine ⟨_,?_,k + 1,n,h,rfl,rfl,by first | (rw [hR,spK_skip hk2 (by omega)]; done) | (rw [hR,hs,hk0,spK_name (by rw [← hk0]; omega) (by omega) (by omega)]; done) | (rw [hR,hs,hk1,Fy (by rw [← hk1]; omega) (by omega) (by omega)]; done),by omega,by omega,hX,rfl⟩; omega
     refine Ar<|Cr<|Ea rfl rfl<|Ek11 0 2 3 6 9 10 90 91 92 93 99 rfl<|Eg (M:=fun ee ll => ∃ (s : Nat),keeps ee [0,2,3,6,90,91,92,9,10] = some [(0,.slice (some ⟨pb,po,none⟩) (b.length) (cap)),(2,.pointer (some ⟨b2,0,none⟩)),(3,.int .i64 ((n : Nat) : Int)),(6,.int .u8 (((b.getD 3 0).toNat : Nat) : Int)),(90,.slice (some ⟨fb,0,none⟩) (2) (2)),(91,.int .i64 ((2 : Nat) : Int)),(92,.int .i64 ((k : Nat) : Int)),(9,.int .u8 ((flagK k : Nat) : Int)),(10,.int .i64 ((s : Nat) : Int))] ∧ ll = [⟨fb,0,[.int .u8 8,.int .u8 16]⟩,⟨b2,0,[.string h.name,.string h.comment,.slice xa xn xc,.int .i64 ((h.mod : Nat) : Int),.int .u8 ((h.os : Nat) : Int)]⟩,xf] ∧ (s = strLen (b.drop n)) ∧ (n + s ≤ b.length)) ?_ ?_
     ·refine Ax<|Bx (fun mm ee ll => ∃ (s : Nat),keeps ee [0,2,3,6,90,91,92,9,10] = some [(0,.slice (some ⟨pb,po,none⟩) (b.length) (cap)),(2,.pointer (some ⟨b2,0,none⟩)),(3,.int .i64 ((n : Nat) : Int)),(6,.int .u8 (((b.getD 3 0).toNat : Nat) : Int)),(90,.slice (some ⟨fb,0,none⟩) (2) (2)),(91,.int .i64 ((2 : Nat) : Int)),(92,.int .i64 ((k : Nat) : Int)),(9,.int .u8 ((flagK k : Nat) : Int)),(10,.int .i64 ((s : Nat) : Int))] ∧ ll = [⟨fb,0,[.int .u8 8,.int .u8 16]⟩,⟨b2,0,[.string h.name,.string h.comment,.slice xa xn xc,.int .i64 ((h.mod : Nat) : Int),.int .u8 ((h.os : Nat) : Int)]⟩,xf] ∧ (∀ c ∈ (b.drop n).take s,c ≠ 0) ∧ (n + s ≤ b.length) ∧ mm = b.length - (n + s)) (_) ⟨0,rfl,rfl,by simp,by omega,rfl⟩ ?_
      rintro m1 _ _ ⟨s,hk1,rfl,hz,hsn,hm1⟩
      refine Ba _ hk1<|Ap<|Cr<|Em rfl rfl<|Em rfl rfl<|Aa (Bh rfl rfl (N.add64 (by omega))) rfl<|Em rfl rfl<|Aa (Bk rfl Tu25) rfl<|Aa (Dk rfl rfl) rfl<|Em rfl rfl<|Ec (fun g106 => ?_) (fun g106 => ?_)
      ·have hns : n + s < b.length := by omega
       refine Aj 106 rfl rfl<|Em rfl rfl<|Aj 106 rfl rfl<|Em rfl rfl<|Aj 106 rfl rfl<|Em rfl rfl<|Aj 106 rfl rfl<|Aa (Bh rfl rfl (N.add64 (by omega))) rfl<|Aj 106 rfl rfl<|Aa (Bw rfl rfl (by omega) Tu25 Tz5) rfl<|Aj 106 rfl rfl<|Ah (Bd rfl (hp.at hns) Ta5) rfl ?_
       refine Aj 106 rfl rfl<|Aa (Fq (b:=((0 : Nat) : Int)) rfl rfl) rfl<|Aa (By rfl rfl) rfl<|Ek10 0 2 3 6 9 10 90 91 92 114 rfl<|Be rfl (fun h114 => ?_) (fun h114 => ?_)
       ·have hnz : (b.drop n)[s]'(by rw [List.length_drop]; omega) ≠ 0 := by
          intro hz1
          rw [List.getElem_drop] at hz1
          rw [hz1] at h114
          exact h114 rfl
        refine Ar<|Ax<|Al<|Em rfl rfl<|Aa (Bh (b:=((1 : Nat) : Int)) rfl rfl (N.add64 (by omega))) rfl<|Ea rfl rfl<|Ek10 0 2 3 6 9 10 90 91 92 114 rfl ?_
        refine ⟨_,?_,s + 1,rfl,rfl,nz_more hz (by rw [List.length_drop]; omega) hnz,by omega,rfl⟩; omega
       have hz0 : (b.drop n)[s]? = some 0 := by
         rw [List.getElem?_drop,List.getElem?_eq_getElem hns,Option.some.injEq]
         exact UInt8.toNat_inj.1 (by simpa using h114)
       refine Bu rfl ?_
       exact ⟨s,rfl,rfl,(strLen_found hz hz0).symm,hsn⟩
      refine Ag 106 false rfl rfl rfl rfl<|Ag 106 false rfl rfl rfl rfl<|Ag 106 false rfl rfl rfl rfl<|Ag 106 false rfl rfl rfl rfl<|Ag 106 false rfl rfl rfl rfl<|Ag 106 false rfl rfl rfl rfl<|Ag 106 false rfl rfl rfl rfl<|Aa (Bs rfl rfl) rfl<|Ek10 0 2 3 6 9 10 90 91 92 114 rfl<|Gw rfl (rfl)<|Bu rfl ?_
      exact ⟨s,rfl,rfl,by rw [strLen_end (by rw [List.take_of_length_le (by rw [List.length_drop]; omega)] at hz; exact hz),List.length_drop]; omega,hsn⟩
     rintro _ _ ⟨s,hq23,rfl,hs,hsn⟩
     refine Ba _ hq23<|Ap<|Cr<|Em rfl rfl<|Em rfl rfl<|Aa (Bh rfl rfl (N.add64 (by omega))) rfl<|Em rfl rfl<|Aa (Bk rfl Tu25) rfl<|Aa (Dx rfl rfl) rfl<|Ek10 0 2 3 6 9 10 90 91 92 122 rfl<|Be rfl (fun h122 => ?_) (fun h122 => ?_)
     ·refine Cr<|Ah (Bn 1 (k:=0) rfl rfl rfl rfl Ta32 Tz32) rfl ?_
      refine Ao (Bi 1 (k:=0) rfl rfl rfl rfl rfl rfl Tz32 rfl) ?_; rintro _ _ ⟨rfl,rfl⟩; refine Ab (L2:=[_,_,_]) rfl ?_
      refine Ea rfl rfl<|Ea rfl rfl<|Ea rfl rfl<|Ek12 0 2 3 4 5 6 9 10 90 91 92 122 rfl<|Av ?_
      have hRR : As b = (h,0,1,0) := by rw [hR,spK_bad hk2 (by omega) (by omega)]
      refine ⟨_,_,_,_,⟨_,_,1,rfl,rfl,rfl⟩,rfl,rfl,rfl,xa,xn,xc,_,by rw [hRR]; exact hX,(.tail _ (.tail _ (.head _))),?_⟩
      rw [hRR]; rfl
     refine Ar<|Ap<|Cr<|Em rfl rfl<|Aa (S.ge (b:=((512 : Nat) : Int)) rfl rfl) rfl<|Ek11 0 2 3 6 9 10 90 91 92 122 125 rfl<|Be rfl (fun h125 => ?_) (fun h125 => ?_)
     ·refine Cr<|Ah (Bn 1 (k:=0) rfl rfl rfl rfl Ta32 Tz32) rfl ?_
      refine Ao (Bi 1 (k:=0) rfl rfl rfl rfl rfl rfl Tz32 rfl) ?_; rintro _ _ ⟨rfl,rfl⟩; refine Ab (L2:=[_,_,_]) rfl ?_
      refine Ea rfl rfl<|Ea rfl rfl<|Ea rfl rfl<|Ek13 0 2 3 4 5 6 9 10 90 91 92 122 125 rfl<|Av ?_
      have hRR : As b = (h,0,2,0) := by rw [hR,spK_open hk2 (by omega) (by omega) (by omega)]
      refine ⟨_,_,_,_,⟨_,_,1,rfl,rfl,rfl⟩,rfl,rfl,rfl,xa,xn,xc,_,by rw [hRR]; exact hX,(.tail _ (.tail _ (.head _))),?_⟩
      rw [hRR]; rfl
     refine Ar<|Ap<|Cr<|Em rfl rfl<|Aa (Dx (b:=((8 : Nat) : Int)) rfl rfl) rfl<|Ek12 0 2 3 6 9 10 90 91 92 122 125 128 rfl<|Be rfl (fun h128 => ?_) (fun h128 => ?_)
     ·have hk0 : k = 0 := by
        rcases (show k = 0 ∨ k = 1 by omega) with h | h
        · exact h
        · rw [h] at h128; exact absurd h128 (by decide)
      refine Al<|Em rfl rfl<|Em rfl rfl<|Em rfl rfl<|Em rfl rfl<|Aa (Bh rfl rfl (N.add64 (by omega))) rfl<|Aa (Ey rfl rfl rfl (by omega) (by omega) Tu25 Tz5) rfl ?_
      refine Am (v:=.slice (some ⟨pb,po + (n),none⟩) (((b.drop (n)).take s).length) (cap - (n))) (Bo (by have hpa : part po (n) cap 1 = po + (n) * 1 := if_neg (by omega); omega) (by rw [List.length_take,List.length_drop]; omega) rfl) ?_
      refine Ak (Au rfl Tryz.call46 (latin_any pb (po + n) (cap - n) ((b.drop n).take s) (hp.sub n s) (by rw [List.length_take,List.length_drop]; omega))) rfl ?_; rintro _ _ ⟨rfl,rfl⟩; refine Ab (L2:=[_,_,_]) rfl ?_
      refine Aa (Ae rfl fa32_0) rfl ?_
      refine Ao (Aq 1 (k:=0) rfl rfl rfl rfl rfl Tz9) ?_; rintro _ _ ⟨rfl,rfl⟩; refine Ab (L2:=[_,_,_]) rfl ?_
      refine Ek12 0 2 3 6 9 10 90 91 92 122 125 128 rfl<|Al<|Em rfl rfl<|Em rfl rfl<|Aa (Bh (b:=((1 : Nat) : Int)) rfl rfl (N.add64 (by omega))) rfl<|Aa (Bh rfl rfl (N.add64 (by omega))) rfl<|Ea rfl rfl<|Ek12 0 2 3 6 9 10 90 91 92 122 125 128 rfl<|Al<|Aa (Bh (b:=((1 : Nat) : Int)) rfl rfl (N.add64 (by omega))) rfl<|Em rfl rfl<|Ek12 0 2 3 6 9 10 90 91 92 122 125 128 rfl ?_
      refine ⟨_,?_,k + 1,n + (s + 1),{ h with name := latin ((b.drop n).take s) },rfl,rfl,by first | (rw [hR,spK_skip hk2 (by omega)]; done) | (rw [hR,hs,hk0,spK_name (by rw [← hk0]; omega) (by omega) (by omega)]; done) | (rw [hR,hs,hk1,Fy (by rw [← hk1]; omega) (by omega) (by omega)]; done),by omega,by omega,hX,rfl⟩; omega
     have hk1 : k = 1 := by
       rcases (show k = 0 ∨ k = 1 by omega) with h | h
       · rw [h] at h128; exact absurd rfl h128
       · exact h
     refine Al<|Em rfl rfl<|Em rfl rfl<|Em rfl rfl<|Em rfl rfl<|Aa (Bh rfl rfl (N.add64 (by omega))) rfl<|Aa (Ey rfl rfl rfl (by omega) (by omega) Tu25 Tz5) rfl ?_
     refine Am (v:=.slice (some ⟨pb,po + (n),none⟩) (((b.drop (n)).take s).length) (cap - (n))) (Bo (by have hpa : part po (n) cap 1 = po + (n) * 1 := if_neg (by omega); omega) (by rw [List.length_take,List.length_drop]; omega) rfl) ?_
     refine Ak (Au rfl Tryz.call46 (latin_any pb (po + n) (cap - n) ((b.drop n).take s) (hp.sub n s) (by rw [List.length_take,List.length_drop]; omega))) rfl ?_; rintro _ _ ⟨rfl,rfl⟩; refine Ab (L2:=[_,_,_]) rfl ?_
     refine Aa (Ae rfl fa32_1) rfl ?_
     refine Ao (Aq 1 (k:=1) rfl rfl rfl rfl rfl Tz9) ?_; rintro _ _ ⟨rfl,rfl⟩; refine Ab (L2:=[_,_,_]) rfl ?_
     refine Ek12 0 2 3 6 9 10 90 91 92 122 125 128 rfl<|Al<|Em rfl rfl<|Em rfl rfl<|Aa (Bh (b:=((1 : Nat) : Int)) rfl rfl (N.add64 (by omega))) rfl<|Aa (Bh rfl rfl (N.add64 (by omega))) rfl<|Ea rfl rfl<|Ek12 0 2 3 6 9 10 90 91 92 122 125 128 rfl<|Al<|Aa (Bh (b:=((1 : Nat) : Int)) rfl rfl (N.add64 (by omega))) rfl<|Em rfl rfl<|Ek12 0 2 3 6 9 10 90 91 92 122 125 128 rfl ?_
     refine ⟨_,?_,k + 1,n + (s + 1),{ h with comment := latin ((b.drop n).take s) },rfl,rfl,by first | (rw [hR,spK_skip hk2 (by omega)]; done) | (rw [hR,hs,hk0,spK_name (by rw [← hk0]; omega) (by omega) (by omega)]; done) | (rw [hR,hs,hk1,Fy (by rw [← hk1]; omega) (by omega) (by omega)]; done),by omega,by omega,hX,rfl⟩; omega
    refine Bu rfl ?_
    exact ⟨fb,n,h,rfl,rfl,by rw [hR]; rw [show k = 2 by omega]; rfl,hn,hX⟩
   rintro _ _ ⟨fb,n,h,hq32,rfl,hR,hn,hX⟩
   refine Ba _ hq32<|Eg (M:=fun ee ll => ∃ (fb : Nat),∃ (n : Nat),∃ (h : Hd),keeps ee [0,2,3,6] = some [(0,.slice (some ⟨pb,po,none⟩) (b.length) (cap)),(2,.pointer (some ⟨b2,0,none⟩)),(3,.int .i64 ((n : Nat) : Int)),(6,.int .u8 (((b.getD 3 0).toNat : Nat) : Int))] ∧ ll = [⟨fb,0,[.int .u8 8,.int .u8 16]⟩,⟨b2,0,[.string h.name,.string h.comment,.slice xa xn xc,.int .i64 ((h.mod : Nat) : Int),.int .u8 ((h.os : Nat) : Int)]⟩,xf] ∧ (As b = (h,n,0,0)) ∧ (ExSp h.extra (.slice xa xn xc) xf)) ?_ ?_
   ·refine Cr<|Em rfl rfl<|Aa (Ei (b:=((2 : Nat) : Int)) rfl rfl (N.and_u8 (by omega) (by omega))) rfl<|Aa (Fq (b:=((0 : Nat) : Int)) rfl rfl) rfl<|Ek5 0 2 3 6 152 rfl<|Be rfl (fun h152 => ?_) (fun h152 => ?_)
    ·refine Ap<|Cr<|Em rfl rfl<|Aa (Bk rfl Tu25) rfl<|Em rfl rfl<|Aa (Du rfl rfl (N.sub64 (by omega) (by omega))) rfl<|Aa (Dk (b:=((2 : Nat) : Int)) rfl rfl) rfl<|Ek6 0 2 3 6 152 157 rfl<|Be rfl (fun h157 => ?_) (fun h157 => ?_)
     ·refine Cr<|Ah (Bn 1 (k:=0) rfl rfl rfl rfl Ta32 Tz32) rfl ?_
      refine Ao (Bi 1 (k:=0) rfl rfl rfl rfl rfl rfl Tz32 rfl) ?_; rintro _ _ ⟨rfl,rfl⟩; refine Ab (L2:=[_,_,_]) rfl ?_
      refine Ea rfl rfl<|Ea rfl rfl<|Ea rfl rfl<|Ek8 0 2 3 4 5 6 152 157 rfl<|Av ?_
      have hRR : As b = (h,0,1,0) := by rw [hR,sp4,if_neg (by omega),if_pos (by omega)]
      refine ⟨_,_,_,_,⟨_,_,1,rfl,rfl,rfl⟩,rfl,rfl,rfl,xa,xn,xc,_,by rw [hRR]; exact hX,(.tail _ (.tail _ (.head _))),?_⟩
      rw [hRR]; rfl
     refine Ar<|Ap<|Ap ?_
     have hcl := Gr (poly:=IEEE) (crc:=0) (by decide) (by decide) (b.take n)
     have hca : crcOn IEEE 0 (b.take n) &&& 65535 = crcOn IEEE 0 (b.take n) % 65536 := Nat.and_two_pow_sub_one_eq_mod (n:=16) _
     refine Br [0,0,0,4,11,16,0,0,192,288,512,1024,2080] (.pure 0 462 (.pure 1 461 (.pure 2 451 (.pure 3 455 (.pure 4 463 (.pure 6 191 (.pure 7 127 (.pure 8 255 (.alt 5 (.alt 9 (.pure 10 1023 (.pure 11 2047 (.pure 12 4095 .done))) .stop) .stop))))))))) mixed (by decide +kernel)<|Dm rfl rfl rfl<|Dm rfl rfl rfl<|Dm rfl rfl rfl<|Ai rfl (Bh (b:=((2 : Nat) : Int)) rfl rfl (N.add64 (by omega))) rfl<|Ai rfl (Ey rfl rfl rfl (by omega) (by omega) Tu25 Tz5) rfl ?_
     refine Dn (v:=.slice (some ⟨pb,po + (n),none⟩) (((b.drop (n)).take 2).length) (cap - (n))) (Bo (by have hpa : part po (n) cap 1 = po + (n) * 1 := if_neg (by omega); omega) (by rw [List.length_take,List.length_drop]; omega) rfl) ?_
     refine Dm rfl rfl rfl<|Dm rfl rfl rfl<|Ai rfl (S.slH rfl rfl (by omega) Tu25 Tz5) rfl ?_
     refine Dn (v:=.slice (some ⟨pb,po,none⟩) ((b.take n).length) (cap)) (Bo rfl (by rw [List.length_take]; omega) rfl) ?_
     refine Da ?_
     refine Df rfl (OpX.pick [] (F:=[_,_,_]) rfl (Au rfl Tryz.call31 (Ep pb (po + (n)) (cap - (n)) ((b.drop (n)).take 2) (hp.sub (n) 2) (by rw [List.length_take]; omega)))) rfl ?_; rintro _ _ ⟨_,⟨rfl,rfl⟩,rfl⟩; refine Bf (L2:=[_,_,_]) rfl ?_
     refine Dn (v:=.int .i64 ((le16of (b.drop n) : Nat) : Int)) (by rw [Fz (by rw [List.length_drop]; omega)]) ?_
     refine Da ?_
     refine Df rfl (OpX.pick [] (F:=[_,_,_]) rfl (Au rfl Tryz.call28 (check_spec pb po cap (b.take n) (fun j hj => by have := hp.sub 0 n j hj; simpa using this) (by rw [List.length_take]; omega)))) rfl ?_; rintro _ _ ⟨_,⟨rfl,rfl⟩,rfl⟩; refine Bf (L2:=[_,_,_]) rfl ?_
     refine Ai rfl (Ei (b:=((65535 : Nat) : Int)) rfl rfl (N.and_u32 (by omega) (by omega))) rfl<|Ai rfl (Bv rfl Tu69 Tu2 (N.i64n (by omega))) rfl<|Ai rfl (Fq rfl rfl) rfl<|Dk7 0 2 3 6 152 157 171 rfl<|Be rfl (fun h171 => ?_) (fun h171 => ?_)
     ·refine Cr<|Ah (Bn 1 (k:=0) rfl rfl rfl rfl Ta32 Tz32) rfl ?_
      refine Ao (Bi 1 (k:=0) rfl rfl rfl rfl rfl rfl Tz32 rfl) ?_; rintro _ _ ⟨rfl,rfl⟩; refine Ab (L2:=[_,_,_]) rfl ?_
      refine Ea rfl rfl<|Ea rfl rfl<|Ea rfl rfl<|Ek9 0 2 3 4 5 6 152 157 171 rfl<|Av ?_
      have hRR : As b = (h,0,1,2) := by rw [hR,sp4,if_neg (by omega),if_neg (by omega),if_pos (by omega)]
      refine ⟨_,_,_,_,⟨_,_,1,rfl,rfl,rfl⟩,rfl,rfl,rfl,xa,xn,xc,_,by rw [hRR]; exact hX,(.tail _ (.tail _ (.head _))),?_⟩
      rw [hRR]; rfl
     refine Ar<|Al<|Em rfl rfl<|Aa (Bh (b:=((2 : Nat) : Int)) rfl rfl (N.add64 (by omega))) rfl<|Ea rfl rfl<|Ek7 0 2 3 6 152 157 171 rfl ?_
     exact ⟨fb,n + 2,h,rfl,rfl,by rw [hR,sp4,if_neg (by omega),if_neg (by omega),if_neg (by omega)],hX⟩
    refine Ar ?_
    exact ⟨fb,n,h,rfl,rfl,by rw [hR,sp4,if_pos (by omega)],hX⟩
   rintro _ _ ⟨fb,n,h,hq38,rfl,hR,hX⟩
   refine Ba _ hq38<|Cr<|Ah (Bn 1 (k:=0) rfl rfl rfl rfl Ta32 Tz32) rfl<|Em rfl rfl ?_
   refine Ao (Bi 1 (k:=0) rfl rfl rfl rfl rfl rfl Tz32 rfl) ?_; rintro _ _ ⟨rfl,rfl⟩; refine Ab (L2:=[_,_,_]) rfl ?_
   refine Ea rfl rfl<|Ea rfl rfl<|Ea rfl rfl<|Ek6 0 2 3 4 5 6 rfl<|Av ?_
   have hRR := hR
   refine ⟨_,_,_,_,⟨_,_,1,rfl,rfl,rfl⟩,rfl,rfl,rfl,xa,xn,xc,_,by rw [hRR]; exact hX,(.tail _ (.tail _ (.head _))),?_⟩
   rw [hRR]; rfl
  refine Bz rfl (Aq 0 (k:=3) rfl rfl rfl rfl rfl Tz2) ?_; rintro _ _ ⟨rfl,rfl⟩; refine Bf (L2:=[_]) rfl ?_
  refine Dc (by decide)<|Az rfl (Bd rfl (by assumption) Ta5) rfl<|Bg rfl (Ae rfl fa32_4) rfl<|Db<|Da ?_
  refine Bz rfl (Aq 0 (k:=4) rfl rfl rfl rfl rfl Tz5) ?_; rintro _ _ ⟨rfl,rfl⟩; refine Bf (L2:=[_]) rfl ?_
  refine Dk9 0 2 3 4 5 6 13 30 37 rfl<|Eg (M:=fun ee ll => ∃ (n : Nat),∃ (h : Hd),keeps ee [0,2,3,6] = some [(0,.slice (some ⟨pb,po,none⟩) (b.length) (cap)),(2,.pointer (some ⟨b2,0,none⟩)),(3,.int .i64 ((n : Nat) : Int)),(6,.int .u8 (((b.getD 3 0).toNat : Nat) : Int))] ∧ ll = [⟨b2,0,[.string h.name,.string h.comment,.slice none 0 0,.int .i64 ((h.mod : Nat) : Int),.int .u8 ((h.os : Nat) : Int)]⟩] ∧ (n = 10) ∧ (h = { noHd with mod := le32 (b.getD 4 0).toNat (b.getD 5 0).toNat (b.getD 6 0).toNat (b.getD 7 0).toNat,os := (b.getD 9 0).toNat }) ∧ (As b = sp1 b (b.getD 3 0).toNat h)) ?_ ?_
  ·refine Al<|Ea rfl rfl<|Am (v:=.int .i64 ((10 : Nat) : Int)) rfl<|Ek9 0 2 3 4 5 6 13 30 37 rfl ?_
   exact ⟨10,{ noHd with mod := le32 (b.getD 4 0).toNat (b.getD 5 0).toNat (b.getD 6 0).toNat (b.getD 7 0).toNat,os := (b.getD 9 0).toNat },rfl,(by first | (rw [← hmod]; done) | (rw [← hmod]; rfl)),rfl,rfl,by rw [As,if_neg (by omega),if_pos (by omega),if_neg (by omega)]⟩
  rintro _ _ ⟨n,h,hq10,rfl,hn,hh,hR0⟩
  refine Ba _ hq10<|Eg (M:=fun ee ll => ∃ (n : Nat),∃ (h : Hd),∃ (xa : Option Addr),∃ (xn : Nat),∃ (xc : Nat),∃ (xf : Frag),keeps ee [0,2,3,6] = some [(0,.slice (some ⟨pb,po,none⟩) (b.length) (cap)),(2,.pointer (some ⟨b2,0,none⟩)),(3,.int .i64 ((n : Nat) : Int)),(6,.int .u8 (((b.getD 3 0).toNat : Nat) : Int))] ∧ ll = [⟨b2,0,[.string h.name,.string h.comment,.slice xa xn xc,.int .i64 ((h.mod : Nat) : Int),.int .u8 ((h.os : Nat) : Int)]⟩,xf] ∧ (As b = sp2 b (b.getD 3 0).toNat n h) ∧ (n ≤ b.length) ∧ (ExSp h.extra (.slice xa xn xc) xf)) ?_ ?_
  ·refine Cr<|Em rfl rfl<|Aa (Ei (b:=((4 : Nat) : Int)) rfl rfl (N.and_u8 (by omega) (by omega))) rfl<|Aa (Fq (b:=((0 : Nat) : Int)) rfl rfl) rfl<|Ek5 0 2 3 6 49 rfl<|Be rfl (fun h49 => ?_) (fun h49 => ?_)
   ·refine Ap<|Cr<|Em rfl rfl<|Aa (Bk rfl Tu25) rfl<|Em rfl rfl<|Aa (Du rfl rfl (N.sub64 (by omega) (by omega))) rfl<|Aa (Dk (b:=((2 : Nat) : Int)) rfl rfl) rfl<|Em rfl rfl<|Ec (fun g55 => ?_) (fun g55 => ?_)
    ·refine Ag 55 true rfl rfl rfl rfl<|Ag 55 true rfl rfl rfl rfl<|Ag 55 true rfl rfl rfl rfl<|Ag 55 true rfl rfl rfl rfl<|Ag 55 true rfl rfl rfl rfl<|Ag 55 true rfl rfl rfl rfl<|Ag 55 true rfl rfl rfl rfl<|Ag 55 true rfl rfl rfl rfl<|Ag 55 true rfl rfl rfl rfl<|Ag 55 true rfl rfl rfl rfl<|Ag 55 true rfl rfl rfl rfl<|Ag 55 true rfl rfl rfl rfl ?_
     refine Aa (By rfl rfl) rfl<|Ek6 0 2 3 6 49 68 rfl<|Ft rfl (rfl)<|Cr<|Ah (Bn 0 (k:=0) rfl rfl rfl rfl Ta32 Tz32) rfl ?_
     refine Ao (Bi 0 (k:=0) rfl rfl rfl rfl rfl rfl Tz32 rfl) ?_; rintro _ _ ⟨rfl,rfl⟩; refine Ab (L2:=[_]) rfl ?_
     refine Ea rfl rfl<|Ea rfl rfl<|Ea rfl rfl<|Ek8 0 2 3 4 5 6 49 68 rfl<|Av ?_
     have hRR : As b = (h,0,1,0) := by rw [hR0,sp1,← hn,if_neg (by omega),if_pos (by omega)]
     refine ⟨_,_,_,_,⟨_,_,0,rfl,rfl,rfl⟩,rfl,rfl,rfl,none,0,0,_,by rw [hRR,hh]; rfl,(.head _),?_⟩
     rw [hRR]; rfl
    refine Aj 55 rfl rfl<|Em rfl rfl<|Aj 55 rfl rfl<|Aa (Bk rfl Tu25) rfl<|Aj 55 rfl rfl<|Em rfl rfl<|Aj 55 rfl rfl<|Aa (Du rfl rfl (N.sub64 (by omega) (by omega))) rfl<|Aj 55 rfl rfl<|Aa (Du (b:=((2 : Nat) : Int)) rfl rfl (N.sub64 (by omega) (by omega))) rfl<|Aj 55 rfl rfl<|Em rfl rfl ?_
    refine Aj 55 rfl rfl<|Em rfl rfl<|Aj 55 rfl rfl<|Em rfl rfl<|Aj 55 rfl rfl<|Aa (Bh (b:=((2 : Nat) : Int)) rfl rfl (N.add64 (by omega))) rfl<|Aj 55 rfl rfl<|Aa (Ey rfl rfl rfl (by omega) (by omega) Tu25 Tz5) rfl ?_
    refine Am (v:=.slice (some ⟨pb,po + (n),none⟩) (((b.drop (n)).take 2).length) (cap - (n))) (Bo (by have hpa : part po (n) cap 1 = po + (n) * 1 := if_neg (by omega); omega) (by rw [List.length_take,List.length_drop]; omega) rfl) ?_
    refine Aj 55 rfl rfl ?_
    refine Ak (OpX.pick [] (F:=[_]) rfl (Au rfl Tryz.call31 (Ep pb (po + (n)) (cap - (n)) ((b.drop (n)).take 2) (hp.sub (n) 2) (by rw [List.length_take]; omega)))) rfl ?_; rintro _ _ ⟨_,⟨rfl,rfl⟩,rfl⟩; refine Ab (L2:=[_]) rfl ?_
    refine Am (v:=.int .i64 ((le16of (b.drop n) : Nat) : Int)) (by rw [Fz (by rw [List.length_drop]; omega)]) ?_
    refine Aj 55 rfl rfl<|Aa (Dk rfl rfl) rfl<|Aa (Bs rfl rfl) rfl<|Ek6 0 2 3 6 49 68 rfl<|Be rfl (fun h68 => ?_) (fun h68 => ?_)
    ·refine Cr<|Ah (Bn 0 (k:=0) rfl rfl rfl rfl Ta32 Tz32) rfl ?_
     refine Ao (Bi 0 (k:=0) rfl rfl rfl rfl rfl rfl Tz32 rfl) ?_; rintro _ _ ⟨rfl,rfl⟩; refine Ab (L2:=[_]) rfl ?_
     refine Ea rfl rfl<|Ea rfl rfl<|Ea rfl rfl<|Ek8 0 2 3 4 5 6 49 68 rfl<|Av ?_
     have hRR : As b = (h,0,1,0) := by rw [hR0,sp1,← hn,if_neg (by omega),if_pos (by omega)]
     refine ⟨_,_,_,_,⟨_,_,0,rfl,rfl,rfl⟩,rfl,rfl,rfl,none,0,0,_,by rw [hRR,hh]; rfl,(.head _),?_⟩
     rw [hRR]; rfl
    refine Ar<|Cr<|Em rfl rfl<|Em rfl rfl<|Em rfl rfl<|Aa (Bh (b:=((2 : Nat) : Int)) rfl rfl (N.add64 (by omega))) rfl<|Aa (Ey rfl rfl rfl (by omega) (by omega) Tu25 Tz5) rfl ?_
    refine Am (v:=.slice (some ⟨pb,po + (n),none⟩) (((b.drop (n)).take 2).length) (cap - (n))) (Bo (by have hpa : part po (n) cap 1 = po + (n) * 1 := if_neg (by omega); omega) (by rw [List.length_take,List.length_drop]; omega) rfl) ?_
    refine Ak (OpX.pick [] (F:=[_]) rfl (Au rfl Tryz.call31 (Ep pb (po + (n)) (cap - (n)) ((b.drop (n)).take 2) (hp.sub (n) 2) (by rw [List.length_take]; omega)))) rfl ?_; rintro _ _ ⟨_,⟨rfl,rfl⟩,rfl⟩; refine Ab (L2:=[_]) rfl ?_
    refine Am (v:=.int .i64 ((le16of (b.drop n) : Nat) : Int)) (by rw [Fz (by rw [List.length_drop]; omega)]) ?_
    refine Ea rfl rfl<|Ek7 0 2 3 6 7 49 68 rfl<|Cr<|Em rfl rfl<|Em rfl rfl<|Aa (Bh (b:=((2 : Nat) : Int)) rfl rfl (N.add64 (by omega))) rfl<|Em rfl rfl<|Aa (Bh (b:=((2 : Nat) : Int)) rfl rfl (N.add64 (by omega))) rfl<|Em rfl rfl<|Aa (Bh rfl rfl (N.add64 (by omega))) rfl<|Aa (Ey rfl rfl rfl (by omega) (by omega) Tu25 Tz5) rfl ?_
    refine Am (v:=.slice (some ⟨pb,part po (n + 2) cap 1,none⟩) (((b.drop (n + 2)).take (le16of (b.drop n))).length) (cap - (n + 2))) (Bo rfl (by rw [List.length_take,List.length_drop]; omega) rfl) ?_
    refine Ak (X.appendNil (ys:=((b.drop (n + 2)).take (le16of (b.drop n)))) rfl rfl rfl ⟨_,_,rfl,(kb_part hp hcap _ _).reads⟩ (by rw [List.length_take]; omega)) rfl ?_
    rintro _ _ (⟨hy,rfl,rfl⟩ | ⟨xb,xo,xc,xcs,hy,rfl,rfl,hxc⟩)
    ·refine Ab (L2:=[_]) rfl<|Eb (Same.addEmpty (f:=⟨b2,0,_⟩) (.head _) 0)<|Bt [1,0] (A:=[_,_]) (F:=[]) rfl<|Ab (L2:=[_,_]) rfl<|Aa (Ae rfl fa32_2) rfl ?_
     refine Ao (Aq 0 (k:=2) rfl rfl rfl rfl rfl Tz25) ?_; rintro _ _ ⟨rfl,rfl⟩; refine Ab (L2:=[_,_]) rfl ?_
     refine Ek7 0 2 3 6 7 49 68 rfl<|Al<|Em rfl rfl<|Em rfl rfl<|Aa (Bh (a:=((2 : Nat) : Int)) rfl rfl (N.add64 (by omega))) rfl<|Aa (Bh rfl rfl (N.add64 (by omega))) rfl<|Ea rfl rfl<|Ek7 0 2 3 6 7 49 68 rfl ?_
     exact ⟨n + (2 + le16of (b.drop n)),{ h with extra := some ((b.drop (n + 2)).take (le16of (b.drop n))) },none,0,0,_,rfl,rfl,by rw [hR0,sp1,← hn,if_neg (by omega),if_neg (by omega),List.drop_drop],by omega,.inl ⟨hy,rfl⟩⟩
    refine Ab (L2:=[_,_]) rfl<|Bt [1,0] (A:=[_,_]) (F:=[]) rfl<|Ab (L2:=[_,_]) rfl<|Aa (Ae rfl fa32_2) rfl ?_
    refine Ao (Aq 0 (k:=2) rfl rfl rfl rfl rfl Tz25) ?_; rintro _ _ ⟨rfl,rfl⟩; refine Ab (L2:=[_,_]) rfl ?_
    refine Ek7 0 2 3 6 7 49 68 rfl<|Al<|Em rfl rfl<|Em rfl rfl<|Aa (Bh (a:=((2 : Nat) : Int)) rfl rfl (N.add64 (by omega))) rfl<|Aa (Bh rfl rfl (N.add64 (by omega))) rfl<|Ea rfl rfl<|Ek7 0 2 3 6 7 49 68 rfl ?_
    exact ⟨n + (2 + le16of (b.drop n)),{ h with extra := some ((b.drop (n + 2)).take (le16of (b.drop n))) },some ⟨xb,xo,none⟩,((b.drop (n + 2)).take (le16of (b.drop n))).length,xc,_,rfl,rfl,by rw [hR0,sp1,← hn,if_neg (by omega),if_neg (by omega),List.drop_drop],by omega,.inr ⟨xb,xo,xc,xcs,rfl,rfl,hxc⟩⟩
   refine Ez (Same.addEmpty (f:=⟨b2,0,_⟩) (.head _) 0)<|Ge [1,0] (A:=[_,_]) (F:=[]) rfl<|Bq (L2:=[_,_]) rfl<|Ar ?_
   exact ⟨n,h,none,0,0,_,rfl,rfl,by rw [hR0,sp1,← hn,if_pos (by omega)],by omega,by rw [hh]; rfl⟩
  rintro _ _ ⟨n,h,xa,xn,xc,xf,hq16,rfl,hR,hn,hX⟩
  refine Ba _ hq16<|Eg (M:=fun ee ll => ∃ (fb : Nat),∃ (n : Nat),∃ (h : Hd),keeps ee [0,2,3,6] = some [(0,.slice (some ⟨pb,po,none⟩) (b.length) (cap)),(2,.pointer (some ⟨b2,0,none⟩)),(3,.int .i64 ((n : Nat) : Int)),(6,.int .u8 (((b.getD 3 0).toNat : Nat) : Int))] ∧ ll = [⟨fb,0,[.int .u8 8,.int .u8 16]⟩,⟨b2,0,[.string h.name,.string h.comment,.slice xa xn xc,.int .i64 ((h.mod : Nat) : Int),.int .u8 ((h.os : Nat) : Int)]⟩,xf] ∧ (As b = sp4 b (b.getD 3 0).toNat n h) ∧ (n ≤ b.length) ∧ (ExSp h.extra (.slice xa xn xc) xf)) ?_ ?_
  ·refine Cr ?_
   refine Ak (Dd (vs:=[.int .u8 8,.int .u8 16]) (e:=5) [(0,.int .u8 8),(1,.int .u8 16)] rfl (fun w => by simp [Instr.buildSlice,Instr.fill,Value.cells,newRow,Tryz.runUnderlying25,Tryz.typeInfo5]; rw [arr2])) rfl ?_; rintro _ _ ⟨fb,rfl,rfl⟩; refine Ab (L2:=[_,_,_]) rfl ?_
   refine Aa (Bk rfl Tu25) rfl<|Em rfl rfl<|Ek7 0 2 3 6 90 91 92 rfl<|Ax<|Bx (fun mm ee ll => ∃ (k : Nat),∃ (n : Nat),∃ (h : Hd),keeps ee [0,2,3,6,90,91,92] = some [(0,.slice (some ⟨pb,po,none⟩) (b.length) (cap)),(2,.pointer (some ⟨b2,0,none⟩)),(3,.int .i64 ((n : Nat) : Int)),(6,.int .u8 (((b.getD 3 0).toNat : Nat) : Int)),(90,.slice (some ⟨fb,0,none⟩) (2) (2)),(91,.int .i64 ((2 : Nat) : Int)),(92,.int .i64 ((k : Nat) : Int))] ∧ ll = [⟨fb,0,[.int .u8 8,.int .u8 16]⟩,⟨b2,0,[.string h.name,.string h.comment,.slice xa xn xc,.int .i64 ((h.mod : Nat) : Int),.int .u8 ((h.os : Nat) : Int)]⟩,xf] ∧ (As b = spK b (b.getD 3 0).toNat k n h) ∧ (k ≤ 2) ∧ (n ≤ b.length) ∧ (ExSp h.extra (.slice xa xn xc) xf) ∧ mm = 2 - k) (_) ⟨0,n,h,rfl,rfl,hR,by omega,hn,hX,rfl⟩ ?_
   rintro m2 _ _ ⟨k,n,h,hk2,rfl,hR,hk,hn,hX,hm2⟩
   refine Ba _ hk2<|Cr<|Aa (Dk rfl rfl) rfl<|Ek8 0 2 3 6 90 91 92 93 rfl<|Ap<|Be rfl (fun h93 => ?_) (fun h93 => ?_)
   ·have hk2 : k < 2 := by omega
    have hfk := flagK_lt k
    refine Ar<|Ap<|Ax<|Cr<|Aa (Bw rfl rfl (by omega) Tu25 Tz5) rfl<|Am (v:=.pointer (some ⟨fb,0 + k,none⟩)) (ptr_to (by omega))<|Ah (An 0 (k:=k) rfl rfl (flagK_get k hk2) Ta5) rfl<|Ea rfl rfl<|Ek9 0 2 3 6 9 90 91 92 93 rfl<|Ap<|Cr<|Em rfl rfl ?_
    refine Em rfl rfl<|Aa (Ei rfl rfl (N.and_u8 (by omega) (by omega))) rfl<|Aa (Dx (b:=((0 : Nat) : Int)) rfl rfl) rfl<|Ek10 0 2 3 6 9 90 91 92 93 99 rfl<|Be rfl (fun h99 => ?_) (fun h99 => ?_)
    ·refine Bu rfl<|Al<|Aa (Bh (b:=((1 : Nat) : Int)) rfl rfl (N.add64 (by omega))) rfl<|Em rfl rfl<|Ek10 0 2 3 6 9 90 91 92 93 99 rfl ?_
     refine ⟨_,?_,k + 1,n,h,rfl,rfl,by first | (rw [hR,spK_skip hk2 (by omega)]; done) | (rw [hR,hs,hk0,spK_name (by rw [← hk0]; omega) (by omega) (by omega)]; done) | (rw [hR,hs,hk1,Fy (by rw [← hk1]; omega) (by omega) (by omega)]; done),by omega,by omega,hX,rfl⟩; omega
    refine Ar<|Cr<|Ea rfl rfl<|Ek11 0 2 3 6 9 10 90 91 92 93 99 rfl<|Eg (M:=fun ee ll => ∃ (s : Nat),keeps ee [0,2,3,6,90,91,92,9,10] = some [(0,.slice (some ⟨pb,po,none⟩) (b.length) (cap)),(2,.pointer (some ⟨b2,0,none⟩)),(3,.int .i64 ((n : Nat) : Int)),(6,.int .u8 (((b.getD 3 0).toNat : Nat) : Int)),(90,.slice (some ⟨fb,0,none⟩) (2) (2)),(91,.int .i64 ((2 : Nat) : Int)),(92,.int .i64 ((k : Nat) : Int)),(9,.int .u8 ((flagK k : Nat) : Int)),(10,.int .i64 ((s : Nat) : Int))] ∧ ll = [⟨fb,0,[.int .u8 8,.int .u8 16]⟩,⟨b2,0,[.string h.name,.string h.comment,.slice xa xn xc,.int .i64 ((h.mod : Nat) : Int),.int .u8 ((h.os : Nat) : Int)]⟩,xf] ∧ (s = strLen (b.drop n)) ∧ (n + s ≤ b.length)) ?_ ?_
    ·refine Ax<|Bx (fun mm ee ll => ∃ (s : Nat),keeps ee [0,2,3,6,90,91,92,9,10] = some [(0,.slice (some ⟨pb,po,none⟩) (b.length) (cap)),(2,.pointer (some ⟨b2,0,none⟩)),(3,.int .i64 ((n : Nat) : Int)),(6,.int .u8 (((b.getD 3 0).toNat : Nat) : Int)),(90,.slice (some ⟨fb,0,none⟩) (2) (2)),(91,.int .i64 ((2 : Nat) : Int)),(92,.int .i64 ((k : Nat) : Int)),(9,.int .u8 ((flagK k : Nat) : Int)),(10,.int .i64 ((s : Nat) : Int))] ∧ ll = [⟨fb,0,[.int .u8 8,.int .u8 16]⟩,⟨b2,0,[.string h.name,.string h.comment,.slice xa xn xc,.int .i64 ((h.mod : Nat) : Int),.int .u8 ((h.os : Nat) : Int)]⟩,xf] ∧ (∀ c ∈ (b.drop n).take s,c ≠ 0) ∧ (n + s ≤ b.length) ∧ mm = b.length - (n + s)) (_) ⟨0,rfl,rfl,by simp,by omega,rfl⟩ ?_
     rintro m3 _ _ ⟨s,hk3,rfl,hz,hsn,hm3⟩
     refine Ba _ hk3<|Ap<|Cr<|Em rfl rfl<|Em rfl rfl<|Aa (Bh rfl rfl (N.add64 (by omega))) rfl<|Em rfl rfl<|Aa (Bk rfl Tu25) rfl<|Aa (Dk rfl rfl) rfl<|Em rfl rfl<|Ec (fun g106 => ?_) (fun g106 => ?_)
     ·have hns : n + s < b.length := by omega
      refine Aj 106 rfl rfl<|Em rfl rfl<|Aj 106 rfl rfl<|Em rfl rfl<|Aj 106 rfl rfl<|Em rfl rfl<|Aj 106 rfl rfl<|Aa (Bh rfl rfl (N.add64 (by omega))) rfl<|Aj 106 rfl rfl<|Aa (Bw rfl rfl (by omega) Tu25 Tz5) rfl<|Aj 106 rfl rfl<|Ah (Bd rfl (hp.at hns) Ta5) rfl ?_
      refine Aj 106 rfl rfl<|Aa (Fq (b:=((0 : Nat) : Int)) rfl rfl) rfl<|Aa (By rfl rfl) rfl<|Ek10 0 2 3 6 9 10 90 91 92 114 rfl<|Be rfl (fun h114 => ?_) (fun h114 => ?_)
      ·have hnz : (b.drop n)[s]'(by rw [List.length_drop]; omega) ≠ 0 := by
         intro hz1
         rw [List.getElem_drop] at hz1
         rw [hz1] at h114
         exact h114 rfl
       refine Ar<|Ax<|Al<|Em rfl rfl<|Aa (Bh (b:=((1 : Nat) : Int)) rfl rfl (N.add64 (by omega))) rfl<|Ea rfl rfl<|Ek10 0 2 3 6 9 10 90 91 92 114 rfl ?_
       refine ⟨_,?_,s + 1,rfl,rfl,nz_more hz (by rw [List.length_drop]; omega) hnz,by omega,rfl⟩; omega
      have hz0 : (b.drop n)[s]? = some 0 := by
        rw [List.getElem?_drop,List.getElem?_eq_getElem hns,Option.some.injEq]
        exact UInt8.toNat_inj.1 (by simpa using h114)
      refine Bu rfl ?_
      exact ⟨s,rfl,rfl,(strLen_found hz hz0).symm,hsn⟩
     refine Ag 106 false rfl rfl rfl rfl<|Ag 106 false rfl rfl rfl rfl<|Ag 106 false rfl rfl rfl rfl<|Ag 106 false rfl rfl rfl rfl<|Ag 106 false rfl rfl rfl rfl<|Ag 106 false rfl rfl rfl rfl<|Ag 106 false rfl rfl rfl rfl<|Aa (Bs rfl rfl) rfl<|Ek10 0 2 3 6 9 10 90 91 92 114 rfl<|Gw rfl (rfl)<|Bu rfl ?_
     exact ⟨s,rfl,rfl,by rw [strLen_end (by rw [List.take_of_length_le (by rw [List.length_drop]; omega)] at hz; exact hz),List.length_drop]; omega,hsn⟩
    rintro _ _ ⟨s,hq23,rfl,hs,hsn⟩
    refine Ba _ hq23<|Ap<|Cr<|Em rfl rfl<|Em rfl rfl<|Aa (Bh rfl rfl (N.add64 (by omega))) rfl<|Em rfl rfl<|Aa (Bk rfl Tu25) rfl<|Aa (Dx rfl rfl) rfl<|Ek10 0 2 3 6 9 10 90 91 92 122 rfl<|Be rfl (fun h122 => ?_) (fun h122 => ?_)
    ·refine Cr<|Ah (Bn 1 (k:=0) rfl rfl rfl rfl Ta32 Tz32) rfl ?_
     refine Ao (Bi 1 (k:=0) rfl rfl rfl rfl rfl rfl Tz32 rfl) ?_; rintro _ _ ⟨rfl,rfl⟩; refine Ab (L2:=[_,_,_]) rfl ?_
     refine Ea rfl rfl<|Ea rfl rfl<|Ea rfl rfl<|Ek12 0 2 3 4 5 6 9 10 90 91 92 122 rfl<|Av ?_
     have hRR : As b = (h,0,1,0) := by rw [hR,spK_bad hk2 (by omega) (by omega)]
     refine ⟨_,_,_,_,⟨_,_,1,rfl,rfl,rfl⟩,rfl,rfl,rfl,xa,xn,xc,_,by rw [hRR]; exact hX,(.tail _ (.tail _ (.head _))),?_⟩
     rw [hRR]; rfl
    refine Ar<|Ap<|Cr<|Em rfl rfl<|Aa (S.ge (b:=((512 : Nat) : Int)) rfl rfl) rfl<|Ek11 0 2 3 6 9 10 90 91 92 122 125 rfl<|Be rfl (fun h125 => ?_) (fun h125 => ?_)
    ·refine Cr<|Ah (Bn 1 (k:=0) rfl rfl rfl rfl Ta32 Tz32) rfl ?_
     refine Ao (Bi 1 (k:=0) rfl rfl rfl rfl rfl rfl Tz32 rfl) ?_; rintro _ _ ⟨rfl,rfl⟩; refine Ab (L2:=[_,_,_]) rfl ?_
     refine Ea rfl rfl<|Ea rfl rfl<|Ea rfl rfl<|Ek13 0 2 3 4 5 6 9 10 90 91 92 122 125 rfl<|Av ?_
     have hRR : As b = (h,0,2,0) := by rw [hR,spK_open hk2 (by omega) (by omega) (by omega)]
     refine ⟨_,_,_,_,⟨_,_,1,rfl,rfl,rfl⟩,rfl,rfl,rfl,xa,xn,xc,_,by rw [hRR]; exact hX,(.tail _ (.tail _ (.head _))),?_⟩
     rw [hRR]; rfl
    refine Ar<|Ap<|Cr<|Em rfl rfl<|Aa (Dx (b:=((8 : Nat) : Int)) rfl rfl) rfl<|Ek12 0 2 3 6 9 10 90 91 92 122 125 128 rfl<|Be rfl (fun h128 => ?_) (fun h128 => ?_)
    ·have hk0 : k = 0 := by
       rcases (show k = 0 ∨ k = 1 by omega) with h | h
       · exact h
       · rw [h] at h128; exact absurd h128 (by decide)
     refine Al<|Em rfl rfl<|Em rfl rfl<|Em rfl rfl<|Em rfl rfl<|Aa (Bh rfl rfl (N.add64 (by omega))) rfl<|Aa (Ey rfl rfl rfl (by omega) (by omega) Tu25 Tz5) rfl ?_
     refine Am (v:=.slice (some ⟨pb,po + (n),none⟩) (((b.drop (n)).take s).length) (cap - (n))) (Bo (by have hpa : part po (n) cap 1 = po + (n) * 1 := if_neg (by omega); omega) (by rw [List.length_take,List.length_drop]; omega) rfl) ?_
     refine Ak (Au rfl Tryz.call46 (latin_any pb (po + n) (cap - n) ((b.drop n).take s) (hp.sub n s) (by rw [List.length_take,List.length_drop]; omega))) rfl ?_; rintro _ _ ⟨rfl,rfl⟩; refine Ab (L2:=[_,_,_]) rfl ?_
     refine Aa (Ae rfl fa32_0) rfl ?_
     refine Ao (Aq 1 (k:=0) rfl rfl rfl rfl rfl Tz9) ?_; rintro _ _ ⟨rfl,rfl⟩; refine Ab (L2:=[_,_,_]) rfl ?_
     refine Ek12 0 2 3 6 9 10 90 91 92 122 125 128 rfl<|Al<|Em rfl rfl<|Em rfl rfl<|Aa (Bh (b:=((1 : Nat) : Int)) rfl rfl (N.add64 (by omega))) rfl<|Aa (Bh rfl rfl (N.add64 (by omega))) rfl<|Ea rfl rfl<|Ek12 0 2 3 6 9 10 90 91 92 122 125 128 rfl<|Al<|Aa (Bh (b:=((1 : Nat) : Int)) rfl rfl (N.add64 (by omega))) rfl<|Em rfl rfl<|Ek12 0 2 3 6 9 10 90 91 92 122 125 128 rfl ?_
     refine ⟨_,?_,k + 1,n + (s + 1),{ h with name := latin ((b.drop n).take s) },rfl,rfl,by first | (rw [hR,spK_skip hk2 (by omega)]; done) | (rw [hR,hs,hk0,spK_name (by rw [← hk0]; omega) (by omega) (by omega)]; done) | (rw [hR,hs,hk1,Fy (by rw [← hk1]; omega) (by omega) (by omega)]; done),by omega,by omega,hX,rfl⟩; omega
    have hk1 : k = 1 := by
      rcases (show k = 0 ∨ k = 1 by omega) with h | h
      · rw [h] at h128; exact absurd rfl h128
      · exact h
    refine Al<|Em rfl rfl<|Em rfl rfl<|Em rfl rfl<|Em rfl rfl<|Aa (Bh rfl rfl (N.add64 (by omega))) rfl<|Aa (Ey rfl rfl rfl (by omega) (by omega) Tu25 Tz5) rfl ?_
    refine Am (v:=.slice (some ⟨pb,po + (n),none⟩) (((b.drop (n)).take s).length) (cap - (n))) (Bo (by have hpa : part po (n) cap 1 = po + (n) * 1 := if_neg (by omega); omega) (by rw [List.length_take,List.length_drop]; omega) rfl) ?_
    refine Ak (Au rfl Tryz.call46 (latin_any pb (po + n) (cap - n) ((b.drop n).take s) (hp.sub n s) (by rw [List.length_take,List.length_drop]; omega))) rfl ?_; rintro _ _ ⟨rfl,rfl⟩; refine Ab (L2:=[_,_,_]) rfl ?_
    refine Aa (Ae rfl fa32_1) rfl ?_
    refine Ao (Aq 1 (k:=1) rfl rfl rfl rfl rfl Tz9) ?_; rintro _ _ ⟨rfl,rfl⟩; refine Ab (L2:=[_,_,_]) rfl ?_
    refine Ek12 0 2 3 6 9 10 90 91 92 122 125 128 rfl<|Al<|Em rfl rfl<|Em rfl rfl<|Aa (Bh (b:=((1 : Nat) : Int)) rfl rfl (N.add64 (by omega))) rfl<|Aa (Bh rfl rfl (N.add64 (by omega))) rfl<|Ea rfl rfl<|Ek12 0 2 3 6 9 10 90 91 92 122 125 128 rfl<|Al<|Aa (Bh (b:=((1 : Nat) : Int)) rfl rfl (N.add64 (by omega))) rfl<|Em rfl rfl<|Ek12 0 2 3 6 9 10 90 91 92 122 125 128 rfl ?_
    refine ⟨_,?_,k + 1,n + (s + 1),{ h with comment := latin ((b.drop n).take s) },rfl,rfl,by first | (rw [hR,spK_skip hk2 (by omega)]; done) | (rw [hR,hs,hk0,spK_name (by rw [← hk0]; omega) (by omega) (by omega)]; done) | (rw [hR,hs,hk1,Fy (by rw [← hk1]; omega) (by omega) (by omega)]; done),by omega,by omega,hX,rfl⟩; omega
   refine Bu rfl ?_
   exact ⟨fb,n,h,rfl,rfl,by rw [hR]; rw [show k = 2 by omega]; rfl,hn,hX⟩
  rintro _ _ ⟨fb,n,h,hq32,rfl,hR,hn,hX⟩
  refine Ba _ hq32<|Eg (M:=fun ee ll => ∃ (fb : Nat),∃ (n : Nat),∃ (h : Hd),keeps ee [0,2,3,6] = some [(0,.slice (some ⟨pb,po,none⟩) (b.length) (cap)),(2,.pointer (some ⟨b2,0,none⟩)),(3,.int .i64 ((n : Nat) : Int)),(6,.int .u8 (((b.getD 3 0).toNat : Nat) : Int))] ∧ ll = [⟨fb,0,[.int .u8 8,.int .u8 16]⟩,⟨b2,0,[.string h.name,.string h.comment,.slice xa xn xc,.int .i64 ((h.mod : Nat) : Int),.int .u8 ((h.os : Nat) : Int)]⟩,xf] ∧ (As b = (h,n,0,0)) ∧ (ExSp h.extra (.slice xa xn xc) xf)) ?_ ?_
  ·refine Cr<|Em rfl rfl<|Aa (Ei (b:=((2 : Nat) : Int)) rfl rfl (N.and_u8 (by omega) (by omega))) rfl<|Aa (Fq (b:=((0 : Nat) : Int)) rfl rfl) rfl<|Ek5 0 2 3 6 152 rfl<|Be rfl (fun h152 => ?_) (fun h152 => ?_)
   ·refine Ap<|Cr<|Em rfl rfl<|Aa (Bk rfl Tu25) rfl<|Em rfl rfl<|Aa (Du rfl rfl (N.sub64 (by omega) (by omega))) rfl<|Aa (Dk (b:=((2 : Nat) : Int)) rfl rfl) rfl<|Ek6 0 2 3 6 152 157 rfl<|Be rfl (fun h157 => ?_) (fun h157 => ?_)
    ·refine Cr<|Ah (Bn 1 (k:=0) rfl rfl rfl rfl Ta32 Tz32) rfl ?_
     refine Ao (Bi 1 (k:=0) rfl rfl rfl rfl rfl rfl Tz32 rfl) ?_; rintro _ _ ⟨rfl,rfl⟩; refine Ab (L2:=[_,_,_]) rfl ?_
     refine Ea rfl rfl<|Ea rfl rfl<|Ea rfl rfl<|Ek8 0 2 3 4 5 6 152 157 rfl<|Av ?_
     have hRR : As b = (h,0,1,0) := by rw [hR,sp4,if_neg (by omega),if_pos (by omega)]
     refine ⟨_,_,_,_,⟨_,_,1,rfl,rfl,rfl⟩,rfl,rfl,rfl,xa,xn,xc,_,by rw [hRR]; exact hX,(.tail _ (.tail _ (.head _))),?_⟩
     rw [hRR]; rfl
    refine Ar<|Ap<|Ap ?_
    have hcl := Gr (poly:=IEEE) (crc:=0) (by decide) (by decide) (b.take n)
    have hca : crcOn IEEE 0 (b.take n) &&& 65535 = crcOn IEEE 0 (b.take n) % 65536 := Nat.and_two_pow_sub_one_eq_mod (n:=16) _
    refine Br [0,0,0,4,11,16,0,0,192,288,512,1024,2080] (.pure 0 462 (.pure 1 461 (.pure 2 451 (.pure 3 455 (.pure 4 463 (.pure 6 191 (.pure 7 127 (.pure 8 255 (.alt 5 (.alt 9 (.pure 10 1023 (.pure 11 2047 (.pure 12 4095 .done))) .stop) .stop))))))))) mixed (by decide +kernel)<|Dm rfl rfl rfl<|Dm rfl rfl rfl<|Dm rfl rfl rfl<|Ai rfl (Bh (b:=((2 : Nat) : Int)) rfl rfl (N.add64 (by omega))) rfl<|Ai rfl (Ey rfl rfl rfl (by omega) (by omega) Tu25 Tz5) rfl ?_
    refine Dn (v:=.slice (some ⟨pb,po + (n),none⟩) (((b.drop (n)).take 2).length) (cap - (n))) (Bo (by have hpa : part po (n) cap 1 = po + (n) * 1 := if_neg (by omega); omega) (by rw [List.length_take,List.length_drop]; omega) rfl) ?_
    refine Dm rfl rfl rfl<|Dm rfl rfl rfl<|Ai rfl (S.slH rfl rfl (by omega) Tu25 Tz5) rfl ?_
    refine Dn (v:=.slice (some ⟨pb,po,none⟩) ((b.take n).length) (cap)) (Bo rfl (by rw [List.length_take]; omega) rfl) ?_
    refine Da ?_
    refine Df rfl (OpX.pick [] (F:=[_,_,_]) rfl (Au rfl Tryz.call31 (Ep pb (po + (n)) (cap - (n)) ((b.drop (n)).take 2) (hp.sub (n) 2) (by rw [List.length_take]; omega)))) rfl ?_; rintro _ _ ⟨_,⟨rfl,rfl⟩,rfl⟩; refine Bf (L2:=[_,_,_]) rfl ?_
    refine Dn (v:=.int .i64 ((le16of (b.drop n) : Nat) : Int)) (by rw [Fz (by rw [List.length_drop]; omega)]) ?_
    refine Da ?_
    refine Df rfl (OpX.pick [] (F:=[_,_,_]) rfl (Au rfl Tryz.call28 (check_spec pb po cap (b.take n) (fun j hj => by have := hp.sub 0 n j hj; simpa using this) (by rw [List.length_take]; omega)))) rfl ?_; rintro _ _ ⟨_,⟨rfl,rfl⟩,rfl⟩; refine Bf (L2:=[_,_,_]) rfl ?_
    refine Ai rfl (Ei (b:=((65535 : Nat) : Int)) rfl rfl (N.and_u32 (by omega) (by omega))) rfl<|Ai rfl (Bv rfl Tu69 Tu2 (N.i64n (by omega))) rfl<|Ai rfl (Fq rfl rfl) rfl<|Dk7 0 2 3 6 152 157 171 rfl<|Be rfl (fun h171 => ?_) (fun h171 => ?_)
    ·refine Cr<|Ah (Bn 1 (k:=0) rfl rfl rfl rfl Ta32 Tz32) rfl ?_
     refine Ao (Bi 1 (k:=0) rfl rfl rfl rfl rfl rfl Tz32 rfl) ?_; rintro _ _ ⟨rfl,rfl⟩; refine Ab (L2:=[_,_,_]) rfl ?_
     refine Ea rfl rfl<|Ea rfl rfl<|Ea rfl rfl<|Ek9 0 2 3 4 5 6 152 157 171 rfl<|Av ?_
     have hRR : As b = (h,0,1,2) := by rw [hR,sp4,if_neg (by omega),if_neg (by omega),if_pos (by omega)]
     refine ⟨_,_,_,_,⟨_,_,1,rfl,rfl,rfl⟩,rfl,rfl,rfl,xa,xn,xc,_,by rw [hRR]; exact hX,(.tail _ (.tail _ (.head _))),?_⟩
     rw [hRR]; rfl
    refine Ar<|Al<|Em rfl rfl<|Aa (Bh (b:=((2 : Nat) : Int)) rfl rfl (N.add64 (by omega))) rfl<|Ea rfl rfl<|Ek7 0 2 3 6 152 157 171 rfl ?_
    exact ⟨fb,n + 2,h,rfl,rfl,by rw [hR,sp4,if_neg (by omega),if_neg (by omega),if_neg (by omega)],hX⟩
   refine Ar ?_
   exact ⟨fb,n,h,rfl,rfl,by rw [hR,sp4,if_pos (by omega)],hX⟩
  rintro _ _ ⟨fb,n,h,hq38,rfl,hR,hX⟩
  refine Ba _ hq38<|Cr<|Ah (Bn 1 (k:=0) rfl rfl rfl rfl Ta32 Tz32) rfl<|Em rfl rfl ?_
  refine Ao (Bi 1 (k:=0) rfl rfl rfl rfl rfl rfl Tz32 rfl) ?_; rintro _ _ ⟨rfl,rfl⟩; refine Ab (L2:=[_,_,_]) rfl ?_
  refine Ea rfl rfl<|Ea rfl rfl<|Ea rfl rfl<|Ek6 0 2 3 4 5 6 rfl<|Av ?_
  have hRR := hR
  refine ⟨_,_,_,_,⟨_,_,1,rfl,rfl,rfl⟩,rfl,rfl,rfl,xa,xn,xc,_,by rw [hRR]; exact hX,(.tail _ (.tail _ (.head _))),?_⟩
  rw [hRR]; rfl
 refine Fc rfl (Bd rfl (by assumption) Ta5) rfl<|Da ?_
 refine Df rfl (OpX.pick [] (F:=[_]) rfl (Au rfl Tryz.call31 (Ep pb (po + (4)) (cap - (4)) ((b.drop (4)).take 4) (hp.sub (4) 4) (by rw [List.length_take]; omega)))) rfl ?_; rintro _ _ ⟨_,⟨rfl,rfl⟩,rfl⟩; refine Bf (L2:=[_]) rfl ?_
 refine Ai rfl (Ae rfl fa32_3) rfl<|Da ?_
 refine Bz rfl (Aq 0 (k:=3) rfl rfl rfl rfl rfl Tz2) ?_; rintro _ _ ⟨rfl,rfl⟩; refine Bf (L2:=[_]) rfl ?_
 refine Ai rfl (Ae rfl fa32_4) rfl<|Da ?_
 refine Bz rfl (Aq 0 (k:=4) rfl rfl rfl rfl rfl Tz5) ?_; rintro _ _ ⟨rfl,rfl⟩; refine Bf (L2:=[_]) rfl ?_
 refine Dk9 0 2 3 4 5 6 13 30 37 rfl<|Eg (M:=fun ee ll => ∃ (n : Nat),∃ (h : Hd),keeps ee [0,2,3,6] = some [(0,.slice (some ⟨pb,po,none⟩) (b.length) (cap)),(2,.pointer (some ⟨b2,0,none⟩)),(3,.int .i64 ((n : Nat) : Int)),(6,.int .u8 (((b.getD 3 0).toNat : Nat) : Int))] ∧ ll = [⟨b2,0,[.string h.name,.string h.comment,.slice none 0 0,.int .i64 ((h.mod : Nat) : Int),.int .u8 ((h.os : Nat) : Int)]⟩] ∧ (n = 10) ∧ (h = { noHd with mod := le32 (b.getD 4 0).toNat (b.getD 5 0).toNat (b.getD 6 0).toNat (b.getD 7 0).toNat,os := (b.getD 9 0).toNat }) ∧ (As b = sp1 b (b.getD 3 0).toNat h)) ?_ ?_
 ·refine Al<|Ea rfl rfl<|Am (v:=.int .i64 ((10 : Nat) : Int)) rfl<|Ek9 0 2 3 4 5 6 13 30 37 rfl ?_
  exact ⟨10,{ noHd with mod := le32 (b.getD 4 0).toNat (b.getD 5 0).toNat (b.getD 6 0).toNat (b.getD 7 0).toNat,os := (b.getD 9 0).toNat },rfl,(by first | (rw [← hmod]; done) | (rw [← hmod]; rfl)),rfl,rfl,by rw [As,if_neg (by omega),if_pos (by omega),if_neg (by omega)]⟩
 rintro _ _ ⟨n,h,hq10,rfl,hn,hh,hR0⟩
 refine Ba _ hq10<|Eg (M:=fun ee ll => ∃ (n : Nat),∃ (h : Hd),∃ (xa : Option Addr),∃ (xn : Nat),∃ (xc : Nat),∃ (xf : Frag),keeps ee [0,2,3,6] = some [(0,.slice (some ⟨pb,po,none⟩) (b.length) (cap)),(2,.pointer (some ⟨b2,0,none⟩)),(3,.int .i64 ((n : Nat) : Int)),(6,.int .u8 (((b.getD 3 0).toNat : Nat) : Int))] ∧ ll = [⟨b2,0,[.string h.name,.string h.comment,.slice xa xn xc,.int .i64 ((h.mod : Nat) : Int),.int .u8 ((h.os : Nat) : Int)]⟩,xf] ∧ (As b = sp2 b (b.getD 3 0).toNat n h) ∧ (n ≤ b.length) ∧ (ExSp h.extra (.slice xa xn xc) xf)) ?_ ?_
 ·refine Cr<|Em rfl rfl<|Aa (Ei (b:=((4 : Nat) : Int)) rfl rfl (N.and_u8 (by omega) (by omega))) rfl<|Aa (Fq (b:=((0 : Nat) : Int)) rfl rfl) rfl<|Ek5 0 2 3 6 49 rfl<|Be rfl (fun h49 => ?_) (fun h49 => ?_)
  ·refine Ap<|Cr<|Em rfl rfl<|Aa (Bk rfl Tu25) rfl<|Em rfl rfl<|Aa (Du rfl rfl (N.sub64 (by omega) (by omega))) rfl<|Aa (Dk (b:=((2 : Nat) : Int)) rfl rfl) rfl<|Em rfl rfl<|Ec (fun g55 => ?_) (fun g55 => ?_)
   ·refine Ag 55 true rfl rfl rfl rfl<|Ag 55 true rfl rfl rfl rfl<|Ag 55 true rfl rfl rfl rfl<|Ag 55 true rfl rfl rfl rfl<|Ag 55 true rfl rfl rfl rfl<|Ag 55 true rfl rfl rfl rfl<|Ag 55 true rfl rfl rfl rfl<|Ag 55 true rfl rfl rfl rfl<|Ag 55 true rfl rfl rfl rfl<|Ag 55 true rfl rfl rfl rfl<|Ag 55 true rfl rfl rfl rfl<|Ag 55 true rfl rfl rfl rfl ?_
    refine Aa (By rfl rfl) rfl<|Ek6 0 2 3 6 49 68 rfl<|Ft rfl (rfl)<|Cr<|Ah (Bn 0 (k:=0) rfl rfl rfl rfl Ta32 Tz32) rfl ?_
    refine Ao (Bi 0 (k:=0) rfl rfl rfl rfl rfl rfl Tz32 rfl) ?_; rintro _ _ ⟨rfl,rfl⟩; refine Ab (L2:=[_]) rfl ?_
    refine Ea rfl rfl<|Ea rfl rfl<|Ea rfl rfl<|Ek8 0 2 3 4 5 6 49 68 rfl<|Av ?_
    have hRR : As b = (h,0,1,0) := by rw [hR0,sp1,← hn,if_neg (by omega),if_pos (by omega)]
    refine ⟨_,_,_,_,⟨_,_,0,rfl,rfl,rfl⟩,rfl,rfl,rfl,none,0,0,_,by rw [hRR,hh]; rfl,(.head _),?_⟩
    rw [hRR]; rfl
   refine Aj 55 rfl rfl<|Em rfl rfl<|Aj 55 rfl rfl<|Aa (Bk rfl Tu25) rfl<|Aj 55 rfl rfl<|Em rfl rfl<|Aj 55 rfl rfl<|Aa (Du rfl rfl (N.sub64 (by omega) (by omega))) rfl<|Aj 55 rfl rfl<|Aa (Du (b:=((2 : Nat) : Int)) rfl rfl (N.sub64 (by omega) (by omega))) rfl<|Aj 55 rfl rfl<|Em rfl rfl ?_
   refine Aj 55 rfl rfl<|Em rfl rfl<|Aj 55 rfl rfl<|Em rfl rfl<|Aj 55 rfl rfl<|Aa (Bh (b:=((2 : Nat) : Int)) rfl rfl (N.add64 (by omega))) rfl<|Aj 55 rfl rfl<|Aa (Ey rfl rfl rfl (by omega) (by omega) Tu25 Tz5) rfl ?_
   refine Am (v:=.slice (some ⟨pb,po + (n),none⟩) (((b.drop (n)).take 2).length) (cap - (n))) (Bo (by have hpa : part po (n) cap 1 = po + (n) * 1 := if_neg (by omega); omega) (by rw [List.length_take,List.length_drop]; omega) rfl) ?_
   refine Aj 55 rfl rfl ?_
   refine Ak (OpX.pick [] (F:=[_]) rfl (Au rfl Tryz.call31 (Ep pb (po + (n)) (cap - (n)) ((b.drop (n)).take 2) (hp.sub (n) 2) (by rw [List.length_take]; omega)))) rfl ?_; rintro _ _ ⟨_,⟨rfl,rfl⟩,rfl⟩; refine Ab (L2:=[_]) rfl ?_
   refine Am (v:=.int .i64 ((le16of (b.drop n) : Nat) : Int)) (by rw [Fz (by rw [List.length_drop]; omega)]) ?_
   refine Aj 55 rfl rfl<|Aa (Dk rfl rfl) rfl<|Aa (Bs rfl rfl) rfl<|Ek6 0 2 3 6 49 68 rfl<|Be rfl (fun h68 => ?_) (fun h68 => ?_)
   ·refine Cr<|Ah (Bn 0 (k:=0) rfl rfl rfl rfl Ta32 Tz32) rfl ?_
    refine Ao (Bi 0 (k:=0) rfl rfl rfl rfl rfl rfl Tz32 rfl) ?_; rintro _ _ ⟨rfl,rfl⟩; refine Ab (L2:=[_]) rfl ?_
    refine Ea rfl rfl<|Ea rfl rfl<|Ea rfl rfl<|Ek8 0 2 3 4 5 6 49 68 rfl<|Av ?_
    have hRR : As b = (h,0,1,0) := by rw [hR0,sp1,← hn,if_neg (by omega),if_pos (by omega)]
    refine ⟨_,_,_,_,⟨_,_,0,rfl,rfl,rfl⟩,rfl,rfl,rfl,none,0,0,_,by rw [hRR,hh]; rfl,(.head _),?_⟩
    rw [hRR]; rfl
   refine Ar<|Cr<|Em rfl rfl<|Em rfl rfl<|Em rfl rfl<|Aa (Bh (b:=((2 : Nat) : Int)) rfl rfl (N.add64 (by omega))) rfl<|Aa (Ey rfl rfl rfl (by omega) (by omega) Tu25 Tz5) rfl ?_
   refine Am (v:=.slice (some ⟨pb,po + (n),none⟩) (((b.drop (n)).take 2).length) (cap - (n))) (Bo (by have hpa : part po (n) cap 1 = po + (n) * 1 := if_neg (by omega); omega) (by rw [List.length_take,List.length_drop]; omega) rfl) ?_
   refine Ak (OpX.pick [] (F:=[_]) rfl (Au rfl Tryz.call31 (Ep pb (po + (n)) (cap - (n)) ((b.drop (n)).take 2) (hp.sub (n) 2) (by rw [List.length_take]; omega)))) rfl ?_; rintro _ _ ⟨_,⟨rfl,rfl⟩,rfl⟩; refine Ab (L2:=[_]) rfl ?_
   refine Am (v:=.int .i64 ((le16of (b.drop n) : Nat) : Int)) (by rw [Fz (by rw [List.length_drop]; omega)]) ?_
   refine Ea rfl rfl<|Ek7 0 2 3 6 7 49 68 rfl<|Cr<|Em rfl rfl<|Em rfl rfl<|Aa (Bh (b:=((2 : Nat) : Int)) rfl rfl (N.add64 (by omega))) rfl<|Em rfl rfl<|Aa (Bh (b:=((2 : Nat) : Int)) rfl rfl (N.add64 (by omega))) rfl<|Em rfl rfl<|Aa (Bh rfl rfl (N.add64 (by omega))) rfl<|Aa (Ey rfl rfl rfl (by omega) (by omega) Tu25 Tz5) rfl ?_
   refine Am (v:=.slice (some ⟨pb,part po (n + 2) cap 1,none⟩) (((b.drop (n + 2)).take (le16of (b.drop n))).length) (cap - (n + 2))) (Bo rfl (by rw [List.length_take,List.length_drop]; omega) rfl) ?_
   refine Ak (X.appendNil (ys:=((b.drop (n + 2)).take (le16of (b.drop n)))) rfl rfl rfl ⟨_,_,rfl,(kb_part hp hcap _ _).reads⟩ (by rw [List.length_take]; omega)) rfl ?_
   rintro _ _ (⟨hy,rfl,rfl⟩ | ⟨xb,xo,xc,xcs,hy,rfl,rfl,hxc⟩)
   ·refine Ab (L2:=[_]) rfl<|Eb (Same.addEmpty (f:=⟨b2,0,_⟩) (.head _) 0)<|Bt [1,0] (A:=[_,_]) (F:=[]) rfl<|Ab (L2:=[_,_]) rfl<|Aa (Ae rfl fa32_2) rfl ?_
    refine Ao (Aq 0 (k:=2) rfl rfl rfl rfl rfl Tz25) ?_; rintro _ _ ⟨rfl,rfl⟩; refine Ab (L2:=[_,_]) rfl ?_
    refine Ek7 0 2 3 6 7 49 68 rfl<|Al<|Em rfl rfl<|Em rfl rfl<|Aa (Bh (a:=((2 : Nat) : Int)) rfl rfl (N.add64 (by omega))) rfl<|Aa (Bh rfl rfl (N.add64 (by omega))) rfl<|Ea rfl rfl<|Ek7 0 2 3 6 7 49 68 rfl ?_
    exact ⟨n + (2 + le16of (b.drop n)),{ h with extra := some ((b.drop (n + 2)).take (le16of (b.drop n))) },none,0,0,_,rfl,rfl,by rw [hR0,sp1,← hn,if_neg (by omega),if_neg (by omega),List.drop_drop],by omega,.inl ⟨hy,rfl⟩⟩
   refine Ab (L2:=[_,_]) rfl<|Bt [1,0] (A:=[_,_]) (F:=[]) rfl<|Ab (L2:=[_,_]) rfl<|Aa (Ae rfl fa32_2) rfl ?_
   refine Ao (Aq 0 (k:=2) rfl rfl rfl rfl rfl Tz25) ?_; rintro _ _ ⟨rfl,rfl⟩; refine Ab (L2:=[_,_]) rfl ?_
   refine Ek7 0 2 3 6 7 49 68 rfl<|Al<|Em rfl rfl<|Em rfl rfl<|Aa (Bh (a:=((2 : Nat) : Int)) rfl rfl (N.add64 (by omega))) rfl<|Aa (Bh rfl rfl (N.add64 (by omega))) rfl<|Ea rfl rfl<|Ek7 0 2 3 6 7 49 68 rfl ?_
   exact ⟨n + (2 + le16of (b.drop n)),{ h with extra := some ((b.drop (n + 2)).take (le16of (b.drop n))) },some ⟨xb,xo,none⟩,((b.drop (n + 2)).take (le16of (b.drop n))).length,xc,_,rfl,rfl,by rw [hR0,sp1,← hn,if_neg (by omega),if_neg (by omega),List.drop_drop],by omega,.inr ⟨xb,xo,xc,xcs,rfl,rfl,hxc⟩⟩
  refine Ez (Same.addEmpty (f:=⟨b2,0,_⟩) (.head _) 0)<|Ge [1,0] (A:=[_,_]) (F:=[]) rfl<|Bq (L2:=[_,_]) rfl<|Ar ?_
  exact ⟨n,h,none,0,0,_,rfl,rfl,by rw [hR0,sp1,← hn,if_pos (by omega)],by omega,by rw [hh]; rfl⟩
 rintro _ _ ⟨n,h,xa,xn,xc,xf,hq16,rfl,hR,hn,hX⟩
 refine Ba _ hq16<|Eg (M:=fun ee ll => ∃ (fb : Nat),∃ (n : Nat),∃ (h : Hd),keeps ee [0,2,3,6] = some [(0,.slice (some ⟨pb,po,none⟩) (b.length) (cap)),(2,.pointer (some ⟨b2,0,none⟩)),(3,.int .i64 ((n : Nat) : Int)),(6,.int .u8 (((b.getD 3 0).toNat : Nat) : Int))] ∧ ll = [⟨fb,0,[.int .u8 8,.int .u8 16]⟩,⟨b2,0,[.string h.name,.string h.comment,.slice xa xn xc,.int .i64 ((h.mod : Nat) : Int),.int .u8 ((h.os : Nat) : Int)]⟩,xf] ∧ (As b = sp4 b (b.getD 3 0).toNat n h) ∧ (n ≤ b.length) ∧ (ExSp h.extra (.slice xa xn xc) xf)) ?_ ?_
 ·refine Cr ?_
  refine Ak (Dd (vs:=[.int .u8 8,.int .u8 16]) (e:=5) [(0,.int .u8 8),(1,.int .u8 16)] rfl (fun w => by simp [Instr.buildSlice,Instr.fill,Value.cells,newRow,Tryz.runUnderlying25,Tryz.typeInfo5]; rw [arr2])) rfl ?_; rintro _ _ ⟨fb,rfl,rfl⟩; refine Ab (L2:=[_,_,_]) rfl ?_
  refine Aa (Bk rfl Tu25) rfl<|Em rfl rfl<|Ek7 0 2 3 6 90 91 92 rfl<|Ax<|Bx (fun mm ee ll => ∃ (k : Nat),∃ (n : Nat),∃ (h : Hd),keeps ee [0,2,3,6,90,91,92] = some [(0,.slice (some ⟨pb,po,none⟩) (b.length) (cap)),(2,.pointer (some ⟨b2,0,none⟩)),(3,.int .i64 ((n : Nat) : Int)),(6,.int .u8 (((b.getD 3 0).toNat : Nat) : Int)),(90,.slice (some ⟨fb,0,none⟩) (2) (2)),(91,.int .i64 ((2 : Nat) : Int)),(92,.int .i64 ((k : Nat) : Int))] ∧ ll = [⟨fb,0,[.int .u8 8,.int .u8 16]⟩,⟨b2,0,[.string h.name,.string h.comment,.slice xa xn xc,.int .i64 ((h.mod : Nat) : Int),.int .u8 ((h.os : Nat) : Int)]⟩,xf] ∧ (As b = spK b (b.getD 3 0).toNat k n h) ∧ (k ≤ 2) ∧ (n ≤ b.length) ∧ (ExSp h.extra (.slice xa xn xc) xf) ∧ mm = 2 - k) (_) ⟨0,n,h,rfl,rfl,hR,by omega,hn,hX,rfl⟩ ?_
  rintro m4 _ _ ⟨k,n,h,hk4,rfl,hR,hk,hn,hX,hm4⟩
  refine Ba _ hk4<|Cr<|Aa (Dk rfl rfl) rfl<|Ek8 0 2 3 6 90 91 92 93 rfl<|Ap<|Be rfl (fun h93 => ?_) (fun h93 => ?_)
  ·have hk2 : k < 2 := by omega
   have hfk := flagK_lt k
   refine Ar<|Ap<|Ax<|Cr<|Aa (Bw rfl rfl (by omega) Tu25 Tz5) rfl<|Am (v:=.pointer (some ⟨fb,0 + k,none⟩)) (ptr_to (by omega))<|Ah (An 0 (k:=k) rfl rfl (flagK_get k hk2) Ta5) rfl<|Ea rfl rfl<|Ek9 0 2 3 6 9 90 91 92 93 rfl<|Ap<|Cr<|Em rfl rfl ?_
   refine Em rfl rfl<|Aa (Ei rfl rfl (N.and_u8 (by omega) (by omega))) rfl<|Aa (Dx (b:=((0 : Nat) : Int)) rfl rfl) rfl<|Ek10 0 2 3 6 9 90 91 92 93 99 rfl<|Be rfl (fun h99 => ?_) (fun h99 => ?_)
   ·refine Bu rfl<|Al<|Aa (Bh (b:=((1 : Nat) : Int)) rfl rfl (N.add64 (by omega))) rfl<|Em rfl rfl<|Ek10 0 2 3 6 9 90 91 92 93 99 rfl ?_
    refine ⟨_,?_,k + 1,n,h,rfl,rfl,by first | (rw [hR,spK_skip hk2 (by omega)]; done) | (rw [hR,hs,hk0,spK_name (by rw [← hk0]; omega) (by omega) (by omega)]; done) | (rw [hR,hs,hk1,Fy (by rw [← hk1]; omega) (by omega) (by omega)]; done),by omega,by omega,hX,rfl⟩; omega
   refine Ar<|Cr<|Ea rfl rfl<|Ek11 0 2 3 6 9 10 90 91 92 93 99 rfl<|Eg (M:=fun ee ll => ∃ (s : Nat),keeps ee [0,2,3,6,90,91,92,9,10] = some [(0,.slice (some ⟨pb,po,none⟩) (b.length) (cap)),(2,.pointer (some ⟨b2,0,none⟩)),(3,.int .i64 ((n : Nat) : Int)),(6,.int .u8 (((b.getD 3 0).toNat : Nat) : Int)),(90,.slice (some ⟨fb,0,none⟩) (2) (2)),(91,.int .i64 ((2 : Nat) : Int)),(92,.int .i64 ((k : Nat) : Int)),(9,.int .u8 ((flagK k : Nat) : Int)),(10,.int .i64 ((s : Nat) : Int))] ∧ ll = [⟨fb,0,[.int .u8 8,.int .u8 16]⟩,⟨b2,0,[.string h.name,.string h.comment,.slice xa xn xc,.int .i64 ((h.mod : Nat) : Int),.int .u8 ((h.os : Nat) : Int)]⟩,xf] ∧ (s = strLen (b.drop n)) ∧ (n + s ≤ b.length)) ?_ ?_
   ·refine Ax<|Bx (fun mm ee ll => ∃ (s : Nat),keeps ee [0,2,3,6,90,91,92,9,10] = some [(0,.slice (some ⟨pb,po,none⟩) (b.length) (cap)),(2,.pointer (some ⟨b2,0,none⟩)),(3,.int .i64 ((n : Nat) : Int)),(6,.int .u8 (((b.getD 3 0).toNat : Nat) : Int)),(90,.slice (some ⟨fb,0,none⟩) (2) (2)),(91,.int .i64 ((2 : Nat) : Int)),(92,.int .i64 ((k : Nat) : Int)),(9,.int .u8 ((flagK k : Nat) : Int)),(10,.int .i64 ((s : Nat) : Int))] ∧ ll = [⟨fb,0,[.int .u8 8,.int .u8 16]⟩,⟨b2,0,[.string h.name,.string h.comment,.slice xa xn xc,.int .i64 ((h.mod : Nat) : Int),.int .u8 ((h.os : Nat) : Int)]⟩,xf] ∧ (∀ c ∈ (b.drop n).take s,c ≠ 0) ∧ (n + s ≤ b.length) ∧ mm = b.length - (n + s)) (_) ⟨0,rfl,rfl,by simp,by omega,rfl⟩ ?_
    rintro m5 _ _ ⟨s,hk5,rfl,hz,hsn,hm5⟩
    refine Ba _ hk5<|Ap<|Cr<|Em rfl rfl<|Em rfl rfl<|Aa (Bh rfl rfl (N.add64 (by omega))) rfl<|Em rfl rfl<|Aa (Bk rfl Tu25) rfl<|Aa (Dk rfl rfl) rfl<|Em rfl rfl<|Ec (fun g106 => ?_) (fun g106 => ?_)
    ·have hns : n + s < b.length := by omega
     refine Aj 106 rfl rfl<|Em rfl rfl<|Aj 106 rfl rfl<|Em rfl rfl<|Aj 106 rfl rfl<|Em rfl rfl<|Aj 106 rfl rfl<|Aa (Bh rfl rfl (N.add64 (by omega))) rfl<|Aj 106 rfl rfl<|Aa (Bw rfl rfl (by omega) Tu25 Tz5) rfl<|Aj 106 rfl rfl<|Ah (Bd rfl (hp.at hns) Ta5) rfl ?_
     refine Aj 106 rfl rfl<|Aa (Fq (b:=((0 : Nat) : Int)) rfl rfl) rfl<|Aa (By rfl rfl) rfl<|Ek10 0 2 3 6 9 10 90 91 92 114 rfl<|Be rfl (fun h114 => ?_) (fun h114 => ?_)
     ·have hnz : (b.drop n)[s]'(by rw [List.length_drop]; omega) ≠ 0 := by
        intro hz1
        rw [List.getElem_drop] at hz1
        rw [hz1] at h114
        exact h114 rfl
      refine Ar<|Ax<|Al<|Em rfl rfl<|Aa (Bh (b:=((1 : Nat) : Int)) rfl rfl (N.add64 (by omega))) rfl<|Ea rfl rfl<|Ek10 0 2 3 6 9 10 90 91 92 114 rfl ?_
      refine ⟨_,?_,s + 1,rfl,rfl,nz_more hz (by rw [List.length_drop]; omega) hnz,by omega,rfl⟩; omega
     have hz0 : (b.drop n)[s]? = some 0 := by
       rw [List.getElem?_drop,List.getElem?_eq_getElem hns,Option.some.injEq]
       exact UInt8.toNat_inj.1 (by simpa using h114)
     refine Bu rfl ?_
     exact ⟨s,rfl,rfl,(strLen_found hz hz0).symm,hsn⟩
    refine Ag 106 false rfl rfl rfl rfl<|Ag 106 false rfl rfl rfl rfl<|Ag 106 false rfl rfl rfl rfl<|Ag 106 false rfl rfl rfl rfl<|Ag 106 false rfl rfl rfl rfl<|Ag 106 false rfl rfl rfl rfl<|Ag 106 false rfl rfl rfl rfl<|Aa (Bs rfl rfl) rfl<|Ek10 0 2 3 6 9 10 90 91 92 114 rfl<|Gw rfl (rfl)<|Bu rfl ?_
    exact ⟨s,rfl,rfl,by rw [strLen_end (by rw [List.take_of_length_le (by rw [List.length_drop]; omega)] at hz; exact hz),List.length_drop]; omega,hsn⟩
   rintro _ _ ⟨s,hq23,rfl,hs,hsn⟩
   refine Ba _ hq23<|Ap<|Cr<|Em rfl rfl<|Em rfl rfl<|Aa (Bh rfl rfl (N.add64 (by omega))) rfl<|Em rfl rfl<|Aa (Bk rfl Tu25) rfl<|Aa (Dx rfl rfl) rfl<|Ek10 0 2 3 6 9 10 90 91 92 122 rfl<|Be rfl (fun h122 => ?_) (fun h122 => ?_)
   ·refine Cr<|Ah (Bn 1 (k:=0) rfl rfl rfl rfl Ta32 Tz32) rfl ?_
    refine Ao (Bi 1 (k:=0) rfl rfl rfl rfl rfl rfl Tz32 rfl) ?_; rintro _ _ ⟨rfl,rfl⟩; refine Ab (L2:=[_,_,_]) rfl ?_
    refine Ea rfl rfl<|Ea rfl rfl<|Ea rfl rfl<|Ek12 0 2 3 4 5 6 9 10 90 91 92 122 rfl<|Av ?_
    have hRR : As b = (h,0,1,0) := by rw [hR,spK_bad hk2 (by omega) (by omega)]
    refine ⟨_,_,_,_,⟨_,_,1,rfl,rfl,rfl⟩,rfl,rfl,rfl,xa,xn,xc,_,by rw [hRR]; exact hX,(.tail _ (.tail _ (.head _))),?_⟩
    rw [hRR]; rfl
   refine Ar<|Ap<|Cr<|Em rfl rfl<|Aa (S.ge (b:=((512 : Nat) : Int)) rfl rfl) rfl<|Ek11 0 2 3 6 9 10 90 91 92 122 125 rfl<|Be rfl (fun h125 => ?_) (fun h125 => ?_)
   ·refine Cr<|Ah (Bn 1 (k:=0) rfl rfl rfl rfl Ta32 Tz32) rfl ?_
    refine Ao (Bi 1 (k:=0) rfl rfl rfl rfl rfl rfl Tz32 rfl) ?_; rintro _ _ ⟨rfl,rfl⟩; refine Ab (L2:=[_,_,_]) rfl ?_
    refine Ea rfl rfl<|Ea rfl rfl<|Ea rfl rfl<|Ek13 0 2 3 4 5 6 9 10 90 91 92 122 125 rfl<|Av ?_
    have hRR : As b = (h,0,2,0) := by rw [hR,spK_open hk2 (by omega) (by omega) (by omega)]
    refine ⟨_,_,_,_,⟨_,_,1,rfl,rfl,rfl⟩,rfl,rfl,rfl,xa,xn,xc,_,by rw [hRR]; exact hX,(.tail _ (.tail _ (.head _))),?_⟩
    rw [hRR]; rfl
   refine Ar<|Ap<|Cr<|Em rfl rfl<|Aa (Dx (b:=((8 : Nat) : Int)) rfl rfl) rfl<|Ek12 0 2 3 6 9 10 90 91 92 122 125 128 rfl<|Be rfl (fun h128 => ?_) (fun h128 => ?_)
   ·have hk0 : k = 0 := by
      rcases (show k = 0 ∨ k = 1 by omega) with h | h
      · exact h
      · rw [h] at h128; exact absurd h128 (by decide)
    refine Al<|Em rfl rfl<|Em rfl rfl<|Em rfl rfl<|Em rfl rfl<|Aa (Bh rfl rfl (N.add64 (by omega))) rfl<|Aa (Ey rfl rfl rfl (by omega) (by omega) Tu25 Tz5) rfl ?_
    refine Am (v:=.slice (some ⟨pb,po + (n),none⟩) (((b.drop (n)).take s).length) (cap - (n))) (Bo (by have hpa : part po (n) cap 1 = po + (n) * 1 := if_neg (by omega); omega) (by rw [List.length_take,List.length_drop]; omega) rfl) ?_
    refine Ak (Au rfl Tryz.call46 (latin_any pb (po + n) (cap - n) ((b.drop n).take s) (hp.sub n s) (by rw [List.length_take,List.length_drop]; omega))) rfl ?_; rintro _ _ ⟨rfl,rfl⟩; refine Ab (L2:=[_,_,_]) rfl ?_
    refine Aa (Ae rfl fa32_0) rfl ?_
    refine Ao (Aq 1 (k:=0) rfl rfl rfl rfl rfl Tz9) ?_; rintro _ _ ⟨rfl,rfl⟩; refine Ab (L2:=[_,_,_]) rfl ?_
    refine Ek12 0 2 3 6 9 10 90 91 92 122 125 128 rfl<|Al<|Em rfl rfl<|Em rfl rfl<|Aa (Bh (b:=((1 : Nat) : Int)) rfl rfl (N.add64 (by omega))) rfl<|Aa (Bh rfl rfl (N.add64 (by omega))) rfl<|Ea rfl rfl<|Ek12 0 2 3 6 9 10 90 91 92 122 125 128 rfl<|Al<|Aa (Bh (b:=((1 : Nat) : Int)) rfl rfl (N.add64 (by omega))) rfl<|Em rfl rfl<|Ek12 0 2 3 6 9 10 90 91 92 122 125 128 rfl ?_
    refine ⟨_,?_,k + 1,n + (s + 1),{ h with name := latin ((b.drop n).take s) },rfl,rfl,by first | (rw [hR,spK_skip hk2 (by omega)]; done) | (rw [hR,hs,hk0,spK_name (by rw [← hk0]; omega) (by omega) (by omega)]; done) | (rw [hR,hs,hk1,Fy (by rw [← hk1]; omega) (by omega) (by omega)]; done),by omega,by omega,hX,rfl⟩; omega
   have hk1 : k = 1 := by
     rcases (show k = 0 ∨ k = 1 by omega) with h | h
     · rw [h] at h128; exact absurd rfl h128
     · exact h
   refine Al<|Em rfl rfl<|Em rfl rfl<|Em rfl rfl<|Em rfl rfl<|Aa (Bh rfl rfl (N.add64 (by omega))) rfl<|Aa (Ey rfl rfl rfl (by omega) (by omega) Tu25 Tz5) rfl ?_
   refine Am (v:=.slice (some ⟨pb,po + (n),none⟩) (((b.drop (n)).take s).length) (cap - (n))) (Bo (by have hpa : part po (n) cap 1 = po + (n) * 1 := if_neg (by omega); omega) (by rw [List.length_take,List.length_drop]; omega) rfl) ?_
   refine Ak (Au rfl Tryz.call46 (latin_any pb (po + n) (cap - n) ((b.drop n).take s) (hp.sub n s) (by rw [List.length_take,List.length_drop]; omega))) rfl ?_; rintro _ _ ⟨rfl,rfl⟩; refine Ab (L2:=[_,_,_]) rfl ?_
   refine Aa (Ae rfl fa32_1) rfl ?_
   refine Ao (Aq 1 (k:=1) rfl rfl rfl rfl rfl Tz9) ?_; rintro _ _ ⟨rfl,rfl⟩; refine Ab (L2:=[_,_,_]) rfl ?_
   refine Ek12 0 2 3 6 9 10 90 91 92 122 125 128 rfl<|Al<|Em rfl rfl<|Em rfl rfl<|Aa (Bh (b:=((1 : Nat) : Int)) rfl rfl (N.add64 (by omega))) rfl<|Aa (Bh rfl rfl (N.add64 (by omega))) rfl<|Ea rfl rfl<|Ek12 0 2 3 6 9 10 90 91 92 122 125 128 rfl<|Al<|Aa (Bh (b:=((1 : Nat) : Int)) rfl rfl (N.add64 (by omega))) rfl<|Em rfl rfl<|Ek12 0 2 3 6 9 10 90 91 92 122 125 128 rfl ?_
   refine ⟨_,?_,k + 1,n + (s + 1),{ h with comment := latin ((b.drop n).take s) },rfl,rfl,by first | (rw [hR,spK_skip hk2 (by omega)]; done) | (rw [hR,hs,hk0,spK_name (by rw [← hk0]; omega) (by omega) (by omega)]; done) | (rw [hR,hs,hk1,Fy (by rw [← hk1]; omega) (by omega) (by omega)]; done),by omega,by omega,hX,rfl⟩; omega
  refine Bu rfl ?_
  exact ⟨fb,n,h,rfl,rfl,by rw [hR]; rw [show k = 2 by omega]; rfl,hn,hX⟩
 rintro _ _ ⟨fb,n,h,hq32,rfl,hR,hn,hX⟩
 refine Ba _ hq32<|Eg (M:=fun ee ll => ∃ (fb : Nat),∃ (n : Nat),∃ (h : Hd),keeps ee [0,2,3,6] = some [(0,.slice (some ⟨pb,po,none⟩) (b.length) (cap)),(2,.pointer (some ⟨b2,0,none⟩)),(3,.int .i64 ((n : Nat) : Int)),(6,.int .u8 (((b.getD 3 0).toNat : Nat) : Int))] ∧ ll = [⟨fb,0,[.int .u8 8,.int .u8 16]⟩,⟨b2,0,[.string h.name,.string h.comment,.slice xa xn xc,.int .i64 ((h.mod : Nat) : Int),.int .u8 ((h.os : Nat) : Int)]⟩,xf] ∧ (As b = (h,n,0,0)) ∧ (ExSp h.extra (.slice xa xn xc) xf)) ?_ ?_
 ·refine Cr<|Em rfl rfl<|Aa (Ei (b:=((2 : Nat) : Int)) rfl rfl (N.and_u8 (by omega) (by omega))) rfl<|Aa (Fq (b:=((0 : Nat) : Int)) rfl rfl) rfl<|Ek5 0 2 3 6 152 rfl<|Be rfl (fun h152 => ?_) (fun h152 => ?_)
  ·refine Ap<|Cr<|Em rfl rfl<|Aa (Bk rfl Tu25) rfl<|Em rfl rfl<|Aa (Du rfl rfl (N.sub64 (by omega) (by omega))) rfl<|Aa (Dk (b:=((2 : Nat) : Int)) rfl rfl) rfl<|Ek6 0 2 3 6 152 157 rfl<|Be rfl (fun h157 => ?_) (fun h157 => ?_)
   ·refine Cr<|Ah (Bn 1 (k:=0) rfl rfl rfl rfl Ta32 Tz32) rfl ?_
    refine Ao (Bi 1 (k:=0) rfl rfl rfl rfl rfl rfl Tz32 rfl) ?_; rintro _ _ ⟨rfl,rfl⟩; refine Ab (L2:=[_,_,_]) rfl ?_
    refine Ea rfl rfl<|Ea rfl rfl<|Ea rfl rfl<|Ek8 0 2 3 4 5 6 152 157 rfl<|Av ?_
    have hRR : As b = (h,0,1,0) := by rw [hR,sp4,if_neg (by omega),if_pos (by omega)]
    refine ⟨_,_,_,_,⟨_,_,1,rfl,rfl,rfl⟩,rfl,rfl,rfl,xa,xn,xc,_,by rw [hRR]; exact hX,(.tail _ (.tail _ (.head _))),?_⟩
    rw [hRR]; rfl
   refine Ar<|Ap<|Ap ?_
   have hcl := Gr (poly:=IEEE) (crc:=0) (by decide) (by decide) (b.take n)
   have hca : crcOn IEEE 0 (b.take n) &&& 65535 = crcOn IEEE 0 (b.take n) % 65536 := Nat.and_two_pow_sub_one_eq_mod (n:=16) _
   refine Br [0,0,0,4,11,16,0,0,192,288,512,1024,2080] (.pure 0 462 (.pure 1 461 (.pure 2 451 (.pure 3 455 (.pure 4 463 (.pure 6 191 (.pure 7 127 (.pure 8 255 (.alt 5 (.alt 9 (.pure 10 1023 (.pure 11 2047 (.pure 12 4095 .done))) .stop) .stop))))))))) mixed (by decide +kernel)<|Dm rfl rfl rfl<|Dm rfl rfl rfl<|Dm rfl rfl rfl<|Ai rfl (Bh (b:=((2 : Nat) : Int)) rfl rfl (N.add64 (by omega))) rfl<|Ai rfl (Ey rfl rfl rfl (by omega) (by omega) Tu25 Tz5) rfl ?_
   refine Dn (v:=.slice (some ⟨pb,po + (n),none⟩) (((b.drop (n)).take 2).length) (cap - (n))) (Bo (by have hpa : part po (n) cap 1 = po + (n) * 1 := if_neg (by omega); omega) (by rw [List.length_take,List.length_drop]; omega) rfl) ?_
   refine Dm rfl rfl rfl<|Dm rfl rfl rfl<|Ai rfl (S.slH rfl rfl (by omega) Tu25 Tz5) rfl ?_
   refine Dn (v:=.slice (some ⟨pb,po,none⟩) ((b.take n).length) (cap)) (Bo rfl (by rw [List.length_take]; omega) rfl) ?_
   refine Da ?_
   refine Df rfl (OpX.pick [] (F:=[_,_,_]) rfl (Au rfl Tryz.call31 (Ep pb (po + (n)) (cap - (n)) ((b.drop (n)).take 2) (hp.sub (n) 2) (by rw [List.length_take]; omega)))) rfl ?_; rintro _ _ ⟨_,⟨rfl,rfl⟩,rfl⟩; refine Bf (L2:=[_,_,_]) rfl ?_
   refine Dn (v:=.int .i64 ((le16of (b.drop n) : Nat) : Int)) (by rw [Fz (by rw [List.length_drop]; omega)]) ?_
   refine Da ?_
   refine Df rfl (OpX.pick [] (F:=[_,_,_]) rfl (Au rfl Tryz.call28 (check_spec pb po cap (b.take n) (fun j hj => by have := hp.sub 0 n j hj; simpa using this) (by rw [List.length_take]; omega)))) rfl ?_; rintro _ _ ⟨_,⟨rfl,rfl⟩,rfl⟩; refine Bf (L2:=[_,_,_]) rfl ?_
   refine Ai rfl (Ei (b:=((65535 : Nat) : Int)) rfl rfl (N.and_u32 (by omega) (by omega))) rfl<|Ai rfl (Bv rfl Tu69 Tu2 (N.i64n (by omega))) rfl<|Ai rfl (Fq rfl rfl) rfl<|Dk7 0 2 3 6 152 157 171 rfl<|Be rfl (fun h171 => ?_) (fun h171 => ?_)
   ·refine Cr<|Ah (Bn 1 (k:=0) rfl rfl rfl rfl Ta32 Tz32) rfl ?_
    refine Ao (Bi 1 (k:=0) rfl rfl rfl rfl rfl rfl Tz32 rfl) ?_; rintro _ _ ⟨rfl,rfl⟩; refine Ab (L2:=[_,_,_]) rfl ?_
    refine Ea rfl rfl<|Ea rfl rfl<|Ea rfl rfl<|Ek9 0 2 3 4 5 6 152 157 171 rfl<|Av ?_
    have hRR : As b = (h,0,1,2) := by rw [hR,sp4,if_neg (by omega),if_neg (by omega),if_pos (by omega)]
    refine ⟨_,_,_,_,⟨_,_,1,rfl,rfl,rfl⟩,rfl,rfl,rfl,xa,xn,xc,_,by rw [hRR]; exact hX,(.tail _ (.tail _ (.head _))),?_⟩
    rw [hRR]; rfl
   refine Ar<|Al<|Em rfl rfl<|Aa (Bh (b:=((2 : Nat) : Int)) rfl rfl (N.add64 (by omega))) rfl<|Ea rfl rfl<|Ek7 0 2 3 6 152 157 171 rfl ?_
   exact ⟨fb,n + 2,h,rfl,rfl,by rw [hR,sp4,if_neg (by omega),if_neg (by omega),if_neg (by omega)],hX⟩
  refine Ar ?_
  exact ⟨fb,n,h,rfl,rfl,by rw [hR,sp4,if_pos (by omega)],hX⟩
 rintro _ _ ⟨fb,n,h,hq38,rfl,hR,hX⟩
 refine Ba _ hq38<|Cr<|Ah (Bn 1 (k:=0) rfl rfl rfl rfl Ta32 Tz32) rfl<|Em rfl rfl ?_
 refine Ao (Bi 1 (k:=0) rfl rfl rfl rfl rfl rfl Tz32 rfl) ?_; rintro _ _ ⟨rfl,rfl⟩; refine Ab (L2:=[_,_,_]) rfl ?_
 refine Ea rfl rfl<|Ea rfl rfl<|Ea rfl rfl<|Ek6 0 2 3 4 5 6 rfl<|Av ?_
 have hRR := hR
 refine ⟨_,_,_,_,⟨_,_,1,rfl,rfl,rfl⟩,rfl,rfl,rfl,xa,xn,xc,_,by rw [hRR]; exact hX,(.tail _ (.tail _ (.head _))),?_⟩
 rw [hRR]; rfl
section
variable {P : Program} {K : Known} {n : Nat}
theorem C.lose {c : Code} {env : Env} {L A F : Frags} {N X R} (s : Same L (A ++ F)) (h : wpC P K n c env A N X R) : wpC P K n c env L N X R := by
  refine Ez s ?_
  intro a w hf hw Q q
  have base : ∀ {w' L'},To K w A w' L' → To K w (A ++ F) w' L' := fun t => (To.frame hw t).drop
  exact h a w hf hw.drop Q ⟨fun e l a' w' h f t => q.normal e l a' w' h f (base t),fun i K hk e l a' w' h f t => q.exit i K hk e l a' w' h f (base t),
    fun i K hk e l a' w' h f t => q.goto i K hk e l a' w' h f (base t),fun e l a' w' h f t => q.ret e l a' w' h f (base t)⟩
end
theorem take2 {D : List UInt8} {p a b p1 p2 : Nat} {k1 k2 : Bool} (ha : TakeR D p 1 a k1 p1) (hb : TakeR D p1 2 b k2 p2) :
    (k2 = true → ¬ left D p < 3 ∧ a = takeB D p 1 ∧ b = takeB D (p + 1) 2 ∧ p2 = p + 3) ∧ (k2 = false → left D p < 3) := by
  have e : left D (8 * D.length) = 0 := by unfold left; omega
  rcases ha with ⟨rfl,ha1,ha2,rfl⟩ | ⟨rfl,ha1,ha2,rfl⟩
  · rcases hb with ⟨rfl,hb1,hb2,rfl⟩ | ⟨rfl,hb1,hb2,rfl⟩
    · rw [Gj] at hb1
      exact ⟨fun _ => ⟨by omega,ha2,hb2,by omega⟩,fun h => by cases h⟩
    · rw [Gj] at hb1
      exact ⟨fun h => (by cases h),fun _ => by omega⟩
  · rcases hb with ⟨rfl,hb1,hb2,rfl⟩ | ⟨rfl,hb1,hb2,rfl⟩
    · omega
    · exact ⟨fun h => (by cases h),fun _ => by omega⟩
theorem take16 {D : List UInt8} {q : Nat} (h : q + 1 < D.length) : takeB D (8 * q) 16 = (D.getD q 0).toNat + 256 * (D.getD (q + 1) 0).toNat := by
  have e1 : (D.getD q 0) = D[q]'(by omega) := by rw [List.getD_eq_getElem?_getD,List.getElem?_eq_getElem (by omega)]; rfl
  have e2 : (D.getD (q + 1) 0) = D[q + 1] := by rw [List.getD_eq_getElem?_getD,List.getElem?_eq_getElem h]; rfl
  rw [e1,e2,← leN_get (show q < D.length by omega),← leN_get h]
  unfold takeB bitsAt
  rw [show (16 : Nat) = 8 + 8 from rfl,mod_add_pow,Nat.div_div_eq_div_mul,← Nat.pow_add,show 8 * q + 8 = 8 * (q + 1) by omega]
theorem take32 {D : List UInt8} {q a b p1 p2 : Nat} {k1 k2 : Bool} (hq : q ≤ D.length) (ha : TakeR D (8 * q) 16 a k1 p1) (hb : TakeR D p1 16 b k2 p2) :
    (k2 = true → q + 4 ≤ D.length ∧ a = (D.getD q 0).toNat + 256 * (D.getD (q + 1) 0).toNat ∧ b = (D.getD (q + 2) 0).toNat + 256 * (D.getD (q + 3) 0).toNat ∧ p2 = 8 * (q + 4)) ∧ (k2 = false → D.length < q + 4) := by
  have e : left D (8 * D.length) = 0 := by unfold left; omega
  rcases ha with ⟨rfl,ha1,ha2,rfl⟩ | ⟨rfl,ha1,ha2,rfl⟩
  · rcases hb with ⟨rfl,hb1,hb2,rfl⟩ | ⟨rfl,hb1,hb2,rfl⟩
    · unfold left at hb1
      refine ⟨fun _ => ⟨by omega,by rw [ha2,take16 (by omega)],?_,by omega⟩,fun h => by cases h⟩
      rw [hb2,show 8 * q + 16 = 8 * (q + 2) by omega,take16 (by omega)]
    · unfold left at hb1
      exact ⟨fun h => (by cases h),fun _ => by omega⟩
  · rcases hb with ⟨rfl,hb1,hb2,rfl⟩ | ⟨rfl,hb1,hb2,rfl⟩
    · omega
    · unfold left at ha1
      exact ⟨fun h => (by cases h),fun _ => by omega⟩
section
variable {D : List UInt8} {last : Bool} {out : List UInt8} {p q n : Nat}
theorem stor_short (h : D.length < q + 4) : storR D last out q = (out,.bad) := by rw [storR,Gl,if_pos h]
theorem stor_sum (h : ¬ D.length < q + 4) (hs : (D.getD q 0).toNat + 256 * (D.getD (q + 1) 0).toNat + ((D.getD (q + 2) 0).toNat + 256 * (D.getD (q + 3) 0).toNat) ≠ 65535) : storR D last out q = (out,.bad) := by rw [storR,Gl,if_neg h,if_neg hs]
theorem stor_some (h : ¬ D.length < q + 4) (hs : (D.getD q 0).toNat + 256 * (D.getD (q + 1) 0).toNat + ((D.getD (q + 2) 0).toNat + 256 * (D.getD (q + 3) 0).toNat) = 65535) : storR D last out q = stored D last ((D.getD q 0).toNat + 256 * (D.getD (q + 1) 0).toNat) out (q + 4) := by rw [storR,Gl,if_neg h,if_pos hs]
theorem run_next2z (h3 : ¬ left D p < 3) (h : takeB D (p + 1) 2 = 2) {t : Tabs} {p2 : Nat} (hd : dynR D (p + 3) = some (t,p2)) (hz : ∀ s,lenOf t.lit s = 0) : run D .next out p = (out,.bad) := by
  rw [run]
  rw [if_neg h3,if_neg (by omega),if_neg (by omega),if_pos h,hd]
  simp only
  split
  · exact run_none (symR_of_none (findS_zero hz _ _))
  · rfl
end
theorem kb_drop {K : Known} {pb po cap : Nat} {b : List UInt8} (hp : KB K pb po b) (hcap : b.length ≤ cap) (lo : Nat) : KB K pb (part po lo cap 1) (b.drop lo) := by
  have := kb_part hp hcap lo b.length
  rwa [List.take_of_length_le (by rw [List.length_drop]; omega)] at this
theorem fix_all : okLens fixLit ∧ okLens Gh ∧ (∀ x ∈ fixLit,x ≤ 15) ∧ (∀ x ∈ Gh,x ≤ 15) ∧ fixT.mn = max (minL fixT.lit) (lenOf fixT.lit 256) := by decide +kernel
def InfR (dt : List UInt8) (R : ResR) (r : Value) (L : Frags) : Prop :=
  ∃ oa oc out n what,r = .tuple #[.slice oa out.length oc,.int .i64 ((n : Nat) : Int),.int .i64 ((what : Nat) : Int)] ∧ Sl 1 (.slice oa out.length oc) out.length (bytesV out) L ∧ out.length ≤ 2400 * dt.length ∧ n ≤ dt.length ∧
    ((what = 0 ∧ R = (out,.done n)) ∨ (what = 1 ∧ BadR R out) ∨ what = 2)
theorem drop1 {a : Frag} {Lo : Frags} : Same ([a] ++ Lo) (Lo ++ [a]) := Same.perm (List.perm_append_comm (l₁:=[a]) (l₂:=Lo))
set_option maxHeartbeats 1000000
theorem inflate_walk {K : Known} (ba : Option Addr) (bc : Nat) (dt : List UInt8) (hD : DB K ba dt) (hl : dt.length ≤ 65536) (hcap : dt.length ≤ bc) (hS : SpT K) (R : ResR) (hR0 : R = run dt .next [] 0) : Fn Tryz.prog K 30 #[.slice ba dt.length bc] ([]) (fun r L => ∃ L2 J,Same L (L2 ++ J) ∧ InfR dt R r L2) := by
 refine Fn.intro (args:=[.slice ba dt.length bc]) (RR:=Ret3 2 3 4 _) Tryz.func30 rfl rfl Tryz.ntmps30 (res3 Tryz.results30) ?_
 refine Bl (env2:=[(0,.slice ba dt.length bc)]) rfl<|Cr<|Ea rfl rfl<|Ea rfl rfl<|Ea rfl rfl<|Ek4 0 2 3 4 rfl<|Cr<|Em rfl rfl<|Aa (Eu (v:=.agg #[.slice ba dt.length bc,.int .i64 0]) [(0,.slice ba dt.length bc)] rfl (fun w => by simp [Instr.build,Instr.fill,Value.cells,Tryz.zeroValue124])) rfl ?_
 refine Ak (X.box rfl) rfl ?_; rintro _ _ ⟨b19,rfl,rfl⟩; refine Ab (L2:=[_]) rfl ?_
 refine Ab (L2:=[⟨b19,0,[.slice ba dt.length bc,.int .i64 (((0) : Nat) : Int)]⟩]) rfl<|Ea rfl rfl<|Ek5 0 2 3 4 5 rfl<|Ax<|Bx (fun mm ee ll => ∃ (out : List UInt8),∃ (p : Nat),∃ (oa : Option Addr),∃ (oc : Nat),∃ (Lo : Frags),keeps ee [0,2,5] = some [(0,.slice ba dt.length bc),(2,.slice oa (out).length oc),(5,.pointer (some ⟨b19,0,none⟩))] ∧ ll = [⟨b19,0,[.slice ba dt.length bc,.int .i64 (((p) : Nat) : Int)]⟩] ++ Lo ∧ (R = run dt .next out p) ∧ (p ≤ 8 * dt.length) ∧ (out.length ≤ 300 * p) ∧ (Sl 1 (.slice oa (out).length oc) out.length (bytesV out) Lo) ∧ mm = 8 * dt.length - p) (_) ⟨[],0,none,0,[],rfl,rfl,hR0,by omega,by simp,Sl.nil 1,rfl⟩ ?_
 rintro m0 _ _ ⟨out,p,oa,oc,Lo,hk0,rfl,hR,hp,hout,hsl,hm0⟩
 refine Ba _ hk0<|Ax<|Cr<|Em rfl rfl ?_
 refine Ak (OpX.pick [0] (F:=(_)) rfl (Au rfl Tryz.call47 (Fg b19 ba bc dt hD hl (p) 1 (hp) (by omega)))) rfl ?_; rintro _ _ ⟨_,⟨xl,kl,p1,rfl,rfl,hT1⟩,rfl⟩; refine Ab (L2:=(_::_)) rfl ?_
 refine Bt [0] rfl<|Ab (L2:=(_::_)) rfl<|Em rfl rfl<|Aa (Bb rfl rfl) rfl<|Aa (Bb rfl rfl) rfl<|Ea rfl rfl<|Ea rfl rfl<|Ek4 0 2 5 6 rfl ?_
 have hp1 := hT1.le hp
 refine Cr<|Em rfl rfl ?_
 refine Ak (OpX.pick [0] (F:=(_)) rfl (Au rfl Tryz.call47 (Fg b19 ba bc dt hD hl (p1) 2 (hp1.2) (by omega)))) rfl ?_; rintro _ _ ⟨_,⟨xk,kk,p2,rfl,rfl,hT2⟩,rfl⟩; refine Ab (L2:=(_::_)) rfl ?_
 refine Bt [0] rfl<|Ab (L2:=(_::_)) rfl<|Em rfl rfl<|Aa (Bb rfl rfl) rfl<|Aa (Bb rfl rfl) rfl<|Ea rfl rfl<|Ea rfl rfl<|Ek6 0 2 5 6 8 9 rfl ?_
 have hp2 := hT2.le hp1.2
 have hlk := hT2.lt
 have h2 := take2 hT1 hT2
 refine Ap<|Cr<|Em rfl rfl<|Aa (Fr rfl) rfl<|Ek7 0 2 5 6 8 9 31 rfl<|Fa rfl (fun h31 => ?_) (fun h31 => ?_)
 ·refine Cr<|Em rfl rfl<|Ea rfl rfl<|Ea rfl rfl<|Ea rfl rfl<|Ek9 0 2 3 4 5 6 8 9 31 rfl<|Av ?_
  exact ⟨_,_,_,rfl,rfl,rfl,_,[_],drop1,_,_,_,0,_,rfl,hsl,by omega,by omega,.inr (.inl ⟨rfl,Hg (hR.trans (run_next_short (h2.2 (by simpa using h31))))⟩)⟩
 obtain ⟨h3,rfl,rfl,rfl⟩ := h2.1 (by simpa using h31)
 have hlp : p + 3 ≤ 8 * dt.length := by unfold left at h3; omega
 have hlst := Eo dt p 1
 refine Ar<|Eg (M:=fun ee ll => ∃ (out2 : List UInt8),∃ (p6 : Nat),∃ (oa2 : Option Addr),∃ (oc2 : Nat),∃ (Lo2 : Frags),keeps ee [0,2,5,6] = some [(0,.slice ba dt.length bc),(2,.slice oa2 (out2).length oc2),(5,.pointer (some ⟨b19,0,none⟩)),(6,.int .i64 ((takeB dt p 1 : Nat) : Int))] ∧ ll = [⟨b19,0,[.slice ba dt.length bc,.int .i64 (((p6) : Nat) : Int)]⟩] ++ Lo2 ∧ ((takeB dt p 1 = 1 → R = (out2,.done ((p6 + 7) / 8))) ∧ (takeB dt p 1 ≠ 1 → R = run dt .next out2 p6)) ∧ (p < p6) ∧ (p6 ≤ 8 * dt.length) ∧ (out2.length ≤ 300 * p6) ∧ (Sl 1 (.slice oa2 (out2).length oc2) out2.length (bytesV out2) Lo2)) ?_ ?_
 ·refine Cr<|Em rfl rfl<|Ek8 0 2 5 6 8 9 31 33 rfl<|Ax<|Cr<|Aa (Dx (b:=((0 : Nat) : Int)) rfl rfl) rfl<|Ea rfl rfl<|Ek9 0 2 5 6 8 9 31 33 35 rfl<|Be rfl (fun h35 => ?_) (fun h35 => ?_)
  ·have h35n : takeB dt (p + 1) 2 = 0 := by omega
   have hQ : ((p + 3 + 7) / 8) ≤ dt.length := by omega
   refine Cr<|Em rfl rfl<|Em rfl rfl<|Aa (Ad rfl) rfl<|Aa (Ae rfl fa124_1) rfl<|Ah (An 0 (k:=1) rfl rfl rfl Ta3) rfl<|Aa (Bh (b:=((7 : Nat) : Int)) rfl rfl (N.add64 (by omega))) rfl ?_
   refine Aa (S.quo (a:=((p + 3 + 7 : Nat) : Int)) (b:=((8 : Nat) : Int)) (r:=((((p + 3 + 7) / 8) : Nat) : Int)) rfl rfl (by omega) (by rw [← Int.ofNat_tdiv]; exact N.i64n (by omega))) rfl ?_
   refine Aa (S.mul (b:=((8 : Nat) : Int)) rfl rfl (N.mul64 (by omega))) rfl<|Am (v:=.int .i64 ((8 * ((p + 3 + 7) / 8) : Nat) : Int)) (by rw [Nat.mul_comm])<|Aa (Ad rfl) rfl<|Aa (Ae rfl fa124_1) rfl<|Ao (Aq 0 (k:=1) rfl rfl rfl rfl rfl Tz3) ?_
   rintro _ _ ⟨rfl,rfl⟩
   refine Ab (L2:=⟨b19,0,[_,.int .i64 ((8 * ((p + 3 + 7) / 8) : Nat) : Int)]⟩::Lo) rfl<|Ek9 0 2 5 6 8 9 31 33 35 rfl<|Cr<|Em rfl rfl ?_
   refine Ak (OpX.pick [0] (F:=(_)) rfl (Au rfl Tryz.call47 (Fg b19 ba bc dt hD hl (8 * ((p + 3 + 7) / 8)) 16 (by omega) (by omega)))) rfl ?_; rintro _ _ ⟨_,⟨xs,ks,p3,rfl,rfl,hT3⟩,rfl⟩; refine Ab (L2:=(_::_)) rfl ?_
   refine Bt [0] rfl<|Ab (L2:=(_::_)) rfl<|Em rfl rfl<|Aa (Bb rfl rfl) rfl<|Aa (Bb rfl rfl) rfl<|Ea rfl rfl<|Ea rfl rfl<|Ek10 0 2 5 6 8 9 10 31 33 35 rfl ?_
   have hp3 := hT3.le (by omega)
   have hls := hT3.lt
   refine Cr<|Em rfl rfl ?_
   refine Ak (OpX.pick [0] (F:=(_)) rfl (Au rfl Tryz.call47 (Fg b19 ba bc dt hD hl (p3) 16 (hp3.2) (by omega)))) rfl ?_; rintro _ _ ⟨_,⟨xo,ko,p4,rfl,rfl,hT4⟩,rfl⟩; refine Ab (L2:=(_::_)) rfl ?_
   refine Bt [0] rfl<|Ab (L2:=(_::_)) rfl<|Em rfl rfl<|Aa (Bb rfl rfl) rfl<|Aa (Bb rfl rfl) rfl<|Ea rfl rfl<|Ea rfl rfl<|Ek12 0 2 5 6 8 9 10 12 13 31 33 35 rfl ?_
   have hp4 := hT4.le hp3.2
   have hlo := hT4.lt
   have h32 := take32 (q:=((p + 3 + 7) / 8)) (by omega) hT3 hT4
   refine Ap<|Cr<|Em rfl rfl<|Aa (Fr rfl) rfl<|Em rfl rfl<|E.forkB (fun g59 => ?_) (fun g59 => ?_)
   ·refine Ag 59 true rfl rfl rfl rfl<|Ag 59 true rfl rfl rfl rfl<|Ag 59 true rfl rfl rfl rfl<|Ag 59 true rfl rfl rfl rfl<|Aa (By rfl rfl) rfl<|Ek13 0 2 5 6 8 9 10 12 13 31 33 35 64 rfl<|Ft rfl (rfl)<|Cr<|Em rfl rfl<|Ea rfl rfl<|Ea rfl rfl<|Ea rfl rfl ?_
    refine Ek15 0 2 3 4 5 6 8 9 10 12 13 31 33 35 64 rfl<|Av ?_
    exact ⟨_,_,_,rfl,rfl,rfl,_,[_],drop1,_,_,_,0,_,rfl,hsl,by omega,by omega,.inr (.inl ⟨rfl,Hg (hR.trans ((run_next0 h3 h35n).trans (stor_short (h32.2 (by simpa using g59)))))⟩)⟩
   obtain ⟨hq4,rfl,rfl,rfl⟩ := h32.1 (by simpa using g59)
   refine Aj 59 rfl rfl<|Em rfl rfl<|Aj 59 rfl rfl<|Em rfl rfl<|Aj 59 rfl rfl<|Aa (Bh rfl rfl (N.add64 (by omega))) rfl<|Aj 59 rfl rfl<|Aa (Fq (b:=((65535 : Nat) : Int)) rfl rfl) rfl<|Aa (Bs rfl rfl) rfl<|Ek13 0 2 5 6 8 9 10 12 13 31 33 35 64 rfl<|Be rfl (fun h64 => ?_) (fun h64 => ?_)
   ·refine Cr<|Em rfl rfl<|Ea rfl rfl<|Ea rfl rfl<|Ea rfl rfl<|Ek15 0 2 3 4 5 6 8 9 10 12 13 31 33 35 64 rfl<|Av ?_
    exact ⟨_,_,_,rfl,rfl,rfl,_,[_],drop1,_,_,_,0,_,rfl,hsl,by omega,by omega,.inr (.inl ⟨rfl,Hg (hR.trans ((run_next0 h3 h35n).trans (stor_sum (by omega) (by omega))))⟩)⟩
   have hsum : (dt.getD ((p + 3 + 7) / 8) 0).toNat + 256 * (dt.getD (((p + 3 + 7) / 8) + 1) 0).toNat + ((dt.getD (((p + 3 + 7) / 8) + 2) 0).toNat + 256 * (dt.getD (((p + 3 + 7) / 8) + 3) 0).toNat) = 65535 := by omega
   obtain ⟨pb,po,rfl,hKB⟩ := hD.resolve_left (fun h => by rw [h] at hq4; simp at hq4)
   refine Ar<|Cr<|Em rfl rfl<|Aa (Ad rfl) rfl<|Aa (Ae rfl fa124_1) rfl<|Ah (An 0 (k:=1) rfl rfl rfl Ta3) rfl ?_
   refine Aa (S.quo (a:=((8 * (((p + 3 + 7) / 8) + 4) : Nat) : Int)) (b:=((8 : Nat) : Int)) (r:=(((((p + 3 + 7) / 8) + 4) : Nat) : Int)) rfl rfl (by omega) (by rw [← Int.ofNat_tdiv,show 8 * (((p + 3 + 7) / 8) + 4) / 8 = ((p + 3 + 7) / 8) + 4 by omega]; exact N.i64n (by omega))) rfl ?_
   refine Ea rfl rfl<|Ek14 0 2 5 6 8 9 10 12 13 14 31 33 35 64 rfl<|Ap<|Cr<|Em rfl rfl<|Aa (Bk rfl Tu25) rfl<|Em rfl rfl<|Aa (Du rfl rfl (N.sub64 (by omega) (by omega))) rfl<|Em rfl rfl<|Aa (Dk rfl rfl) rfl<|Ek15 0 2 5 6 8 9 10 12 13 14 31 33 35 64 76 rfl<|Be rfl (fun h76 => ?_) (fun h76 => ?_)
   ·have hcut : stored dt (decide (takeB dt p 1 = 1)) ((dt.getD ((p + 3 + 7) / 8) 0).toNat + 256 * (dt.getD (((p + 3 + 7) / 8) + 1) 0).toNat) out (((p + 3 + 7) / 8) + 4) = (out ++ dt.drop (((p + 3 + 7) / 8) + 4),.bad) := by rw [stored,if_pos (by omega)]
    have hol : (out ++ (dt.drop (((p + 3 + 7) / 8) + 4))).length = out.length + (dt.length - (((p + 3 + 7) / 8) + 4)) := by rw [List.length_append,List.length_drop]
    refine Cr<|Em rfl rfl<|Em rfl rfl<|Em rfl rfl<|Aa (S.slL rfl rfl (by omega) Tu25 Tz5) rfl<|Am (v:=.slice (some ⟨pb,part po (((p + 3 + 7) / 8) + 4) bc 1,none⟩) (dt.drop (((p + 3 + 7) / 8) + 4)).length (bc - (((p + 3 + 7) / 8) + 4))) (Bo rfl (by rw [List.length_drop]) rfl)<|Ab (L2:=[_] ++ Lo) rfl<|Eb (Same.perm List.perm_append_comm) ?_
    refine Ak (Gv (L:=[_]) (xs:=out) (ys:=(dt.drop (((p + 3 + 7) / 8) + 4))) (Lf:=Lo) rfl rfl hsl rfl (.inr ⟨_,_,rfl,(kb_drop hKB hcap (((p + 3 + 7) / 8) + 4)).reads⟩) (by rw [List.length_drop]; omega)) rfl ?_
    rintro v2 _ ⟨Lo2,hsl2,rfl⟩
    refine Eb (Same.perm List.perm_append_comm)<|Ab (L2:=_::Lo2) rfl ?_
    obtain ⟨oa2,oc2,rfl⟩ := hsl2.form
    refine Ea rfl rfl<|Ea rfl rfl<|Ea rfl rfl<|Ek17 0 2 3 4 5 6 8 9 10 12 13 14 31 33 35 64 76 rfl<|Av ?_
    exact ⟨_,_,_,rfl,rfl,rfl,_,[_],drop1,_,_,_,0,_,rfl,hsl2,by omega,by omega,.inr (.inl ⟨rfl,Hg (hR.trans ((run_next0 h3 h35n).trans ((stor_some (by omega) hsum).trans hcut)))⟩)⟩
   have hst : stored dt (decide (takeB dt p 1 = 1)) ((dt.getD ((p + 3 + 7) / 8) 0).toNat + 256 * (dt.getD (((p + 3 + 7) / 8) + 1) 0).toNat) out (((p + 3 + 7) / 8) + 4) = if takeB dt p 1 = 1 then (out ++ (dt.drop (((p + 3 + 7) / 8) + 4)).take ((dt.getD ((p + 3 + 7) / 8) 0).toNat + 256 * (dt.getD (((p + 3 + 7) / 8) + 1) 0).toNat),.done (((p + 3 + 7) / 8) + 4 + ((dt.getD ((p + 3 + 7) / 8) 0).toNat + 256 * (dt.getD (((p + 3 + 7) / 8) + 1) 0).toNat))) else run dt .next (out ++ (dt.drop (((p + 3 + 7) / 8) + 4)).take ((dt.getD ((p + 3 + 7) / 8) 0).toNat + 256 * (dt.getD (((p + 3 + 7) / 8) + 1) 0).toNat)) (8 * (((p + 3 + 7) / 8) + 4 + ((dt.getD ((p + 3 + 7) / 8) 0).toNat + 256 * (dt.getD (((p + 3 + 7) / 8) + 1) 0).toNat))) := by rw [stored,if_neg (by omega)]; by_cases h1 : takeB dt p 1 = 1; rw [if_pos (by simpa using h1),if_pos h1]; rw [if_neg (by simpa using h1),if_neg h1]
   have hRs := hR.trans ((run_next0 h3 h35n).trans ((stor_some (by omega) hsum).trans hst))
   have hol : (out ++ (dt.drop (((p + 3 + 7) / 8) + 4)).take ((dt.getD ((p + 3 + 7) / 8) 0).toNat + 256 * (dt.getD (((p + 3 + 7) / 8) + 1) 0).toNat)).length = out.length + ((dt.getD ((p + 3 + 7) / 8) 0).toNat + 256 * (dt.getD (((p + 3 + 7) / 8) + 1) 0).toNat) := by rw [List.length_append,List.length_take,List.length_drop]; omega
   refine Ar<|Cr<|Em rfl rfl<|Em rfl rfl<|Em rfl rfl<|Em rfl rfl<|Em rfl rfl<|Aa (Bh rfl rfl (N.add64 (by omega))) rfl<|Aa (Ey rfl rfl rfl (by omega) (by omega) Tu25 Tz5) rfl ?_
   refine Am (v:=.slice (some ⟨pb,part po (((p + 3 + 7) / 8) + 4) bc 1,none⟩) ((dt.drop (((p + 3 + 7) / 8) + 4)).take ((dt.getD ((p + 3 + 7) / 8) 0).toNat + 256 * (dt.getD (((p + 3 + 7) / 8) + 1) 0).toNat)).length (bc - (((p + 3 + 7) / 8) + 4))) (Bo rfl (by rw [List.length_take,List.length_drop]; omega) rfl) ?_
   refine Ab (L2:=[_] ++ Lo) rfl<|Eb (Same.perm List.perm_append_comm) ?_
   refine Ak (Gv (L:=[_]) (xs:=out) (ys:=(dt.drop (((p + 3 + 7) / 8) + 4)).take ((dt.getD ((p + 3 + 7) / 8) 0).toNat + 256 * (dt.getD (((p + 3 + 7) / 8) + 1) 0).toNat)) (Lf:=Lo) rfl rfl hsl rfl (.inr ⟨_,_,rfl,(kb_part hKB hcap (((p + 3 + 7) / 8) + 4) ((dt.getD ((p + 3 + 7) / 8) 0).toNat + 256 * (dt.getD (((p + 3 + 7) / 8) + 1) 0).toNat)).reads⟩) (by rw [List.length_take]; rw [List.length_drop]; omega)) rfl ?_
   rintro v2 _ ⟨Lo2,hsl2,rfl⟩
   refine Eb (Same.perm List.perm_append_comm)<|Ab (L2:=_::Lo2) rfl ?_
   obtain ⟨oa2,oc2,rfl⟩ := hsl2.form
   refine Ea rfl rfl<|Ek15 0 2 5 6 8 9 10 12 13 14 31 33 35 64 76 rfl<|Al<|Em rfl rfl<|Aa (Ad rfl) rfl<|Aa (Ae rfl fa124_1) rfl<|Ah (An 0 (k:=1) rfl rfl rfl Ta3) rfl<|Em rfl rfl<|Aa (S.mul (a:=((8 : Nat) : Int)) rfl rfl (N.mul64 (by omega))) rfl<|Aa (Bh rfl rfl (N.add64 (by omega))) rfl<|Am (v:=.int .i64 ((8 * (((p + 3 + 7) / 8) + 4 + ((dt.getD ((p + 3 + 7) / 8) 0).toNat + 256 * (dt.getD (((p + 3 + 7) / 8) + 1) 0).toNat)) : Nat) : Int)) (congrArg (fun q : Nat => Value.int .i64 (q : Int)) (by omega))<|Aa (Ad rfl) rfl ?_
   refine Aa (Ae rfl fa124_1) rfl<|Ao (Aq 0 (k:=1) rfl rfl rfl rfl rfl Tz3) ?_
   rintro _ _ ⟨rfl,rfl⟩
   refine Ab (L2:=⟨b19,0,[_,.int .i64 ((8 * (((p + 3 + 7) / 8) + 4 + ((dt.getD ((p + 3 + 7) / 8) 0).toNat + 256 * (dt.getD (((p + 3 + 7) / 8) + 1) 0).toNat)) : Nat) : Int)]⟩::Lo2) rfl<|Ek15 0 2 5 6 8 9 10 12 13 14 31 33 35 64 76 rfl ?_
   exact ⟨out ++ (dt.drop (((p + 3 + 7) / 8) + 4)).take ((dt.getD ((p + 3 + 7) / 8) 0).toNat + 256 * (dt.getD (((p + 3 + 7) / 8) + 1) 0).toNat),8 * (((p + 3 + 7) / 8) + 4 + ((dt.getD ((p + 3 + 7) / 8) 0).toNat + 256 * (dt.getD (((p + 3 + 7) / 8) + 1) 0).toNat)),_,_,_,rfl,rfl,⟨fun h => by rw [hRs,if_pos h]; congr 2; omega,fun h => by rw [hRs,if_neg h]⟩,by omega,by omega,by omega,hsl2⟩
  refine Eg (M:=fun ee ll => ∃ (bb : Bool),keeps ee [0,2,5,6,8,99] = some [(0,.slice ba dt.length bc),(2,.slice oa (out).length oc),(5,.pointer (some ⟨b19,0,none⟩)),(6,.int .i64 ((takeB dt p 1 : Nat) : Int)),(8,.int .i64 ((takeB dt (p + 1) 2 : Nat) : Int)),(99,.bool bb)] ∧ ll = [⟨b19,0,[.slice ba dt.length bc,.int .i64 (((p + 3) : Nat) : Int)]⟩] ++ Lo ∧ ((bb = true → takeB dt (p + 1) 2 = 1 ∨ takeB dt (p + 1) 2 = 2) ∧ (bb = false → takeB dt (p + 1) 2 ≠ 1 ∧ takeB dt (p + 1) 2 ≠ 2))) ?_ ?_
  ·refine Cr<|Aa (Dx (b:=((1 : Nat) : Int)) rfl rfl) rfl<|Ea rfl rfl<|Ek10 0 2 5 6 8 9 31 33 35 99 rfl<|Be rfl (fun h99 => ?_) (fun h99 => ?_)
   ·refine Ar ?_
    exact ⟨_,rfl,rfl,⟨fun _ => .inl (by omega),fun h => by have := of_decide_eq_false h; omega⟩⟩
   refine Al<|Aa (Dx (b:=((2 : Nat) : Int)) rfl rfl) rfl<|Ea rfl rfl<|Ek10 0 2 5 6 8 9 31 33 35 99 rfl ?_
   exact ⟨_,rfl,rfl,⟨fun h => by have := of_decide_eq_true h; omega,fun h => by have := of_decide_eq_false h; omega⟩⟩
  rintro _ _ ⟨bb,hq21,rfl,hbb⟩
  refine Ba _ hq21<|Fa rfl (fun h99 => ?_) (fun h99 => ?_)
  ·refine Cr ?_
   refine Ak (OpX.pick [] (F:=(_::_)) rfl (Au rfl Tryz.call42 fixed_spec)) rfl ?_; rintro _ _ ⟨_,⟨lb,lo,lc,ls,db,do_,dc,ds,rfl,rfl⟩,rfl⟩; refine Ab (L2:=(_::_::_::_)) rfl ?_
   refine Em rfl rfl<|Aa (Bb rfl rfl) rfl<|Aa (Bb rfl rfl) rfl<|Ea rfl rfl<|Ea rfl rfl<|Ek8 0 2 5 6 8 15 16 99 rfl<|Eg (M:=fun ee ll => ∃ (t : Tabs),∃ (lb : Nat),∃ (lo : Nat),∃ (lc : Nat),∃ (ls : List Value),∃ (db : Nat),∃ (do_ : Nat),∃ (dc : Nat),∃ (ds : List Value),∃ (p5 : Nat),keeps ee [0,2,5,6,15,16] = some [(0,.slice ba dt.length bc),(2,.slice oa (out).length oc),(5,.pointer (some ⟨b19,0,none⟩)),(6,.int .i64 ((takeB dt p 1 : Nat) : Int)),(15,.slice (some ⟨lb,lo,none⟩) t.lit.length lc),(16,.slice (some ⟨db,do_,none⟩) t.dist.length dc)] ∧ ll = [⟨b19,0,[.slice ba dt.length bc,.int .i64 (((p5) : Nat) : Int)]⟩,⟨lb,lo,intsV t.lit ++ ls⟩,⟨db,do_,intsV t.dist ++ ds⟩] ++ Lo ∧ (R = run dt (.sym (decide (takeB dt p 1 = 1)) t) out p5) ∧ (p < p5) ∧ (p5 ≤ 8 * dt.length) ∧ (okLens t.lit) ∧ (okLens t.dist) ∧ (∀ x ∈ t.lit,x ≤ 15) ∧ (∀ x ∈ t.dist,x ≤ 15) ∧ (t.lit.length ≤ 320) ∧ (t.dist.length ≤ 320) ∧ (t.mn = max (minL t.lit) (lenOf t.lit 256))) ?_ ?_
   ·refine Cr<|Em rfl rfl<|Aa (Dx (b:=((2 : Nat) : Int)) rfl rfl) rfl<|Ek9 0 2 5 6 8 15 16 99 107 rfl<|Be rfl (fun h107 => ?_) (fun h107 => ?_)
    ·refine Ap<|C.lose (A:=[_] ++ Lo) (F:=[_,_]) (Same.perm (List.perm_append_comm (l₁:=[_,_]) (l₂:=[_] ++ Lo)))<|Bq (L2:=_::Lo) rfl<|Al<|Em rfl rfl<|Ak (OpX.pick [0] (F:=Lo) rfl (Au rfl Tryz.call48 (lengths_spec b19 ba bc dt hD hl hS (p + 3) hlp))) rfl ?_
     rintro _ _ ⟨_,⟨v1,v2,what,p5,rfl,hp5a,hp5b,(⟨rfl,t,ab,ao,ac,rest,hdy,rfl,rfl,hok1,hok2,h15a,h15b,hle1,hle2,hmn,rfl⟩ | ⟨rfl,rfl,hno⟩ | ⟨rfl,rfl⟩)⟩,rfl⟩
     ·refine Ab (L2:=(_::_::_::_)) rfl<|Em rfl rfl<|Aa (Bb rfl rfl) rfl<|Aa (Bb rfl rfl) rfl<|Aa (Bb rfl rfl) rfl<|Ea rfl rfl<|Ea rfl rfl<|Ea rfl rfl<|Ek10 0 2 4 5 6 8 15 16 99 107 rfl<|Cr<|Em rfl rfl<|Aa (Fq (b:=((0 : Nat) : Int)) rfl rfl) rfl ?_
      refine Ek11 0 2 4 5 6 8 15 16 99 107 115 rfl<|Gw rfl (by decide)<|Ar ?_
      exact ⟨t,ab,ao,ac,[],ab,ao + t.lit.length,ac - t.lit.length,rest,p5,rfl,rfl,hR.trans (run_next2 h3 (by omega) hdy ⟨by omega,hp5b⟩),by omega,hp5b,hok1,hok2,h15a,h15b,by omega,by omega,hmn⟩
     ·refine Ab (L2:=(_::_)) rfl<|Em rfl rfl<|Aa (Bb rfl rfl) rfl<|Aa (Bb rfl rfl) rfl<|Aa (Bb rfl rfl) rfl<|Ea rfl rfl<|Ea rfl rfl<|Ea rfl rfl<|Ek10 0 2 4 5 6 8 15 16 99 107 rfl<|Cr<|Em rfl rfl<|Aa (Fq (b:=((0 : Nat) : Int)) rfl rfl) rfl ?_
      refine Ek11 0 2 4 5 6 8 15 16 99 107 115 rfl<|Ft rfl (by decide)<|Cr<|Em rfl rfl<|Em rfl rfl<|Ea rfl rfl<|Ea rfl rfl<|Ea rfl rfl<|Ek12 0 2 3 4 5 6 8 15 16 99 107 115 rfl<|Av ?_
      exact ⟨_,_,_,rfl,rfl,rfl,_,[_],drop1,_,_,_,0,_,rfl,hsl,by omega,by omega,.inr (.inl ⟨rfl,Hg (hR.trans (by rcases hno with h | ⟨t,p3,h,hz⟩; exact run_next2n h3 (by omega) h; exact run_next2z h3 (by omega) h hz))⟩)⟩
     refine Ab (L2:=(_::_)) rfl<|Em rfl rfl<|Aa (Bb rfl rfl) rfl<|Aa (Bb rfl rfl) rfl<|Aa (Bb rfl rfl) rfl<|Ea rfl rfl<|Ea rfl rfl<|Ea rfl rfl<|Ek10 0 2 4 5 6 8 15 16 99 107 rfl<|Cr<|Em rfl rfl<|Aa (Fq (b:=((0 : Nat) : Int)) rfl rfl) rfl ?_
     refine Ek11 0 2 4 5 6 8 15 16 99 107 115 rfl<|Ft rfl (by decide)<|Cr<|Em rfl rfl<|Em rfl rfl<|Ea rfl rfl<|Ea rfl rfl<|Ea rfl rfl<|Ek12 0 2 3 4 5 6 8 15 16 99 107 115 rfl<|Av ?_
     exact ⟨_,_,_,rfl,rfl,rfl,_,[_],drop1,_,_,_,0,_,rfl,hsl,by omega,by omega,.inr (.inr rfl)⟩
    have hk1 : takeB dt (p + 1) 2 = 1 := by have := hbb.1 h99; omega
    obtain ⟨fo1,fo2,fo3,fo4,fo5⟩ := fix_all
    refine Ge [2,0,0] rfl<|Bq (L2:=_::_::_::Lo) rfl<|Ar ?_
    exact ⟨fixT,lb,lo,lc,ls,db,do_,dc,ds,p + 3,rfl,rfl,hR.trans (run_next1 h3 hk1),by omega,by omega,fo1,fo2,fo3,fo4,by decide,by decide,fo5⟩
   rintro _ _ ⟨t,lb,lo,lc,ls,db,do_,dc,ds,p5,hq26,rfl,htl,hp5,hp5b,hok1,hok2,h15a,h15b,hle1,hle2,hmn⟩
   refine Ba _ hq26<|Cr<|Em rfl rfl<|Em rfl rfl<|Em rfl rfl<|Em rfl rfl ?_
   refine Ak (Au rfl Tryz.call49 (block_spec b19 ba bc dt hD hl hS p5 hp5b t hok1 hok2 h15a h15b hle1 hle2 hmn lb lo lc db do_ dc ls ds out oa oc Lo hsl (by omega) R (decide (takeB dt p 1 = 1)) htl)) rfl ?_; rintro _ _ ⟨oa2,oc2,out2,what,p6,Lo2,rfl,rfl,hsl2,hout2,hp6a,hp6b,hB⟩; refine Ab (L2:=(_::_)) rfl ?_
   refine Em rfl rfl<|Aa (Bb rfl rfl) rfl<|Aa (Bb rfl rfl) rfl<|Ea rfl rfl<|Ea rfl rfl<|Ek7 0 2 4 5 6 15 16 rfl<|Cr<|Em rfl rfl<|Aa (Fq (b:=((0 : Nat) : Int)) rfl rfl) rfl<|Ek8 0 2 4 5 6 15 16 127 rfl<|Be rfl (fun h127 => ?_) (fun h127 => ?_)
   ·refine Cr<|Em rfl rfl<|Em rfl rfl<|Ea rfl rfl<|Ea rfl rfl<|Ea rfl rfl<|Ek9 0 2 3 4 5 6 15 16 127 rfl<|Av ?_
    rcases hB with ⟨rfl,_⟩ | ⟨rfl,hb⟩ | rfl
    · exact absurd rfl h127
    · exact ⟨_,_,_,rfl,rfl,rfl,_,[_],drop1,_,_,_,0,_,rfl,hsl2,by omega,by omega,.inr (.inl ⟨rfl,hb⟩)⟩
    · exact ⟨_,_,_,rfl,rfl,rfl,_,[_],drop1,_,_,_,0,_,rfl,hsl2,by omega,by omega,.inr (.inr rfl)⟩
   obtain ⟨rfl,hB1,hB2⟩ := hB.resolve_right (fun h => by rcases h with ⟨rfl,_⟩ | rfl <;> exact absurd h127 (by decide))
   refine Ar ?_
   exact ⟨out2,p6,_,_,_,rfl,rfl,⟨fun h => hB1 (by simpa using h),fun h => hB2 (by simpa using h)⟩,by omega,hp6b,hout2,hsl2⟩
  refine Cr<|Em rfl rfl<|Ea rfl rfl<|Ea rfl rfl<|Ea rfl rfl<|Ek8 0 2 3 4 5 6 8 99 rfl<|Av ?_
  exact ⟨_,_,_,rfl,rfl,rfl,_,[_],drop1,_,_,_,0,_,rfl,hsl,by omega,by omega,.inr (.inl ⟨rfl,Hg (hR.trans (run_next3 h3 (by omega) (hbb.2 h99).1 (hbb.2 h99).2))⟩)⟩
 rintro _ _ ⟨out2,p6,oa2,oc2,Lo2,hq29,rfl,hfin,hpa,hpb,hout,hsl⟩
 refine Ba _ hq29<|Cr<|Em rfl rfl<|Aa (Dx (b:=((1 : Nat) : Int)) rfl rfl) rfl<|Ek5 0 2 5 6 131 rfl<|Be rfl (fun h131 => ?_) (fun h131 => ?_)
 ·refine Ap<|Br [0,0,2,4,8,16,32,1,255,511] (.pure 0 126 (.pure 1 129 (.pure 2 131 (.pure 3 135 (.pure 7 127 (.seg [(4,143),(5,159),(6,191),(8,255),(9,511)] .done)))))) mixed (by decide +kernel)<|Dm rfl rfl rfl<|Dm rfl rfl rfl<|Ai rfl (Ad rfl) rfl<|Ai rfl (Ae rfl fa124_1) rfl<|Ai rfl (Bc rfl) rfl<|Dc (by decide)<|Az rfl (An 0 (k:=1) rfl rfl rfl Ta3) rfl<|Bg rfl (Bh (b:=((7 : Nat) : Int)) rfl rfl (N.add64 (by omega))) rfl ?_
  refine Bg rfl (S.quo (a:=((p6 + 7 : Nat) : Int)) (b:=((8 : Nat) : Int)) (r:=(((p6 + 7) / 8 : Nat) : Int)) rfl rfl (by omega) (by rw [← Int.ofNat_tdiv]; exact N.i64n (by omega))) rfl ?_
  refine Bg rfl (Bc rfl) rfl<|Bg rfl (Bc rfl) rfl<|Db<|Dk7 0 2 3 4 5 6 131 rfl<|Av ?_
  exact ⟨_,_,_,rfl,rfl,rfl,_,[_],drop1,_,_,_,_,_,rfl,hsl,by omega,by omega,.inl ⟨rfl,hfin.1 (by omega)⟩⟩
 refine Ar ?_
 refine ⟨_,?_,_,_,_,_,_,rfl,rfl,hfin.2 (by omega),hpb,hout,hsl,rfl⟩; omega
theorem inflate_spec {K : Known} (ba : Option Addr) (bc : Nat) (dt : List UInt8) (hD : DB K ba dt) (hl : dt.length ≤ 65536) (hcap : dt.length ≤ bc) (hS : SpT K) : Fn Tryz.prog K 30 #[.slice ba dt.length bc] [] (InfR dt (run dt .next [] 0)) := by
  refine Fn.lose (inflate_walk ba bc dt hD hl hcap hS _ rfl) ?_
  rintro r L ⟨L2,J,hS,h⟩
  exact ⟨L2,J,hS,h⟩
set_option maxHeartbeats 1000000
def BA (K : Known) (v : Value) (l : List UInt8) : Prop := (v = .slice none 0 0 ∧ l = []) ∨ (∃ a c,v = .slice (some a) 0 c ∧ l = []) ∨ ∃ pb po cap,v = .slice (some ⟨pb,po,none⟩) l.length cap ∧ l.length ≤ cap ∧ KB K pb po l
def CloneG (data : List UInt8) (a : Option Addr) (c : Nat) (L : Frags) : Prop := data.length ≤ c ∧ ((data = [] ∧ L = []) ∨ ∃ db o cs,a = some ⟨db,o,none⟩ ∧ L = [⟨db,o,bytesV data ++ cs⟩])
theorem clone_in {K : Known} {v : Value} {data : List UInt8} (hv : BA K v data) (hl : data.length ≤ 65536) (G : Frags) : Fn Tryz.prog K 22 #[v] G fun r L => ∃ a c GL,r = .slice a data.length c ∧ CloneG data a c GL ∧ L = G ++ GL := by
  have key : Fn Tryz.prog K 22 #[v] [] fun r L => ∃ a c,r = .slice a data.length c ∧ CloneG data a c L := by
    have ow : ∀ {r : Value} {L : Frags},(∃ g,Own data r g ∧ L = [g]) → ∃ a c,r = .slice a data.length c ∧ CloneG data a c L := by
      rintro r L ⟨g,⟨b,o,c,cs,rfl,rfl,h⟩,rfl⟩
      exact ⟨_,_,rfl,h,.inr ⟨b,o,cs,rfl,rfl⟩⟩
    rcases hv with ⟨rfl,rfl⟩ | ⟨a,c,rfl,rfl⟩ | ⟨pb,po,cap,rfl,hc,hp⟩
    · exact Fn.mono clone_nil fun r L h => ⟨none,0,h.1,Nat.le_refl _,.inl ⟨rfl,h.2⟩⟩
    · exact Fn.mono (clone_empty a c) fun r L h => ow h
    · exact Fn.mono (clone_spec (L:=[]) pb po cap data hp.reads (by omega)) fun r L h => ow h
  refine Fn.sameR (Fn.frame (L:=[]) (F:=G) key) ?_
  rintro r L ⟨L1,⟨a,c,rfl,h⟩,rfl⟩
  exact ⟨G ++ L1,Same.perm List.perm_append_comm,a,c,L1,rfl,h,rfl⟩
theorem src_at {K : Known} {ea : Fin 5 → Addr} (hs : Sents K ea) (rb : Nat) {a : Option Addr} {c : Nat} {data : List UInt8} {GL : Frags} (h : CloneG data a c GL) (hl : data.length ≤ 65536) :
    ∃ x1 x2 x3,(Hh K ea hs rb a c data).At data x1 x2 x3 ∧ ∀ G,Same (⟨rb,0,[.slice a data.length c,.int .i64 0,.int .i64 (-1)]⟩::(G ++ GL)) ([x1,x2,x3] ++ G) := by
  obtain ⟨hc,⟨rfl,rfl⟩ | ⟨db,o,cs,rfl,rfl⟩⟩ := h
  · refine ⟨⟨rb,0,[.slice a 0 c,.int .i64 ((0 : Nat) : Int),.int .i64 (-1)]⟩,⟨rb,0,[]⟩,⟨rb,0,[]⟩,⟨0,rfl,rfl,Nat.zero_le _,by decide,hc,.inl rfl,rfl⟩,fun G => ?_⟩
    rw [List.append_nil]
    exact (Same.empty rb 0 0 _ G).trans ((Same.empty rb 0 0 _ _))
  · refine ⟨⟨rb,0,[.slice (some ⟨db,o,none⟩) data.length c,.int .i64 ((0 : Nat) : Int),.int .i64 (-1)]⟩,⟨db,o,bytesV data ++ cs⟩,⟨rb,0,[]⟩,⟨0,rfl,rfl,Nat.zero_le _,by omega,hc,.inr ⟨db,o,cs,rfl,rfl⟩,rfl⟩,fun G => ?_⟩
    refine (Same.empty rb 0 0 _ _).trans (Same.perm (List.Perm.cons _ ?_))
    refine (List.Perm.cons _ List.perm_append_comm).trans ?_
    exact List.Perm.swap _ _ _
theorem zNewReader_in {K : Known} {ea : Fin 5 → Addr} (hs : Sents K ea) (src : Src K ea) (l : List UInt8) (x1 x2 x3 : Frag) (hA : src.At l x1 x2 x3) (G : Frags) :
    Fn Tryz.prog K 20 #[.iface src.t src.v] ([x1,x2,x3] ++ G) (fun r L => ((Ac l).1 ≠ .none ∧ r = .tuple #[.pointer none,Er.val ea (Ac l).1] ∧ ∃ f1 f2 f3,src.At (Ac l).2.1 f1 f2 f3 ∧ L = G ++ [f1,f2,f3]) ∨
      ((Ac l).1 = .none ∧ ∃ zb LZ,r = .tuple #[.pointer (some ⟨zb,0,none⟩),Er.val ea (Ac l).1] ∧ ZAt src zb (Ac l).2.2 true (Ac l).2.1 LZ ∧ L = G ++ LZ)) := by
  refine Fn.sameR (Fn.frame (F:=G) (zNewReader_spec hs src l x1 x2 x3 hA)) ?_
  rintro v L' ⟨L1,⟨hne,rfl,f1,f2,f3,hF,rfl⟩ | ⟨hno,zb,rfl,hz⟩,rfl⟩
  · exact ⟨G ++ [f1,f2,f3],Same.perm List.perm_append_comm,.inl ⟨hne,rfl,f1,f2,f3,hF,rfl⟩⟩
  · exact ⟨G ++ L1,Same.perm List.perm_append_comm,.inr ⟨hno,zb,L1,rfl,hz,rfl⟩⟩
theorem rest_in {K : Known} {ea : Fin 5 → Addr} (hs : Sents K ea) (hc : Codes K) {src : Src K ea} {zb : Nat} {h : Hd} (hm : h.mod < 4294967296) {ms : Bool} {rest : List UInt8} {sv : Value} (hsz : SzA K sv) (hlen : (gzR ms rest).1.length ≤ 70368744177664) {LZ : Frags} (hZ : ZAt src zb h ms rest LZ) (G : Frags) :
    Fn Tryz.prog K 24 #[.pointer (some ⟨zb,0,none⟩),sv] (G ++ LZ) fun r L => ∃ a1 k1 a2 k2 GL T,r = unV (0,h,(gzR ms rest).1,(gzR ms rest).2.1) (.slice a1 (h.extra.getD []).length k1) (.slice a2 (gzR ms rest).1.length k2) ∧ UnpV (0,h,(gzR ms rest).1,(gzR ms rest).2.1) r GL ∧
      (∃ f1 f2 f3 LZ2,(∃ l,src.At l f1 f2 f3) ∧ (ms = false → (gzR ms rest).2.1 = 1 → src.At (gzR ms rest).2.2 f1 f2 f3) ∧ ZOld zb LZ2 ∧ T = f1::f2::f3::LZ2) ∧ L = G ++ (GL ++ T) := by
  obtain ⟨f1,f2,f3,bs,xa,xn,Xf,fb,DN,hA,hb,hX,hDN,rfl⟩ := hZ
  refine Fn.lose (Fn.perm List.perm_append_comm (Fn.frame (F:=G) (rest_walk hs hc src zb h hm ms rest sv hsz hlen f1 f2 f3 bs xa xn Xf fb DN hA hb hX hDN))) ?_
  rintro r L ⟨L1,⟨L2,J,hS,GL,w1,w2,w3,LZ2,hU,h1,h2,h3,rfl⟩,rfl⟩
  have hU2 := hU
  obtain ⟨ev,bv,rfl,⟨a1,k1,rfl,_⟩,⟨a2,k2,rfl,_⟩⟩ := hU
  refine ⟨G ++ (GL ++ (w1::w2::w3::LZ2)),J,?_,a1,k1,a2,k2,GL,_,rfl,hU2,⟨w1,w2,w3,LZ2,h1,h2,h3,rfl⟩,rfl⟩
  rw [List.append_assoc]
  exact (Same.perm List.perm_append_comm).trans (Same.appendL G hS)
structure PM where
  hd : Hd
  data : List UInt8
  left : Nat
def memR (l : List UInt8) (h : Hd) (out rest : List UInt8) : Prop := (Ac l).1 = .none ∧ (Ac l).2.2 = h ∧ gzR false (Ac l).2.1 = (out,1,rest)
def Chain : List UInt8 → List PM → List UInt8 → Prop
  | l,[],l2 => l = l2
  | l,m::r,l2 => ∃ rest,memR l m.hd m.data rest ∧ m.left = rest.length ∧ Chain rest r l2
theorem Chain.snoc : ∀ {ms : List PM} {l l2 l3 : List UInt8} {h : Hd} {out : List UInt8},Chain l ms l2 → memR l2 h out l3 → Chain l (ms ++ [⟨h,out,l3.length⟩]) l3
  | [],l,l2,l3,h,out,hc,hm => by
    have e : l = l2 := hc
    subst e
    exact ⟨l3,hm,rfl,rfl⟩
  | m::r,l,l2,l3,h,out,⟨rest,h1,h2,h3⟩,hm => ⟨rest,h1,h2,Chain.snoc h3 hm⟩
def allD (ms : List PM) : List UInt8 := ms.flatMap PM.data
theorem allD_snoc (ms : List PM) (m : PM) : allD (ms ++ [m]) = allD ms ++ m.data := by unfold allD; rw [List.flatMap_append]; simp
theorem gzR_cases (l : List UInt8) :
    (∃ q,(run l .next [] 0).2 = .done q ∧ ¬ (l.drop q).length < 8 ∧ fits (run l .next [] 0).1 (l.drop q) ∧ ∀ ms,gzR ms l = ((run l .next [] 0).1 ++ (gzT ms l).1,(gzT ms l).2)) ∨
    (((gzR false l).2.1 = 5 ∨ (gzR false l).2.1 = 3) ∧ gzR true l = gzR false l ∧ (gzR false l).1 = (run l .next [] 0).1) := by
  cases h : (run l .next [] 0).2 with
  | bad =>
    right
    rw [gzR_eq,gzR_eq,gzT_bad h,gzT_bad h]
    exact ⟨.inl rfl,rfl,List.append_nil _⟩
  | done q =>
    by_cases h1 : (l.drop q).length < 8
    · right
      rw [gzR_eq,gzR_eq,gzT_short h h1,gzT_short h h1]
      exact ⟨.inl rfl,rfl,List.append_nil _⟩
    · by_cases h2 : fits (run l .next [] 0).1 (l.drop q)
      · exact .inl ⟨q,rfl,h1,h2,fun ms => gzR_eq⟩
      · right
        rw [gzR_eq,gzR_eq,gzT_sum h h1 h2,gzT_sum h h1 h2]
        exact ⟨.inr rfl,rfl,List.append_nil _⟩
theorem gz_bad {l out : List UInt8} (h : BadR (run l .next [] 0) out) : (gzR false l).2.1 = 5 ∧ (gzR false l).1 <+: out := by
  rw [gzR_eq,gzT_bad h.1]
  exact ⟨rfl,by rw [List.append_nil]; exact h.2⟩
theorem gz_short {l out : List UInt8} {q : Nat} (h : run l .next [] 0 = (out,.done q)) (h1 : (l.drop q).length < 8) : (gzR false l).2.1 = 5 ∧ (gzR false l).1 = out := by
  rw [gzR_eq,gzT_short (by rw [h]) h1,h]
  exact ⟨rfl,List.append_nil _⟩
theorem gz_sum {l out : List UInt8} {q : Nat} (h : run l .next [] 0 = (out,.done q)) (h1 : ¬ (l.drop q).length < 8) (h2 : ¬ fits out (l.drop q)) : (gzR false l).2.1 = 3 ∧ (gzR false l).1 = out := by
  rw [gzR_eq,gzT_sum (by rw [h]) h1 (by rw [h]; exact h2),h]
  exact ⟨rfl,List.append_nil _⟩
theorem gz_good {l out : List UInt8} {q : Nat} (h : run l .next [] 0 = (out,.done q)) (h1 : ¬ (l.drop q).length < 8) (h2 : fits out (l.drop q)) : gzR false l = (out,1,(l.drop q).drop 8) := by
  rw [gzR_eq,gzT_one (by rw [h]) h1 (by rw [h]; exact h2) rfl,h]
  simp
theorem mem_of_run {l out : List UInt8} {q : Nat} (hh : (Ac l).1 = .none) (h : run (Ac l).2.1 .next [] 0 = (out,.done q)) (h1 : ¬ ((Ac l).2.1.drop q).length < 8) (h2 : fits out ((Ac l).2.1.drop q)) :
    memR l (Ac l).2.2 out (((Ac l).2.1.drop q).drop 8) := ⟨hh,rfl,gz_good h h1 h2⟩
theorem sp4_why (b : List UInt8) (f n : Nat) (h : Hd) : (sp4 b f n h).2.2.2 = 0 ∨ (sp4 b f n h).2.2.2 = 2 := by unfold sp4; repeat (first | split | (exact .inl rfl) | (exact .inr rfl))
theorem sp3_why (b : List UInt8) (f n : Nat) (h : Hd) : (sp3 b f n h).2.2.2 = 0 ∨ (sp3 b f n h).2.2.2 = 2 := by unfold sp3; repeat (first | split | (exact sp4_why _ _ _ _) | (exact .inl rfl) | (exact .inr rfl))
theorem sp2_why (b : List UInt8) (f n : Nat) (h : Hd) : (sp2 b f n h).2.2.2 = 0 ∨ (sp2 b f n h).2.2.2 = 2 := by unfold sp2; repeat (first | split | (exact sp3_why _ _ _ _) | (exact .inl rfl) | (exact .inr rfl))
theorem sp1_why (b : List UInt8) (f : Nat) (h : Hd) : (sp1 b f h).2.2.2 = 0 ∨ (sp1 b f h).2.2.2 = 2 := by unfold sp1; repeat (first | split | (exact sp2_why _ _ _ _) | (exact .inl rfl) | (exact .inr rfl))
theorem sp_why (b : List UInt8) : (As b).2.2.2 = 0 ∨ (As b).2.2.2 = 2 := by unfold As; repeat (first | split | (exact sp1_why _ _ _) | (exact .inl rfl) | (exact .inr rfl))
def EndP (l : List UInt8) (what why : Nat) (behind : Bool) (h2 : Hd) (d2 : List UInt8) : Prop :=
  (behind = false ∧ d2 = [] ∧ l = [] ∧ ((what = 0 ∧ why = 0) ∨ (what = 1 ∧ why = 1))) ∨
  (behind = false ∧ d2 = [] ∧ l ≠ [] ∧ what ≠ 0 ∧ (what ≠ 2 → what = 1 ∧ (why = 0 ∨ why = 2) ∧ (Ac l).1 ≠ .none ∧ (why = 2 → (Ac l).1 = .header))) ∨
  (behind = true ∧ what ≠ 0 ∧ (Ac l).1 = .none ∧ h2 = (Ac l).2.2 ∧ (what ≠ 2 → what = 1 ∧ ((why = 0 ∧ (gzR false (Ac l).2.1).2.1 = 5 ∧ (gzR false (Ac l).2.1).1 <+: d2) ∨ (why = 3 ∧ (gzR false (Ac l).2.1).2.1 = 3 ∧ (gzR false (Ac l).2.1).1 = d2))))
theorem end_head {l : List UInt8} (hl : l ≠ []) (h0 : (As l).2.2.1 ≠ 0) (h2 : Hd) : EndP l (As l).2.2.1 (As l).2.2.2 false h2 [] := by
  right; left
  refine ⟨rfl,rfl,hl,h0,fun h2 => ?_⟩
  rcases agrees l with h | ⟨h,_⟩ | ⟨h,h3,h4⟩
  · exact absurd h h2
  · exact absurd h h0
  · exact ⟨h,sp_why l,h3,h4⟩
theorem sp_good {l : List UInt8} (h : (As l).2.2.1 = 0) : (Ac l).1 = .none ∧ (Ac l).2.1 = l.drop (As l).2.1 ∧ (As l).2.1 ≤ l.length ∧ (Ac l).2.2 = (As l).1 := by
  rcases agrees l with h1 | ⟨_,h2⟩ | ⟨h1,_⟩
  · omega
  · exact h2
  · omega
def RB (K : Known) (L : Frags) (a : Option Addr) (l : List UInt8) : Prop := l = [] ∨ ∃ b o,a = some ⟨b,o,none⟩ ∧ Reads K L b o (bytesV l)
theorem str_toList (l : List UInt8) : (ByteArray.mk l.toArray).toList = l := by
  rw [ByteArray.toList_eq]
theorem str_beq (l m : List UInt8) : ((ByteArray.mk l.toArray).toList == (ByteArray.mk m.toArray).toList) = decide (l = m) := by
  rw [str_toList,str_toList]
  by_cases h : l = m
  · subst h; simp
  · simp [h]
theorem bytesEqual_known {K : Known} (a1 a2 : Option Addr) (c1 c2 : Nat) (l1 l2 : List UInt8) (h1 : RB K [] a1 l1) (h2 : RB K [] a2 l2) : Fn Tryz.prog K 13 #[.slice a1 l1.length c1,.slice a2 l2.length c2] ([]) (fun v _ => v = .bool (decide (l1 = l2))) := by
 refine Fn.intro (args:=[.slice a1 l1.length c1,.slice a2 l2.length c2]) (RR:=Ret1 4 _) Tryz.func13 rfl rfl Tryz.ntmps13 (res1 Tryz.results13) ?_
 refine Bl (env2:=[(0,.slice a1 l1.length c1),(1,.slice a2 l2.length c2)]) rfl<|Cr<|Ea rfl rfl<|Ek3 0 1 4 rfl<|Cr<|Em rfl rfl<|Ah (S.bytesStr (l:=l1) Tu25 Tu5 Tu9 rfl h1) rfl<|Em rfl rfl<|Ah (S.bytesStr (l:=l2) Tu25 Tu5 Tu9 rfl h2) rfl<|Aa (S.eqStr rfl rfl) rfl<|Ea rfl rfl<|Ek1 4 rfl ?_
 refine Av ?_
 exact ⟨_,rfl,by first | (rw [← str_beq]; done) | (rw [← str_beq]; rfl)⟩
theorem RB.still {K : Known} {L : Frags} {a : Option Addr} {l : List UInt8} (h : RB K L a l) {w : World} (hw : Agree K L w.heap) : RB (fun b => w.heap[b]?) [] a l := by
  rcases h with h | ⟨b,o,h1,h2⟩
  · exact .inl h
  · exact .inr ⟨b,o,h1,(h2.kb hw).reads⟩
theorem RB.lift {K : Known} {L : Frags} {a : Option Addr} {l : List UInt8} (h : RB K [] a l) : RB K L a l := by
  rcases h with h | ⟨b,o,h1,h2⟩
  · exact .inl h
  · exact .inr ⟨b,o,h1,fun w hw => h2 w ⟨hw.base,(fun f hf => by cases hf),(fun f hf => by cases hf),List.Pairwise.nil⟩⟩
theorem bytesEqual_spec {K : Known} {L : Frags} (a1 a2 : Option Addr) (c1 c2 : Nat) (l1 l2 : List UInt8) (h1 : RB K L a1 l1) (h2 : RB K L a2 l2) :
    Fn Tryz.prog K 13 #[.slice a1 l1.length c1,.slice a2 l2.length c2] L (fun v L' => v = .bool (decide (l1 = l2)) ∧ L' = L) :=
  Fn.stillR fun w hw => bytesEqual_known a1 a2 c1 c2 l1 l2 (h1.still hw) (h2.still hw)
theorem text_beq (s u : ByteArray) : (s.toList == u.toList) = decide (s = u) := by
  rw [ByteArray.toList_eq,ByteArray.toList_eq]
  by_cases h : s = u
  · subst h; simp
  · have : s.data.toList ≠ u.data.toList := fun e => h (by
      cases s with | mk x => cases u with | mk y => exact congrArg ByteArray.mk (Array.ext' e))
    rw [decide_eq_false h]; exact beq_false_of_ne this
theorem same_known {K : Known} (n1 n2 c1 c2 : ByteArray) (a1 a2 : Option Addr) (k1 k2 : Nat) (l1 l2 : List UInt8) (m1 m2 o1 o2 : Nat) (h1 : RB K [] a1 l1) (h2 : RB K [] a2 l2) : Fn Tryz.prog K 12 #[.agg #[.string n1,.string c1,.slice a1 l1.length k1,.int .i64 ((m1 : Nat) : Int),.int .u8 ((o1 : Nat) : Int)],.agg #[.string n2,.string c2,.slice a2 l2.length k2,.int .i64 ((m2 : Nat) : Int),.int .u8 ((o2 : Nat) : Int)]] ([]) (fun v _ => v = .bool (decide (n1 = n2 ∧ c1 = c2 ∧ l1 = l2 ∧ m1 = m2 ∧ o1 = o2))) := by
 refine Fn.intro (args:=[.agg #[.string n1,.string c1,.slice a1 l1.length k1,.int .i64 ((m1 : Nat) : Int),.int .u8 ((o1 : Nat) : Int)],.agg #[.string n2,.string c2,.slice a2 l2.length k2,.int .i64 ((m2 : Nat) : Int),.int .u8 ((o2 : Nat) : Int)]]) (RR:=Ret1 4 _) Tryz.func12 rfl rfl Tryz.ntmps12 (res1 Tryz.results12) ?_
 refine Bl (env2:=[(0,.agg #[.string n1,.string c1,.slice a1 l1.length k1,.int .i64 ((m1 : Nat) : Int),.int .u8 ((o1 : Nat) : Int)]),(1,.agg #[.string n2,.string c2,.slice a2 l2.length k2,.int .i64 ((m2 : Nat) : Int),.int .u8 ((o2 : Nat) : Int)])]) rfl<|Cr ?_
 refine Ak (X.box rfl) rfl ?_; rintro _ _ ⟨b2,rfl,rfl⟩; refine Ab (L2:=[_]) rfl ?_
 refine Ak (X.box rfl) rfl ?_; rintro _ _ ⟨b3,rfl,rfl⟩; refine Ab (L2:=[_,_]) rfl ?_
 refine Ea rfl rfl<|Ek3 2 3 4 rfl<|Cr<|Aa (Ae rfl fa27_0) rfl<|Ah (An 1 (k:=0) rfl rfl rfl Ta9) rfl<|Aa (Ae rfl fa32_0) rfl<|Ah (An 0 (k:=0) rfl rfl rfl Ta9) rfl<|Aa (S.eqStr rfl rfl) rfl<|Am (v:=.bool (decide (n1 = n2))) (congrArg Value.bool (text_beq n1 n2))<|Em rfl rfl<|Ec (fun g10 => ?_) (fun g10 => ?_)
 ·refine Aj 10 rfl rfl<|Aa (Ae rfl fa27_1) rfl<|Aj 10 rfl rfl<|Ah (An 1 (k:=1) rfl rfl rfl Ta9) rfl<|Aj 10 rfl rfl<|Aa (Ae rfl fa32_1) rfl<|Aj 10 rfl rfl<|Ah (An 0 (k:=1) rfl rfl rfl Ta9) rfl<|Aj 10 rfl rfl<|Aa (S.eqStr rfl rfl) rfl<|Am (v:=.bool (decide (c1 = c2))) (congrArg Value.bool (text_beq c1 c2))<|Aa (By rfl rfl) rfl ?_
  refine Em rfl rfl<|Ec (fun g17 => ?_) (fun g17 => ?_)
  ·refine Aj 17 rfl rfl<|Aa (Ae rfl fa27_2) rfl<|Aj 17 rfl rfl<|Ah (An 1 (k:=2) rfl rfl rfl Ta25) rfl<|Aj 17 rfl rfl<|Aa (Ae rfl fa32_2) rfl<|Aj 17 rfl rfl<|Ah (An 0 (k:=2) rfl rfl rfl Ta25) rfl<|Aj 17 rfl rfl ?_
   refine Ak (Au rfl Tryz.call13 (bytesEqual_spec a1 a2 k1 k2 l1 l2 h1.lift h2.lift)) rfl ?_; rintro _ _ ⟨rfl,rfl⟩; refine Ab (L2:=[_,_]) rfl ?_
   refine Aa (By rfl rfl) rfl<|Em rfl rfl<|Ec (fun g24 => ?_) (fun g24 => ?_)
   ·refine Aj 24 rfl rfl<|Aa (Ae rfl fa27_3) rfl<|Aj 24 rfl rfl<|Ah (An 1 (k:=3) rfl rfl rfl Ta2) rfl<|Aj 24 rfl rfl<|Aa (Ae rfl fa32_3) rfl<|Aj 24 rfl rfl<|Ah (An 0 (k:=3) rfl rfl rfl Ta2) rfl<|Aj 24 rfl rfl<|Aa (Dx rfl rfl) rfl<|Aa (By rfl rfl) rfl<|Em rfl rfl ?_
    refine Ec (fun g31 => ?_) (fun g31 => ?_)
    ·refine Aj 31 rfl rfl<|Aa (Ae rfl fa27_4) rfl<|Aj 31 rfl rfl<|Ah (An 1 (k:=4) rfl rfl rfl Ta5) rfl<|Aj 31 rfl rfl<|Aa (Ae rfl fa32_4) rfl<|Aj 31 rfl rfl<|Ah (An 0 (k:=4) rfl rfl rfl Ta5) rfl<|Aj 31 rfl rfl<|Aa (Dx rfl rfl) rfl<|Aa (By rfl rfl) rfl<|Ea rfl rfl ?_
     refine Ek3 2 3 4 rfl<|Av ?_
     refine ⟨_,rfl,?_⟩
     exact congrArg Value.bool (decide_eq_decide.2 ⟨fun h => ⟨g10,g17,g24,by omega,by omega⟩,fun h => by have := h.2.2.2.2; omega⟩)
    refine Ag 31 false rfl rfl rfl rfl<|Ag 31 false rfl rfl rfl rfl<|Ag 31 false rfl rfl rfl rfl<|Ag 31 false rfl rfl rfl rfl<|Ag 31 false rfl rfl rfl rfl<|Aa (Bs rfl rfl) rfl<|Ea rfl rfl<|Ek3 2 3 4 rfl<|Av ?_
    refine ⟨_,rfl,?_⟩
    exact congrArg Value.bool (decide_eq_false (fun h => g31 (by have := h.2.2.2.1; omega))).symm
   refine Ag 24 false rfl rfl rfl rfl<|Ag 24 false rfl rfl rfl rfl<|Ag 24 false rfl rfl rfl rfl<|Ag 24 false rfl rfl rfl rfl<|Ag 24 false rfl rfl rfl rfl<|Aa (Bs rfl rfl) rfl<|Em rfl rfl<|Ag 31 false rfl rfl rfl rfl<|Ag 31 false rfl rfl rfl rfl<|Ag 31 false rfl rfl rfl rfl<|Ag 31 false rfl rfl rfl rfl<|Ag 31 false rfl rfl rfl rfl ?_
   refine Aa (Bs rfl rfl) rfl<|Ea rfl rfl<|Ek3 2 3 4 rfl<|Av ?_
   refine ⟨_,rfl,?_⟩
   exact congrArg Value.bool (decide_eq_false (fun h => g24 h.2.2.1)).symm
  refine Ag 17 false rfl rfl rfl rfl<|Ag 17 false rfl rfl rfl rfl<|Ag 17 false rfl rfl rfl rfl<|Ag 17 false rfl rfl rfl rfl<|Ag 17 false rfl rfl rfl rfl<|Aa (Bs rfl rfl) rfl<|Em rfl rfl<|Ag 24 false rfl rfl rfl rfl<|Ag 24 false rfl rfl rfl rfl<|Ag 24 false rfl rfl rfl rfl<|Ag 24 false rfl rfl rfl rfl<|Ag 24 false rfl rfl rfl rfl ?_
  refine Aa (Bs rfl rfl) rfl<|Em rfl rfl<|Ag 31 false rfl rfl rfl rfl<|Ag 31 false rfl rfl rfl rfl<|Ag 31 false rfl rfl rfl rfl<|Ag 31 false rfl rfl rfl rfl<|Ag 31 false rfl rfl rfl rfl<|Aa (Bs rfl rfl) rfl<|Ea rfl rfl<|Ek3 2 3 4 rfl<|Av ?_
  refine ⟨_,rfl,?_⟩
  exact congrArg Value.bool (decide_eq_false (fun h => g17 h.2.1)).symm
 refine Ag 10 false rfl rfl rfl rfl<|Ag 10 false rfl rfl rfl rfl<|Ag 10 false rfl rfl rfl rfl<|Ag 10 false rfl rfl rfl rfl<|Ag 10 false rfl rfl rfl rfl<|Aa (Bs rfl rfl) rfl<|Em rfl rfl<|Ag 17 false rfl rfl rfl rfl<|Ag 17 false rfl rfl rfl rfl<|Ag 17 false rfl rfl rfl rfl<|Ag 17 false rfl rfl rfl rfl<|Ag 17 false rfl rfl rfl rfl ?_
 refine Aa (Bs rfl rfl) rfl<|Em rfl rfl<|Ag 24 false rfl rfl rfl rfl<|Ag 24 false rfl rfl rfl rfl<|Ag 24 false rfl rfl rfl rfl<|Ag 24 false rfl rfl rfl rfl<|Ag 24 false rfl rfl rfl rfl<|Aa (Bs rfl rfl) rfl<|Em rfl rfl<|Ag 31 false rfl rfl rfl rfl<|Ag 31 false rfl rfl rfl rfl<|Ag 31 false rfl rfl rfl rfl ?_
 refine Ag 31 false rfl rfl rfl rfl<|Ag 31 false rfl rfl rfl rfl<|Aa (Bs rfl rfl) rfl<|Ea rfl rfl<|Ek3 2 3 4 rfl<|Av ?_
 refine ⟨_,rfl,?_⟩
 exact congrArg Value.bool (decide_eq_false (fun h => g10 h.1)).symm
theorem same_spec {K : Known} {L : Frags} (n1 n2 c1 c2 : ByteArray) (a1 a2 : Option Addr) (k1 k2 : Nat) (l1 l2 : List UInt8) (m1 m2 o1 o2 : Nat) (h1 : RB K L a1 l1) (h2 : RB K L a2 l2) :
    Fn Tryz.prog K 12 #[.agg #[.string n1,.string c1,.slice a1 l1.length k1,.int .i64 ((m1 : Nat) : Int),.int .u8 ((o1 : Nat) : Int)],.agg #[.string n2,.string c2,.slice a2 l2.length k2,.int .i64 ((m2 : Nat) : Int),.int .u8 ((o2 : Nat) : Int)]] L (fun v L' => v = .bool (decide (n1 = n2 ∧ c1 = c2 ∧ l1 = l2 ∧ m1 = m2 ∧ o1 = o2)) ∧ L' = L) :=
  Fn.stillR fun w hw => same_known n1 n2 c1 c2 a1 a2 k1 k2 l1 l2 m1 m2 o1 o2 (h1.still hw) (h2.still hw)
end Go.Eng
