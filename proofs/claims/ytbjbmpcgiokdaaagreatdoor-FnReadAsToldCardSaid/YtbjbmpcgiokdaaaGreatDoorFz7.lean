/-
  Texts of this proof, merged: WRf8, WLaw6, Frame, FrameA, FrameZ, FrameG, FrameV.
-/
import Derived.Test.YtbjbmpcgiokdaaaGreatDoorFz6
import Derived.Test.YtbjbmpcgiokdaaaGreatDoorFz2
import Derived.Test.YtbjbmpcgiokdaaaGreatDoorRows
import Derived.WalkKit
import Derived.ProofKit
import Derived.LaidLaws
import Derived.ChangeSlices
import Derived.Deep.DeepHandedRow
import Derived.OpenShut
import Derived.Carry
import Derived.Test.YtbjbmpcgiokdaaaGreatDoorCards
import Derived.Test.YtbjbmpcgiokdaaaGreatDoorTie
import Derived.Deep.DeepWitnessRowRef
set_option linter.unusedVariables false
set_option linter.unusedSimpArgs false
namespace Go.Eng
open Go Go.Proofs
set_option maxRecDepth 100000
theorem start_spec3 {K : Known} (pb po cap : Nat) (b : List UInt8) (hp : KB K pb po b) (hl : b.length ≤ 4294967296) (hcap : b.length ≤ cap) : Fn Tryz.prog K 29 #[.slice (some ⟨pb,po,none⟩) (b.length) (cap)] []
    (fun r L => ∃ xa xn xc g,RdV (.slice xa xn xc) ((Ar b).1.extra.getD []) [g] ∧ L = [g] ∧ r = .tuple #[.agg #[.string (Ar b).1.name,.string (Ar b).1.comment,.slice xa xn xc,.int .i64 (((Ar b).1.mod : Nat) : Int),.int .u8 (((Ar b).1.os : Nat) : Int)],.int .i64 (((Ar b).2.1 : Nat) : Int),.int .i64 (((Ar b).2.2.1 : Nat) : Int),.int .i64 (((Ar b).2.2.2 : Nat) : Int)]) := by
  refine Fn.lose (start_spec pb po cap b hp hl hcap) ?_
  rintro r L ⟨xa,xn,xc,g,h1,h2,rfl⟩
  obtain ⟨A',B',rfl⟩ := List.append_of_mem h2
  refine ⟨[g],A' ++ B',Same.perm List.perm_middle,xa,xn,xc,g,?_,rfl,rfl⟩
  cases he : (Ar b).1.extra with
  | none =>
    rw [he] at h1
    have h' : Value.slice xa xn xc = .slice none 0 0 := h1
    rw [h']; exact (RdV.nil).mono fun f hf => by cases hf
  | some d =>
    rw [he] at h1
    rcases h1 with ⟨rfl,h'⟩ | ⟨b2,o,c',cs,h',rfl,_⟩
    · rw [h']; exact (RdV.nil).mono fun f hf => by cases hf
    · rw [h']
      exact ⟨_,_,rfl,fun K L hL => .inr ⟨b2,o,rfl,Reads.mem (k:=0) (hL _ (.head _)) (by rw [List.drop_zero]; exact List.take_left' rfl)⟩⟩
theorem update_db {K : Known} (poly sum : Nat) (ba : Option Addr) (cap : Nat) (l : List UInt8) (hpoly : poly < 4294967296) (hsum : sum < 4294967296) (hD : DB K ba l) (hl : l.length ≤ 9223372036854775806) : Fn Tryz.prog K 45 #[.int .u32 ((poly : Nat) : Int),.int .u32 ((sum : Nat) : Int),.slice ba l.length cap] ([]) (fun v L => v = u32 (crcOn poly sum l) ∧ L = []) := by
 refine Fn.intro (args:=[.int .u32 ((poly : Nat) : Int),.int .u32 ((sum : Nat) : Int),.slice ba l.length cap]) (RR:=Ret1 6 _) Tryz.func45 rfl rfl Tryz.ntmps45 (res1 Tryz.results45) ?_
 refine Bk (env2:=[(0,.int .u32 ((poly : Nat) : Int)),(1,.int .u32 ((sum : Nat) : Int)),(2,.slice ba l.length cap)]) rfl<|Cr<|Ea rfl rfl<|Ek4 0 1 2 6 rfl<|Cr<|Em rfl rfl<|Aa (S.not32 rfl (by omega)) rfl<|Ea rfl rfl<|Ek4 0 2 6 7 rfl<|Ao<|Cr<|Em rfl rfl ?_
 refine Aa (Bl rfl Tu25) rfl<|Em rfl rfl<|Ek6 0 6 7 12 13 14 rfl<|Ax<|By (fun mm ee ll => ∃ (i : Nat),∃ (c : Nat),keeps ee [0,7,12,13,14] = some [(0,.int .u32 ((poly : Nat) : Int)),(7,.int .u32 ((c : Nat) : Int)),(12,.slice ba l.length cap),(13,.int .i64 ((l.length : Nat) : Int)),(14,.int .i64 ((i : Nat) : Int))] ∧ ll = [] ∧ (i ≤ l.length) ∧ (c = (nats (l.take i)).foldl (step poly) (not32 sum)) ∧ (c < 4294967296) ∧ mm = l.length - i) (_) ⟨0,_,rfl,rfl,by omega,rfl,not32_lt hsum,rfl⟩ ?_
 rintro m0 _ _ ⟨i,c,hk0,rfl,hi,hc,hb,hm0⟩
 refine Ba _ hk0<|Cr<|Aa (Dj rfl rfl) rfl<|Ek6 0 7 12 13 14 15 rfl<|Ao<|Be rfl (fun h15 => ?_) (fun h15 => ?_)
 ·have hi2 : i < l.length := by omega
  have hv := l[i].toNat_lt
  have hc2 := (fold_take (poly:=poly) (c0:=not32 sum) hi2).trans (by rw [← hc])
  obtain ⟨pb,po,rfl,hp⟩ := hD.resolve_left (fun h => by subst h; exact absurd hi2 (by simp))
  refine Aq<|Ao<|Ax<|Cr<|Aa (Bx rfl rfl (by omega) Tu25 Tz5) rfl<|Ag (Bd rfl (hp.at hi2) Ta5) rfl<|Ea rfl rfl<|Ek7 0 7 9 12 13 14 15 rfl<|Ak<|Em rfl rfl<|Em rfl rfl<|Em rfl rfl ?_
  refine Aa (Bu rfl Tu5 Tu69 (N.in_u32 (by omega))) rfl<|Aa (S.xor rfl rfl (N.xor_u32 (by omega) (by omega))) rfl ?_
  refine An (OpX.pick [] (F:=[]) rfl (Av rfl Tryz.call64 (divide_spec poly (c ^^^ l[i].toNat) hpoly (xor32 hb (by omega))))) rfl ?_; rintro _ _ ⟨_,⟨rfl,rfl⟩,rfl⟩; refine Ab (L2:=[]) rfl ?_
  refine Ea rfl rfl<|Ek7 0 7 9 12 13 14 15 rfl<|Ak<|Aa (Bg (b:=((1 : Nat) : Int)) rfl rfl (N.add64 (by omega))) rfl<|Em rfl rfl<|Ek7 0 7 9 12 13 14 15 rfl ?_
  refine ⟨_,?_,i + 1,_,rfl,rfl,by omega,hc2.symm,step_lt hpoly hb l[i].toNat_lt,rfl⟩; omega
 have hi2 : i = l.length := by omega
 subst hi2
 rw [fold_take_all] at hc
 refine Bv rfl<|Cr<|Em rfl rfl<|Aa (S.not32 rfl (by omega)) rfl<|Ea rfl rfl<|Ek7 0 6 7 12 13 14 15 rfl<|Au ?_
 exact ⟨_,rfl,by rw [hc]; rfl,rfl⟩
theorem check_db {K : Known} (ba : Option Addr) (cap : Nat) (l : List UInt8) (hD : DB K ba l) (hl : l.length ≤ 9223372036854775806) : Fn Tryz.prog K 28 #[.slice ba l.length cap] ([]) (fun v L => v = u32 (crcOn IEEE 0 l) ∧ L = []) := by
 refine Fn.intro (args:=[.slice ba l.length cap]) (RR:=Ret1 2 _) Tryz.func28 rfl rfl Tryz.ntmps28 (res1 Tryz.results28) ?_
 refine Bk (env2:=[(0,.slice ba l.length cap)]) rfl<|Cr<|Ea rfl rfl<|Ek2 0 2 rfl<|Cr<|Em rfl rfl ?_
 refine An (OpX.pick [] (F:=[]) rfl (Av rfl Tryz.call45 (update_db IEEE 0 ba cap l (by decide) (by decide) hD hl))) rfl ?_; rintro _ _ ⟨_,⟨rfl,rfl⟩,rfl⟩; refine Ab (L2:=[]) rfl ?_
 refine Ea rfl rfl<|Ek1 2 rfl<|Au ?_
 exact ⟨_,rfl,rfl,rfl⟩
theorem Sl.cap {s m c : Nat} {a : Option Addr} {xs : List Value} {Lf : Frags} (h : Sl s (.slice a m c) m xs Lf) : m ≤ c := by
  rcases h.2 with ⟨e,h0,_⟩ | ⟨b,o,c2,cs,e,_,_,h1,_⟩
  · omega
  · injection e with _ _ e3; omega
theorem RB.db {K : Known} {L : Frags} {a : Option Addr} {l : List UInt8} (h : RB K L a l) {w : World} (hw : Agree K L w.heap) : DB (fun b => w.heap[b]?) a l := by
  rcases h with h | ⟨b,o,h1,h2⟩
  · exact .inl h
  · exact .inr ⟨b,o,h1,h2.kb hw⟩
theorem check_fr {K : Known} {L : Frags} (a : Option Addr) (c : Nat) (l : List UInt8) (h : RB K L a l) (hl : l.length ≤ 9223372036854775806) : Fn Tryz.prog K 28 #[.slice a l.length c] L (fun v L' => v = u32 (crcOn IEEE 0 l) ∧ L' = L) :=
  Fn.stillR fun w hw => Fn.mono (check_db a c l (h.db hw) hl) fun v L h => h.1
theorem RdV.same {a : Option Addr} {n c : Nat} {l : List UInt8} {G : Frags} (h : RdV (.slice a n c) l G) : n = l.length ∧ ∀ (K : Known) (L : Frags),(∀ f ∈ G,f ∈ L) → RB K L a l := by
  obtain ⟨a2,c2,e,h⟩ := h
  injection e with e1 e2 e3
  subst e1
  exact ⟨e2,h⟩
def MemV (n : Nat) (m : PM) (cs : List Value) (G : Frags) : Prop := ∃ xa xn xc oa oc,cs = [.string m.hd.name,.string m.hd.comment,.slice xa xn xc,.int .i64 ((m.hd.mod : Nat) : Int),.int .u8 ((m.hd.os : Nat) : Int),.slice oa m.data.length oc,.int .i64 ((n - m.left : Nat) : Int)] ∧ RdV (.slice xa xn xc) (m.hd.extra.getD []) G ∧ RdV (.slice oa m.data.length oc) m.data G
def MemsV (n : Nat) : List PM → List Value → Frags → Prop
  | [],cs,_ => cs = []
  | m::r,cs,G => ∃ c1 c2,cs = c1 ++ c2 ∧ MemV n m c1 G ∧ MemsV n r c2 G
theorem MemV.mono {n : Nat} {m : PM} {cs : List Value} {G G2 : Frags} (h : MemV n m cs G) (hs : ∀ f ∈ G,f ∈ G2) : MemV n m cs G2 := by
  obtain ⟨xa,xn,xc,oa,oc,h1,h2,h3⟩ := h
  exact ⟨xa,xn,xc,oa,oc,h1,h2.mono hs,h3.mono hs⟩
theorem MemsV.mono {n : Nat} : ∀ {ms : List PM} {cs : List Value} {G G2 : Frags},MemsV n ms cs G → (∀ f ∈ G,f ∈ G2) → MemsV n ms cs G2
  | [],cs,G,G2,h,_ => h
  | m::r,cs,G,G2,⟨c1,c2,h1,h2,h3⟩,hs => ⟨c1,c2,h1,h2.mono hs,h3.mono hs⟩
theorem MemsV.snoc {n : Nat} : ∀ {ms : List PM} {cs c : List Value} {G : Frags} {m : PM},MemsV n ms cs G → MemV n m c G → MemsV n (ms ++ [m]) (cs ++ c) G
  | [],cs,c,G,m,h,h2 => by
    have e : cs = [] := h
    subst e
    exact ⟨c,[],by simp,h2,rfl⟩
  | a::r,cs,c,G,m,⟨c1,c2,h1,h2,h3⟩,h4 => ⟨c1,c2 ++ c,by rw [h1,List.append_assoc],h2,MemsV.snoc h3 h4⟩
def FirstH (ms : List PM) (behind : Bool) (h2 hd : Hd) : Prop := (∃ m r,ms = m::r ∧ hd = m.hd) ∨ (ms = [] ∧ behind = true ∧ hd = h2)
def ParseR (dt : List UInt8) (r : Value) (L : Frags) : Prop :=
  ∃ what why opened behind hd h2 ms d2 l2 data xa xn xc da dc ma mc ya yn yc oa oc,r = .agg #[.int .i64 ((what : Nat) : Int),.int .i64 ((why : Nat) : Int),.bool opened,.string hd.name,.string hd.comment,.slice xa xn xc,.int .i64 ((hd.mod : Nat) : Int),.int .u8 ((hd.os : Nat) : Int),.slice da data.length dc,.slice ma ms.length mc,.bool behind,
      .string h2.name,.string h2.comment,.slice ya yn yc,.int .i64 ((h2.mod : Nat) : Int),.int .u8 ((h2.os : Nat) : Int),.slice oa d2.length oc,.int .i64 0] ∧
    RdV (.slice xa xn xc) (hd.extra.getD []) L ∧ RdV (.slice da data.length dc) data L ∧ RdV (.slice ya yn yc) (h2.extra.getD []) L ∧ RdV (.slice oa d2.length oc) d2 L ∧
    (∃ cs,MemsV dt.length ms cs L ∧ (ms = [] ∨ ∃ mb mo,ma = some ⟨mb,mo,none⟩ ∧ ∀ (K : Known) (L2 : Frags),(∀ f ∈ L,f ∈ L2) → Reads K L2 mb mo cs)) ∧
    data.length ≤ dc ∧ d2.length ≤ oc ∧ data = allD ms ++ d2 ∧ Chain dt ms l2 ∧ EndP l2 what why behind h2 d2 ∧ ((opened = false ∧ ms = [] ∧ behind = false ∧ what ≠ 0) ∨ (opened = true ∧ FirstH ms behind h2 hd)) ∧ (why = 1 → dt = []) ∧ (dt = [] → opened = false)
theorem infoM : Tryz.prog.info? 43 = some Tryz.t43 := by kernel_rfl
theorem app_mid {A B C : Frags} : (A ++ (B ++ C)).Perm (B ++ (A ++ C)) := by
  rw [← List.append_assoc,← List.append_assoc]
  exact List.perm_append_comm.append_right C
theorem app_deep {A B C D E : Frags} : (A ++ (B ++ (C ++ (D ++ E)))).Perm (C ++ (A ++ (B ++ (D ++ E)))) := (List.Perm.append_left A app_mid).trans app_mid
theorem app_back {b g f z : Frag} {A B C : Frags} : ([b,g,f,z] ++ (A ++ (B ++ C))).Perm (([f,z] ++ (A ++ (B ++ (g::C)))) ++ [b]) := by
  have h1 : ([b,g,f,z] ++ (A ++ (B ++ C))).Perm ([b] ++ ([f,z] ++ ([g] ++ (A ++ (B ++ C))))) := List.Perm.cons b (List.perm_append_comm (l₁:=[g]) (l₂:=[f,z]) |>.append_right _)
  have h2 : ([g] ++ (A ++ (B ++ C))).Perm (A ++ (B ++ ([g] ++ C))) := app_mid.trans (List.Perm.append_left A app_mid)
  refine h1.trans ?_
  refine (List.Perm.append_left [b] (List.Perm.append_left [f,z] h2)).trans ?_
  exact List.perm_append_comm
theorem Gv {v : Value} {k : Nat} {cs : List Value} {Lf : Frags} (h : Sl 7 v k cs Lf) : ∃ a c,v = .slice a k c ∧ (k = 0 ∨ ∃ b o,a = some ⟨b,o,none⟩ ∧ ∀ (K : Known) (L : Frags),(∀ f ∈ Lf,f ∈ L) → Reads K L b o cs) := by
  rcases h.2 with ⟨rfl,h2,rfl⟩ | ⟨b,o,c,ds,rfl,rfl,h3,h4,h5,h6⟩
  · exact ⟨_,_,by rw [h2],.inl h2⟩
  · exact ⟨_,_,rfl,.inr ⟨b,o,rfl,fun K L hL => Reads.mem (k:=0) (hL _ (.head _)) (by rw [List.drop_zero,h.1]; exact h6)⟩⟩
theorem app_lm {y a b c d : Frag} {Ld Lo Lm G : Frags} : ([y,a,b,c,d] ++ (Ld ++ (Lo ++ (Lm ++ G)))).Perm (Lm ++ ([y,a,b,c,d] ++ (Ld ++ (Lo ++ G)))) := by
  have h1 : (Lo ++ (Lm ++ G)).Perm (Lm ++ (Lo ++ G)) := app_mid
  have h2 : (Ld ++ (Lo ++ (Lm ++ G))).Perm (Lm ++ (Ld ++ (Lo ++ G))) := (List.Perm.append_left Ld h1).trans app_mid
  exact (List.Perm.append_left [y,a,b,c,d] h2).trans app_mid
theorem app_lm2 {y a b c d : Frag} {Ld Lo Lm G : Frags} : (Lm ++ ([y,a,b,c,d] ++ (Ld ++ (Lo ++ G)))).Perm (([a,b,c,d] ++ (Ld ++ (Lm ++ (Lo ++ G)))) ++ [y]) := by
  have h1 : (Lm ++ ([y] ++ ([a,b,c,d] ++ (Ld ++ (Lo ++ G))))).Perm ([y] ++ (Lm ++ ([a,b,c,d] ++ (Ld ++ (Lo ++ G))))) := app_mid
  refine h1.trans (List.perm_append_comm.trans ?_)
  refine List.Perm.append_right [y] ?_
  exact app_mid.trans (List.Perm.append_left _ app_mid)
theorem arr7 (f : Nat → Value) (u0 u1 u2 u3 u4 u5 u6 : Value) : (((((((((Array.range 7).map f).setIfInBounds 0 u0).setIfInBounds 1 u1).setIfInBounds 2 u2).setIfInBounds 3 u3).setIfInBounds 4 u4).setIfInBounds 5 u5).setIfInBounds 6 u6) = #[u0,u1,u2,u3,u4,u5,u6] := by
  rw [show Array.range 7 = #[0,1,2,3,4,5,6] by decide]; simp
theorem memRun (s1 s2 : ByteArray) (xa oa : Option Addr) (xn xc on oc : Nat) (m o e : Int) (w : World) : (Instr.buildSlice 41 1 [(0,.agg #[.string s1,.string s2,.slice xa xn xc,.int .i64 m,.int .u8 o,.slice oa on oc,.int .i64 e])].toArray).run Tryz.prog w =
   .ok (.slice (some ⟨w.heap.size,0,none⟩) 1 1) (w.alloc (.cells [Value.string s1,.string s2,.slice xa xn xc,.int .i64 m,.int .u8 o,.slice oa on oc,.int .i64 e].toArray 43)) := by
  simp [Instr.buildSlice,Instr.fill,Value.cells,newRow,Tryz.runUnderlying41,Tryz.typeInfo43]
  rw [arr7]
set_option maxHeartbeats 2000000
theorem parse_spec {K : Known} (ba : Option Addr) (bc : Nat) (dt : List UInt8) (hD : DB K ba dt) (hl : dt.length ≤ 65536) (hcap : dt.length ≤ bc) (hS : SpT K) : Fn Tryz.prog K 14 #[.slice ba dt.length bc] ([]) (ParseR dt) := by
 refine Fn.intro (args:=[.slice ba dt.length bc]) (RR:=RetC 2 18  _) Tryz.func14 rfl rfl Tryz.ntmps14 (resC Tryz.results14 Ta45 Tz45) ?_
 refine Bk (env2:=[(0,.slice ba dt.length bc)]) rfl<|Cr ?_
 refine An (Ed Tryz.zeroValue45) rfl ?_; rintro _ _ ⟨b2,rfl,rfl⟩; refine Ab (L2:=[_]) rfl ?_
 refine Ab (L2:=[⟨b2,0,[.int .i64 0,.int .i64 0,.bool false,.string ⟨#[]⟩,.string ⟨#[]⟩,.slice none 0 0,.int .i64 0,.int .u8 0,.slice none 0 0,.slice none 0 0,.bool false,.string ⟨#[]⟩,.string ⟨#[]⟩,.slice none 0 0,.int .i64 0,.int .u8 0,.slice none 0 0,.int .i64 0]⟩]) (by kernel_rfl)<|Ek2 0 2 rfl<|Cr<|Aa (Ev (v:=.agg #[.int .i64 0,.int .i64 0,.bool false,.string ⟨#[]⟩,.string ⟨#[]⟩,.slice none 0 0,.int .i64 0,.int .u8 0,.slice none 0 0,.slice none 0 0,.bool false,.string ⟨#[]⟩,.string ⟨#[]⟩,.slice none 0 0,.int .i64 0,.int .u8 0,.slice none 0 0,.int .i64 0]) [] rfl (fun w => by simp [Instr.build,Instr.fill,Value.cells,Tryz.zeroValue45])) rfl ?_
 refine An (Ed Tryz.zeroValue45) rfl ?_; rintro _ _ ⟨b3,rfl,rfl⟩; refine Ab (L2:=[_,_]) rfl ?_
 refine Ab (L2:=[⟨b3,0,[.int .i64 0,.int .i64 0,.bool false,.string ⟨#[]⟩,.string ⟨#[]⟩,.slice none 0 0,.int .i64 0,.int .u8 0,.slice none 0 0,.slice none 0 0,.bool false,.string ⟨#[]⟩,.string ⟨#[]⟩,.slice none 0 0,.int .i64 0,.int .u8 0,.slice none 0 0,.int .i64 0]⟩,⟨b2,0,[.int .i64 0,.int .i64 0,.bool false,.string ⟨#[]⟩,.string ⟨#[]⟩,.slice none 0 0,.int .i64 0,.int .u8 0,.slice none 0 0,.slice none 0 0,.bool false,.string ⟨#[]⟩,.string ⟨#[]⟩,.slice none 0 0,.int .i64 0,.int .u8 0,.slice none 0 0,.int .i64 0]⟩]) (by kernel_rfl) ?_
 refine Al (Bi 0 (k:=0) rfl rfl rfl rfl rfl rfl Tz45 rfl) ?_; rintro _ _ ⟨rfl,rfl⟩; refine Ab (L2:=[_,_]) rfl ?_
 refine Ab (L2:=[⟨b3,0,[.int .i64 0,.int .i64 0,.bool false,.string ⟨#[]⟩,.string ⟨#[]⟩,.slice none 0 0,.int .i64 0,.int .u8 0,.slice none 0 0,.slice none 0 0,.bool false,.string ⟨#[]⟩,.string ⟨#[]⟩,.slice none 0 0,.int .i64 0,.int .u8 0,.slice none 0 0,.int .i64 0]⟩,⟨b2,0,[.int .i64 0,.int .i64 0,.bool false,.string ⟨#[]⟩,.string ⟨#[]⟩,.slice none 0 0,.int .i64 0,.int .u8 0,.slice none 0 0,.slice none 0 0,.bool false,.string ⟨#[]⟩,.string ⟨#[]⟩,.slice none 0 0,.int .i64 0,.int .u8 0,.slice none 0 0,.int .i64 0]⟩]) rfl<|Ek3 0 2 3 rfl<|Cr<|Ea rfl rfl<|Ek4 0 2 3 4 rfl<|Ax<|By (fun mm ee ll => ∃ (at_ : Nat),∃ (opened : Bool),∃ (hd : Hd),∃ (xa : Option Addr),∃ (xn : Nat),∃ (xc : Nat),∃ (da : Option Addr),∃ (dc : Nat),∃ (ma : Option Addr),∃ (mc : Nat),∃ (ms : List PM),∃ (mcs : List Value),∃ (data : List UInt8),∃ (Ld : Frags),∃ (Lm : Frags),∃ (G : Frags),keeps ee [0,2,3,4] = some [(0,.slice ba dt.length bc),(2,.pointer (some ⟨b2,0,none⟩)),(3,.pointer (some ⟨b3,0,none⟩)),(4,.int .i64 ((at_ : Nat) : Int))] ∧ ll = [⟨b3,0,[.int .i64 0,.int .i64 0,.bool opened,.string hd.name,.string hd.comment,.slice xa xn xc,.int .i64 ((hd.mod : Nat) : Int),.int .u8 ((hd.os : Nat) : Int),.slice da data.length dc,.slice ma ms.length mc,.bool false,.string ⟨#[]⟩,.string ⟨#[]⟩,.slice none 0 0,.int .i64 0,.int .u8 0,.slice none 0 0,.int .i64 0]⟩,⟨b2,0,[.int .i64 0,.int .i64 0,.bool false,.string ⟨#[]⟩,.string ⟨#[]⟩,.slice none 0 0,.int .i64 0,.int .u8 0,.slice none 0 0,.slice none 0 0,.bool false,.string ⟨#[]⟩,.string ⟨#[]⟩,.slice none 0 0,.int .i64 0,.int .u8 0,.slice none 0 0,.int .i64 0]⟩] ++ (Ld ++ (Lm ++ G)) ∧ (Chain dt ms (dt.drop at_)) ∧ (at_ ≤ dt.length) ∧ ((at_ = 0 ∧ opened = false ∧ ms = []) ∨ (0 < at_ ∧ opened = true ∧ ∃ m r,ms = m::r ∧ hd = m.hd)) ∧ (RdV (.slice xa xn xc) (hd.extra.getD []) G) ∧ (Sl 1 (.slice da data.length dc) data.length (bytesV data) Ld) ∧ (data = allD ms) ∧ (data.length ≤ 157286400 * at_) ∧ (Sl 7 (.slice ma ms.length mc) ms.length mcs Lm) ∧ (MemsV dt.length ms mcs G) ∧ (ms.length ≤ at_) ∧ mm = dt.length - at_) (_) ⟨0,false,noHd,none,0,0,none,0,none,0,[],[],[],[],[],[],rfl,rfl,rfl,by omega,.inl ⟨rfl,rfl,rfl⟩,RdV.nil,Sl.nil 1,rfl,by simp,Sl.nil 7,rfl,by simp,rfl⟩ ?_
 rintro m0 _ _ ⟨at_,opened,hd,xa,xn,xc,da,dc,ma,mc,ms,mcs,data,Ld,Lm,G,hk0,rfl,hch,hat,hop,hex,hsd,hda,hdl,hsm,hmv,hml,hm0⟩
 refine Ba _ hk0<|Ax<|Ao<|Cr<|Em rfl rfl<|Aa (Bl rfl Tu25) rfl<|Aa (Du (b:=((0 : Nat) : Int)) rfl rfl) rfl<|Ek5 0 2 3 4 13 rfl<|Be rfl (fun h13 => ?_) (fun h13 => ?_)
 ·refine Cr<|Aa (Ad rfl fa45_0) rfl ?_
  refine Al (Ap 0 (k:=0) rfl rfl rfl rfl rfl Tz3) ?_; rintro _ _ ⟨rfl,rfl⟩; refine Ab (L2:=(_::_::_)) rfl ?_
  refine Aa (Ad rfl fa45_1) rfl ?_
  refine Al (Ap 0 (k:=1) rfl rfl rfl rfl rfl Tz3) ?_; rintro _ _ ⟨rfl,rfl⟩; refine Ab (L2:=(_::_::_)) rfl ?_
  refine Ek5 0 2 3 4 13 rfl<|Cr<|Ag (Bn 0 (k:=0) rfl rfl rfl rfl Ta45 Tz45) rfl ?_
  refine Al (Bi 1 (k:=0) rfl rfl rfl rfl rfl rfl Tz45 rfl) ?_; rintro _ _ ⟨rfl,rfl⟩; refine Ab (L2:=(_::_::_)) rfl ?_
  refine Ek5 0 2 3 4 13 rfl<|Au ?_
  have h00 : dt = [] := List.eq_nil_of_length_eq_zero (by omega)
  have hl0 : (dt.drop at_) = [] := by rw [h00]; exact List.drop_nil
  have hop1 := hop.resolve_right (fun h => by omega)
  obtain ⟨ma2,mc2,hme,hmr⟩ := Gv hsm
  obtain ⟨rfl,rfl⟩ : ma2 = ma ∧ mc2 = mc := by injection hme with h1 h2 h3; exact ⟨h1.symm,h3.symm⟩
  refine ⟨_,⟨_,_,1,rfl,rfl,rfl⟩,1,1,opened,false,hd,noHd,ms,[],(dt.drop at_),data,_,_,_,_,_,_,_,_,_,_,_,_,rfl,hex.mono ?_,(sl_rd hsd).mono ?_,(RdV.nil).mono (fun f hf => by cases hf),(RdV.nil).mono (fun f hf => by cases hf),⟨mcs,hmv.mono ?_,hmr.imp (fun h => List.eq_nil_of_length_eq_zero h) (fun ⟨mb,mo,e,hr⟩ => ⟨mb,mo,e,fun K L2 hL => hr K L2 fun f hf => hL f (by simp [hf])⟩)⟩,hsd.cap,Nat.zero_le _,?_,hch,?_,?_,?_,?_⟩
  · intro f hf; first | (simp [hf]; done) | (rcases List.mem_cons.1 hf with h | h; (subst h; simp); (first | (simp [h]; done) | (cases h)))
  · intro f hf; first | (simp [hf]; done) | (rcases List.mem_cons.1 hf with h | h; (subst h; simp); (first | (simp [h]; done) | (cases h)))
  · intro f hf; first | (simp [hf]; done) | (rcases List.mem_cons.1 hf with h | h; (subst h; simp); (first | (simp [h]; done) | (cases h)))
  · rw [hda,List.append_nil]
  · exact .inl ⟨rfl,rfl,hl0,.inr ⟨rfl,rfl⟩⟩
  · exact .inl ⟨hop1.2.1,hop1.2.2,rfl,by decide⟩
  · exact fun _ => h00
  · intro _; exact hop1.2.1
 have hlt : 0 < dt.length := by omega
 obtain ⟨pb,po,rfl,hKB⟩ := hD.resolve_left (fun h => by rw [h] at hlt; simp at hlt)
 refine Aq<|Ao<|Cr<|Em rfl rfl<|Em rfl rfl<|Aa (Bl rfl Tu25) rfl<|Aa (Du rfl rfl) rfl<|Ek6 0 2 3 4 13 20 rfl<|Be rfl (fun h20 => ?_) (fun h20 => ?_)
 ·refine Cr<|Ag (Bn 0 (k:=0) rfl rfl rfl rfl Ta45 Tz45) rfl ?_
  refine Al (Bi 1 (k:=0) rfl rfl rfl rfl rfl rfl Tz45 rfl) ?_; rintro _ _ ⟨rfl,rfl⟩; refine Ab (L2:=(_::_::_)) rfl ?_
  refine Ek6 0 2 3 4 13 20 rfl<|Au ?_
  have hl0 : (dt.drop at_) = [] := List.drop_eq_nil_of_le (by omega)
  have hop1 := hop.resolve_left (fun h => by omega)
  obtain ⟨ma2,mc2,hme,hmr⟩ := Gv hsm
  obtain ⟨rfl,rfl⟩ : ma2 = ma ∧ mc2 = mc := by injection hme with h1 h2 h3; exact ⟨h1.symm,h3.symm⟩
  refine ⟨_,⟨_,_,1,rfl,rfl,rfl⟩,0,0,opened,false,hd,noHd,ms,[],(dt.drop at_),data,_,_,_,_,_,_,_,_,_,_,_,_,rfl,hex.mono ?_,(sl_rd hsd).mono ?_,(RdV.nil).mono (fun f hf => by cases hf),(RdV.nil).mono (fun f hf => by cases hf),⟨mcs,hmv.mono ?_,hmr.imp (fun h => List.eq_nil_of_length_eq_zero h) (fun ⟨mb,mo,e,hr⟩ => ⟨mb,mo,e,fun K L2 hL => hr K L2 fun f hf => hL f (by simp [hf])⟩)⟩,hsd.cap,Nat.zero_le _,?_,hch,?_,?_,?_,?_⟩
  · intro f hf; first | (simp [hf]; done) | (rcases List.mem_cons.1 hf with h | h; (subst h; simp); (first | (simp [h]; done) | (cases h)))
  · intro f hf; first | (simp [hf]; done) | (rcases List.mem_cons.1 hf with h | h; (subst h; simp); (first | (simp [h]; done) | (cases h)))
  · intro f hf; first | (simp [hf]; done) | (rcases List.mem_cons.1 hf with h | h; (subst h; simp); (first | (simp [h]; done) | (cases h)))
  · rw [hda,List.append_nil]
  · exact .inl ⟨rfl,rfl,hl0,.inl ⟨rfl,rfl⟩⟩
  · exact .inr ⟨hop1.2.1,.inl hop1.2.2⟩
  · intro h; omega
  · intro h0; first | rfl | (exfalso; rw [h0] at hlt; simp at hlt) | (rw [h0] at hat; simp at hat; rcases hop with h | h; exact h.2.1; omega)
 have hlne : (dt.drop at_) ≠ [] := fun h => by have := congrArg List.length h; rw [List.length_drop] at this; simp at this; omega
 refine Aq<|Cr<|Em rfl rfl<|Em rfl rfl<|Aa (S.slL rfl rfl (by omega) Tu25 Tz5) rfl<|Aj (v:=.slice (some ⟨pb,part po (at_) bc 1,none⟩) ((dt.drop at_).length) (bc - (at_))) (Bo rfl (by rw [List.length_drop]) rfl) ?_
 refine An (OpX.pick [] (F:=(_::_::_)) rfl (Av rfl Tryz.call29 (start_spec3 pb (part po at_ bc 1) (bc - at_) (dt.drop at_) (kb_drop hKB hcap at_) (by rw [List.length_drop]; omega) (by rw [List.length_drop]; omega)))) rfl ?_; rintro _ _ ⟨_,⟨ya,yn,yc,g,hyx,rfl,rfl⟩,rfl⟩; refine Ab (L2:=(_::_::_::_)) rfl ?_
 refine Em rfl rfl<|Aa (Az rfl rfl) rfl<|Aa (Az rfl rfl) rfl<|Aa (Az rfl rfl) rfl<|Aa (Az rfl rfl) rfl ?_
 refine An (Ed Tryz.zeroValue32) rfl ?_; rintro _ _ ⟨b5,rfl,rfl⟩; refine Ab (L2:=(_::_::_::_::_)) rfl ?_
 refine Ab (L2:=⟨b5,0,[.string ⟨#[]⟩,.string ⟨#[]⟩,.slice none 0 0,.int .i64 0,.int .u8 0]⟩::g::⟨b3,0,[.int .i64 0,.int .i64 0,.bool opened,.string hd.name,.string hd.comment,.slice xa xn xc,.int .i64 ((hd.mod : Nat) : Int),.int .u8 ((hd.os : Nat) : Int),.slice da data.length dc,.slice ma ms.length mc,.bool false,.string ⟨#[]⟩,.string ⟨#[]⟩,.slice none 0 0,.int .i64 0,.int .u8 0,.slice none 0 0,.int .i64 0]⟩::⟨b2,0,[.int .i64 0,.int .i64 0,.bool false,.string ⟨#[]⟩,.string ⟨#[]⟩,.slice none 0 0,.int .i64 0,.int .u8 0,.slice none 0 0,.slice none 0 0,.bool false,.string ⟨#[]⟩,.string ⟨#[]⟩,.slice none 0 0,.int .i64 0,.int .u8 0,.slice none 0 0,.int .i64 0]⟩::(Ld ++ (Lm ++ G))) (by kernel_rfl) ?_
 refine Al (Bi 0 (k:=0) rfl rfl rfl rfl rfl rfl Tz32 rfl) ?_; rintro _ _ ⟨rfl,rfl⟩; refine Ab (L2:=(_::_::_::_::_)) rfl ?_
 refine Ea rfl rfl<|Ea rfl rfl<|Ea rfl rfl<|Ek10 0 2 3 4 5 6 7 8 13 20 rfl<|Ao<|Cr<|Em rfl rfl<|Aa (Ga (b:=((0 : Nat) : Int)) rfl rfl) rfl<|Ek11 0 2 3 4 5 6 7 8 13 20 32 rfl<|Be rfl (fun h32 => ?_) (fun h32 => ?_)
 ·refine Cr<|Em rfl rfl<|Em rfl rfl<|Aa (Ad rfl fa45_0) rfl ?_
  refine Al (Ap 2 (k:=0) rfl rfl rfl rfl rfl Tz3) ?_; rintro _ _ ⟨rfl,rfl⟩; refine Ab (L2:=(_::_::_::_::_)) rfl ?_
  refine Aa (Ad rfl fa45_1) rfl ?_
  refine Al (Ap 2 (k:=1) rfl rfl rfl rfl rfl Tz3) ?_; rintro _ _ ⟨rfl,rfl⟩; refine Ab (L2:=(_::_::_::_::_)) rfl ?_
  refine Ek11 0 2 3 4 5 6 7 8 13 20 32 rfl<|Cr<|Ag (Bn 2 (k:=0) rfl rfl rfl rfl Ta45 Tz45) rfl ?_
  refine Al (Bi 3 (k:=0) rfl rfl rfl rfl rfl rfl Tz45 rfl) ?_; rintro _ _ ⟨rfl,rfl⟩; refine Ab (L2:=(_::_::_::_::_)) rfl ?_
  refine Ek11 0 2 3 4 5 6 7 8 13 20 32 rfl<|Au ?_
  obtain ⟨ma2,mc2,hme,hmr⟩ := Gv hsm
  obtain ⟨rfl,rfl⟩ : ma2 = ma ∧ mc2 = mc := by injection hme with h1 h2 h3; exact ⟨h1.symm,h3.symm⟩
  refine ⟨_,⟨_,_,3,rfl,rfl,rfl⟩,(Ar (dt.drop at_)).2.2.1,(Ar (dt.drop at_)).2.2.2,opened,false,hd,noHd,ms,[],(dt.drop at_),data,_,_,_,_,_,_,_,_,_,_,_,_,rfl,hex.mono ?_,(sl_rd hsd).mono ?_,(RdV.nil).mono (fun f hf => by cases hf),(RdV.nil).mono (fun f hf => by cases hf),⟨mcs,hmv.mono ?_,hmr.imp (fun h => List.eq_nil_of_length_eq_zero h) (fun ⟨mb,mo,e,hr⟩ => ⟨mb,mo,e,fun K L2 hL => hr K L2 fun f hf => hL f (by simp [hf])⟩)⟩,hsd.cap,Nat.zero_le _,?_,hch,?_,?_,?_,?_⟩
  · intro f hf; first | (simp [hf]; done) | (rcases List.mem_cons.1 hf with h | h; (subst h; simp); (first | (simp [h]; done) | (cases h)))
  · intro f hf; first | (simp [hf]; done) | (rcases List.mem_cons.1 hf with h | h; (subst h; simp); (first | (simp [h]; done) | (cases h)))
  · intro f hf; first | (simp [hf]; done) | (rcases List.mem_cons.1 hf with h | h; (subst h; simp); (first | (simp [h]; done) | (cases h)))
  · rw [hda,List.append_nil]
  · exact end_head hlne (by omega) _
  · exact hop.imp (fun h => ⟨h.2.1,h.2.2,rfl,by omega⟩) (fun h => ⟨h.2.1,.inl h.2.2⟩)
  · intro h; have := sp_why (dt.drop at_); omega
  · intro h0; first | rfl | (exfalso; rw [h0] at hlt; simp at hlt) | (rw [h0] at hat; simp at hat; rcases hop with h | h; exact h.2.1; omega)
 have hhd := sp_good (l:=(dt.drop at_)) (by omega)
 have hn1 := hhd.2.2.1
 rw [List.length_drop] at hn1
 refine Aq<|Ef (M:=fun ee ll => ∃ (hd2 : Hd),∃ (x3 : Option Addr),∃ (xn3 : Nat),∃ (xc3 : Nat),keeps ee [0,2,3,4,5,6] = some [(0,.slice (some ⟨pb,po,none⟩) dt.length bc),(2,.pointer (some ⟨b2,0,none⟩)),(3,.pointer (some ⟨b3,0,none⟩)),(4,.int .i64 ((at_ : Nat) : Int)),(5,.pointer (some ⟨b5,0,none⟩)),(6,.int .i64 (((Ar (dt.drop at_)).2.1 : Nat) : Int))] ∧ ll = [⟨b5,0,[.string (Ar (dt.drop at_)).1.name,.string (Ar (dt.drop at_)).1.comment,.slice ya yn yc,.int .i64 (((Ar (dt.drop at_)).1.mod : Nat) : Int),.int .u8 (((Ar (dt.drop at_)).1.os : Nat) : Int)]⟩,g,⟨b3,0,[.int .i64 0,.int .i64 0,.bool true,.string hd2.name,.string hd2.comment,.slice x3 xn3 xc3,.int .i64 ((hd2.mod : Nat) : Int),.int .u8 ((hd2.os : Nat) : Int),.slice da data.length dc,.slice ma ms.length mc,.bool false,.string ⟨#[]⟩,.string ⟨#[]⟩,.slice none 0 0,.int .i64 0,.int .u8 0,.slice none 0 0,.int .i64 0]⟩,⟨b2,0,[.int .i64 0,.int .i64 0,.bool false,.string ⟨#[]⟩,.string ⟨#[]⟩,.slice none 0 0,.int .i64 0,.int .u8 0,.slice none 0 0,.slice none 0 0,.bool false,.string ⟨#[]⟩,.string ⟨#[]⟩,.slice none 0 0,.int .i64 0,.int .u8 0,.slice none 0 0,.int .i64 0]⟩] ++ (Ld ++ (Lm ++ G)) ∧ (RdV (.slice x3 xn3 xc3) (hd2.extra.getD []) (g::G)) ∧ (FirstH ms true (Ar (dt.drop at_)).1 hd2)) ?_ ?_
 ·refine Cr<|Em rfl rfl<|Aa (Du (b:=((0 : Nat) : Int)) rfl rfl) rfl<|Ek12 0 2 3 4 5 6 7 8 13 20 32 39 rfl<|Be rfl (fun h39 => ?_) (fun h39 => ?_)
  ·refine Br [0,0,2,7,15] (.pure 1 1 (.alt 0 (.alt 2 (.pure 3 7 (.alt 4 .done .stop)) .stop) (.alt 2 (.seg [(0,6),(3,7)] (.alt 4 .done .stop)) .stop))) mixed (by decide +kernel)<|Ah rfl (Ad rfl fa45_2) rfl<|Hm ?_ ⟨?_,trivial⟩
   ·refine Fb rfl (Bn 0 (k:=0) rfl rfl rfl rfl Ta32 Tz32) rfl<|Da ?_
    refine Bz rfl (Ap 2 (k:=2) rfl rfl rfl rfl rfl Tz4) ?_; rintro _ _ ⟨rfl,rfl⟩; refine Bf (L2:=(_::_::_::_::_)) rfl ?_
    refine Ah rfl (Ad rfl fa45_3) rfl<|Da ?_
    refine Bz rfl (Bi 2 (k:=3) rfl rfl rfl rfl rfl rfl Tz32 rfl) ?_; rintro _ _ ⟨rfl,rfl⟩; refine Bf (L2:=(_::_::_::_::_)) rfl ?_
    refine Dk12 0 2 3 4 5 6 7 8 13 20 32 39 rfl ?_
    exact ⟨(Ar (dt.drop at_)).1,ya,yn,yc,rfl,rfl,hyx.mono (fun f hf => by simp at hf; simp [hf]),.inr ⟨(hop.resolve_right (fun h => by omega)).2.2,rfl,rfl⟩⟩
   refine Bz rfl (Ap 2 (k:=2) rfl rfl rfl rfl rfl Tz4) ?_; rintro _ _ ⟨rfl,rfl⟩; refine Bf (L2:=(_::_::_::_::_)) rfl ?_
   refine Dd (by decide)<|Bb rfl (Bn 0 (k:=0) rfl rfl rfl rfl Ta32 Tz32) rfl<|Bh rfl (Ad rfl fa45_3) rfl<|Dc<|Da ?_
   refine Bz rfl (Bi 2 (k:=3) rfl rfl rfl rfl rfl rfl Tz32 rfl) ?_; rintro _ _ ⟨rfl,rfl⟩; refine Bf (L2:=(_::_::_::_::_)) rfl ?_
   refine Dk12 0 2 3 4 5 6 7 8 13 20 32 39 rfl ?_
   exact ⟨(Ar (dt.drop at_)).1,ya,yn,yc,rfl,rfl,hyx.mono (fun f hf => by simp at hf; simp [hf]),.inr ⟨(hop.resolve_right (fun h => by omega)).2.2,rfl,rfl⟩⟩
  refine Aq ?_
  exact ⟨hd,xa,xn,xc,rfl,(by rw [(hop.resolve_left (fun h => by omega)).2.1]; rfl),hex.mono (fun f hf => .tail _ hf),.inl (hop.resolve_left (fun h => by omega)).2.2⟩
 rintro _ _ ⟨hd2,x3,xn3,xc3,hq14,rfl,hx3,hfirst⟩
 refine Ba _ hq14<|Cr<|Em rfl rfl<|Em rfl rfl<|Aa (Bg rfl rfl (N.add64 (by omega))) rfl<|Ea rfl rfl<|Ek6 0 2 3 4 5 6 rfl<|Cr<|Em rfl rfl<|Em rfl rfl<|Aa (S.slL rfl rfl (by omega) Tu25 Tz5) rfl ?_
 refine Aj (v:=.slice (some ⟨pb,part po (at_ + (Ar (dt.drop at_)).2.1) bc 1,none⟩) (((dt.drop at_).drop (Ar (dt.drop at_)).2.1).length) (bc - (at_ + (Ar (dt.drop at_)).2.1))) (Bo rfl (by rw [List.length_drop,List.length_drop]; omega) rfl) ?_
 refine An (OpX.pick [] (F:=[_,_,_,_] ++ (Ld ++ (Lm ++ G))) rfl (Av rfl Tryz.call30 (inflate_spec (some ⟨pb,part po (at_ + (Ar (dt.drop at_)).2.1) bc 1,none⟩) (bc - (at_ + (Ar (dt.drop at_)).2.1)) ((dt.drop at_).drop (Ar (dt.drop at_)).2.1) (.inr ⟨_,_,rfl,by rw [List.drop_drop]; exact kb_drop hKB hcap (at_ + (Ar (dt.drop at_)).2.1)⟩) (by rw [List.length_drop,List.length_drop]; omega) (by rw [List.length_drop,List.length_drop]; omega) hS))) rfl ?_
 rintro _ _ ⟨Lo,⟨oa,oc,out,nn,what,rfl,hso,hlo,hnn,hI⟩,rfl⟩
 obtain ⟨_,hor⟩ := (sl_rd hso).same
 rw [List.length_drop,List.length_drop] at hlo hnn
 refine Fc (Same.perm app_mid)<|Ab (L2:=_::_::_::_::(Lo ++ (Ld ++ (Lm ++ G)))) rfl<|Em rfl rfl<|Aa (Az rfl rfl) rfl<|Aa (Az rfl rfl) rfl<|Aa (Az rfl rfl) rfl<|Ea rfl rfl<|Ea rfl rfl<|Ea rfl rfl<|Ek8 0 2 3 4 5 6 7 9 rfl<|Cr<|Aa (Ad rfl fa45_4) rfl ?_
 refine Ag (Am 2 (k:=8) rfl rfl rfl Ta25) rfl<|Em rfl rfl<|Ab (L2:=[_,_,_,_] ++ (Lo ++ (Ld ++ (Lm ++ G)))) rfl<|Fc (Same.perm app_deep)<|An (Gt (L:=[_,_,_,_] ++ (Lo ++ (Lm ++ G))) (xs:=data) (ys:=out) (Lf:=Ld) rfl rfl hsd rfl (hor K _ (fun f hf => by simp [hf])) (by omega)) rfl ?_
 rintro v2 _ ⟨Ld2,hsd2,rfl⟩
 refine Fc (L2:=[_,_,_,_] ++ (Ld2 ++ (Lo ++ (Lm ++ G)))) (Same.perm app_mid)<|Ab (L2:=_::_::_::_::(Ld2 ++ (Lo ++ (Lm ++ G)))) rfl ?_
 obtain ⟨da2,dc2,rfl⟩ := hsd2.form
 refine Aa (Ad rfl fa45_4) rfl ?_
 refine Al (Ap 2 (k:=8) rfl rfl rfl rfl rfl Tz25) ?_; rintro _ _ ⟨rfl,rfl⟩; refine Ab (L2:=(_::_::_::_::_)) rfl ?_
 refine Ek8 0 2 3 4 5 6 7 9 rfl<|Ef (M:=fun ee ll => keeps ee [0,2,3,4,5,6,7,9] = some [(0,.slice (some ⟨pb,po,none⟩) dt.length bc),(2,.pointer (some ⟨b2,0,none⟩)),(3,.pointer (some ⟨b3,0,none⟩)),(4,.int .i64 ((at_ + (Ar (dt.drop at_)).2.1 : Nat) : Int)),(5,.pointer (some ⟨b5,0,none⟩)),(6,.int .i64 ((nn : Nat) : Int)),(7,.int .i64 ((what : Nat) : Int)),(9,.slice oa out.length oc)] ∧ ll = [⟨b5,0,[.string (Ar (dt.drop at_)).1.name,.string (Ar (dt.drop at_)).1.comment,.slice ya yn yc,.int .i64 (((Ar (dt.drop at_)).1.mod : Nat) : Int),.int .u8 (((Ar (dt.drop at_)).1.os : Nat) : Int)]⟩,g,⟨b3,0,[.int .i64 0,.int .i64 0,.bool true,.string hd2.name,.string hd2.comment,.slice x3 xn3 xc3,.int .i64 ((hd2.mod : Nat) : Int),.int .u8 ((hd2.os : Nat) : Int),.slice da2 (data ++ out).length dc2,.slice ma ms.length mc,.bool true,.string (Ar (dt.drop at_)).1.name,.string (Ar (dt.drop at_)).1.comment,.slice ya yn yc,.int .i64 (((Ar (dt.drop at_)).1.mod : Nat) : Int),.int .u8 (((Ar (dt.drop at_)).1.os : Nat) : Int),.slice oa out.length oc,.int .i64 0]⟩,⟨b2,0,[.int .i64 0,.int .i64 0,.bool false,.string ⟨#[]⟩,.string ⟨#[]⟩,.slice none 0 0,.int .i64 0,.int .u8 0,.slice none 0 0,.slice none 0 0,.bool false,.string ⟨#[]⟩,.string ⟨#[]⟩,.slice none 0 0,.int .i64 0,.int .u8 0,.slice none 0 0,.int .i64 0]⟩] ++ (Ld2 ++ (Lo ++ (Lm ++ G)))) ?_ ?_
 ·refine Br [0,0,3,0,8,31,63] (.pure 1 25 (.pure 3 7 (.alt 0 (.pure 2 27 (.alt 4 (.pure 5 31 (.alt 6 .done .stop)) .stop)) (.alt 4 (.seg [(0,26),(2,27),(5,31)] (.alt 6 .done .stop)) .stop)))) mixed (by decide +kernel)<|Dm rfl rfl rfl<|Ah rfl (Ad rfl fa45_6) rfl<|Hm ?_ ⟨?_,trivial⟩
  ·refine Fb rfl (Bn 0 (k:=0) rfl rfl rfl rfl Ta32 Tz32) rfl<|Ah rfl (Ev (v:=.agg #[.string (Ar (dt.drop at_)).1.name,.string (Ar (dt.drop at_)).1.comment,.slice ya yn yc,.int .i64 (((Ar (dt.drop at_)).1.mod : Nat) : Int),.int .u8 (((Ar (dt.drop at_)).1.os : Nat) : Int),.slice oa out.length oc,.int .i64 0]) [(0,.agg #[.string (Ar (dt.drop at_)).1.name,.string (Ar (dt.drop at_)).1.comment,.slice ya yn yc,.int .i64 (((Ar (dt.drop at_)).1.mod : Nat) : Int),.int .u8 (((Ar (dt.drop at_)).1.os : Nat) : Int)]),(1,.slice oa out.length oc),(2,.int .i64 0)] rfl (fun w => by simp [Instr.build,Instr.fill,Value.cells,Tryz.zeroValue43])) rfl<|Da ?_
   refine Bz rfl (Ap 2 (k:=10) rfl rfl rfl rfl rfl Tz4) ?_; rintro _ _ ⟨rfl,rfl⟩; refine Bf (L2:=(_::_::_::_::_)) rfl ?_
   refine Ah rfl (Ad rfl fa45_7) rfl<|Da ?_
   refine Bz rfl (Bi 2 (k:=11) rfl rfl rfl rfl rfl rfl Tryz.sizeOf43 rfl) ?_; rintro _ _ ⟨rfl,rfl⟩; refine Bf (L2:=(_::_::_::_::_)) rfl ?_
   refine Dk8 0 2 3 4 5 6 7 9 rfl ?_
   exact ⟨rfl,rfl⟩
  refine Bz rfl (Ap 2 (k:=10) rfl rfl rfl rfl rfl Tz4) ?_; rintro _ _ ⟨rfl,rfl⟩; refine Bf (L2:=(_::_::_::_::_)) rfl ?_
  refine Dd (by decide)<|Bb rfl (Bn 0 (k:=0) rfl rfl rfl rfl Ta32 Tz32) rfl<|Bh rfl (Ev (v:=.agg #[.string (Ar (dt.drop at_)).1.name,.string (Ar (dt.drop at_)).1.comment,.slice ya yn yc,.int .i64 (((Ar (dt.drop at_)).1.mod : Nat) : Int),.int .u8 (((Ar (dt.drop at_)).1.os : Nat) : Int),.slice oa out.length oc,.int .i64 0]) [(0,.agg #[.string (Ar (dt.drop at_)).1.name,.string (Ar (dt.drop at_)).1.comment,.slice ya yn yc,.int .i64 (((Ar (dt.drop at_)).1.mod : Nat) : Int),.int .u8 (((Ar (dt.drop at_)).1.os : Nat) : Int)]),(1,.slice oa out.length oc),(2,.int .i64 0)] rfl (fun w => by simp [Instr.build,Instr.fill,Value.cells,Tryz.zeroValue43])) rfl<|Bh rfl (Ad rfl fa45_7) rfl<|Dc<|Da ?_
  refine Bz rfl (Bi 2 (k:=11) rfl rfl rfl rfl rfl rfl Tryz.sizeOf43 rfl) ?_; rintro _ _ ⟨rfl,rfl⟩; refine Bf (L2:=(_::_::_::_::_)) rfl ?_
  refine Dk8 0 2 3 4 5 6 7 9 rfl ?_
  exact ⟨rfl,rfl⟩
 rintro _ _ ⟨hq18,rfl⟩
 refine Ba _ hq18<|Ao<|Cr<|Em rfl rfl<|Aa (Ga (b:=((0 : Nat) : Int)) rfl rfl) rfl<|Ek9 0 2 3 4 5 6 7 9 65 rfl<|Be rfl (fun h65 => ?_) (fun h65 => ?_)
 ·refine Cr<|Em rfl rfl<|Aa (Ad rfl fa45_0) rfl ?_
  refine Al (Ap 2 (k:=0) rfl rfl rfl rfl rfl Tz3) ?_; rintro _ _ ⟨rfl,rfl⟩; refine Ab (L2:=(_::_::_::_::_)) rfl ?_
  refine Ek9 0 2 3 4 5 6 7 9 65 rfl<|Cr<|Ag (Bn 2 (k:=0) rfl rfl rfl rfl Ta45 Tz45) rfl ?_
  refine Al (Bi 3 (k:=0) rfl rfl rfl rfl rfl rfl Tz45 rfl) ?_; rintro _ _ ⟨rfl,rfl⟩; refine Ab (L2:=(_::_::_::_::_)) rfl ?_
  refine Ek9 0 2 3 4 5 6 7 9 65 rfl<|Au ?_
  rcases hI with ⟨rfl,_⟩ | ⟨rfl,hb⟩ | rfl
  · exact absurd rfl h65
  ·obtain ⟨ma2,mc2,hme,hmr⟩ := Gv hsm
   obtain ⟨rfl,rfl⟩ : ma2 = ma ∧ mc2 = mc := by injection hme with h1 h2 h3; exact ⟨h1.symm,h3.symm⟩
   refine ⟨_,⟨_,_,3,rfl,rfl,rfl⟩,1,0,true,true,hd2,(Ar (dt.drop at_)).1,ms,out,(dt.drop at_),data ++ out,_,_,_,_,_,_,_,_,_,_,_,_,rfl,hx3.mono ?_,(sl_rd hsd2).mono ?_,(hyx.mono (fun f hf => by first | (simp [hf]; done) | (rcases List.mem_cons.1 hf with h | h; (subst h; simp); (first | (simp [h]; done) | (cases h))))),((sl_rd hso).mono (fun f hf => by simp [hf])),⟨mcs,hmv.mono ?_,hmr.imp (fun h => List.eq_nil_of_length_eq_zero h) (fun ⟨mb,mo,e,hr⟩ => ⟨mb,mo,e,fun K L2 hL => hr K L2 fun f hf => hL f (by simp [hf])⟩)⟩,hsd2.cap,hso.cap,?_,hch,?_,?_,?_,?_⟩
   · intro f hf; first | (simp [hf]; done) | (rcases List.mem_cons.1 hf with h | h; (subst h; simp); (first | (simp [h]; done) | (cases h)))
   · intro f hf; first | (simp [hf]; done) | (rcases List.mem_cons.1 hf with h | h; (subst h; simp); (first | (simp [h]; done) | (cases h)))
   · intro f hf; first | (simp [hf]; done) | (rcases List.mem_cons.1 hf with h | h; (subst h; simp); (first | (simp [h]; done) | (cases h)))
   · rw [hda]
   · exact .inr (.inr ⟨rfl,by decide,hhd.1,hhd.2.2.2.symm,fun _ => ⟨rfl,.inl ⟨rfl,by rw [hhd.2.1]; exact gz_bad hb⟩⟩⟩)
   · exact .inr ⟨rfl,hfirst⟩
   · intro h; omega
   · intro h0; first | rfl | (exfalso; rw [h0] at hlt; simp at hlt) | (rw [h0] at hat; simp at hat; rcases hop with h | h; exact h.2.1; omega)
  ·obtain ⟨ma2,mc2,hme,hmr⟩ := Gv hsm
   obtain ⟨rfl,rfl⟩ : ma2 = ma ∧ mc2 = mc := by injection hme with h1 h2 h3; exact ⟨h1.symm,h3.symm⟩
   refine ⟨_,⟨_,_,3,rfl,rfl,rfl⟩,2,0,true,true,hd2,(Ar (dt.drop at_)).1,ms,out,(dt.drop at_),data ++ out,_,_,_,_,_,_,_,_,_,_,_,_,rfl,hx3.mono ?_,(sl_rd hsd2).mono ?_,(hyx.mono (fun f hf => by first | (simp [hf]; done) | (rcases List.mem_cons.1 hf with h | h; (subst h; simp); (first | (simp [h]; done) | (cases h))))),((sl_rd hso).mono (fun f hf => by simp [hf])),⟨mcs,hmv.mono ?_,hmr.imp (fun h => List.eq_nil_of_length_eq_zero h) (fun ⟨mb,mo,e,hr⟩ => ⟨mb,mo,e,fun K L2 hL => hr K L2 fun f hf => hL f (by simp [hf])⟩)⟩,hsd2.cap,hso.cap,?_,hch,?_,?_,?_,?_⟩
   · intro f hf; first | (simp [hf]; done) | (rcases List.mem_cons.1 hf with h | h; (subst h; simp); (first | (simp [h]; done) | (cases h)))
   · intro f hf; first | (simp [hf]; done) | (rcases List.mem_cons.1 hf with h | h; (subst h; simp); (first | (simp [h]; done) | (cases h)))
   · intro f hf; first | (simp [hf]; done) | (rcases List.mem_cons.1 hf with h | h; (subst h; simp); (first | (simp [h]; done) | (cases h)))
   · rw [hda]
   · exact .inr (.inr ⟨rfl,by decide,hhd.1,hhd.2.2.2.symm,fun h => absurd rfl h⟩)
   · exact .inr ⟨rfl,hfirst⟩
   · intro h; omega
   · intro h0; first | rfl | (exfalso; rw [h0] at hlt; simp at hlt) | (rw [h0] at hat; simp at hat; rcases hop with h | h; exact h.2.1; omega)
 obtain ⟨rfl,hrun⟩ := hI.resolve_right (fun h => by rcases h with ⟨rfl,_⟩ | rfl <;> exact absurd h65 (by decide))
 refine Aq<|Cr<|Em rfl rfl<|Em rfl rfl<|Aa (Bg rfl rfl (N.add64 (by omega))) rfl<|Ea rfl rfl<|Ek9 0 2 3 4 5 6 7 9 65 rfl<|Ao<|Cr<|Em rfl rfl<|Aa (Bl rfl Tu25) rfl<|Em rfl rfl ?_
 refine Aa (Dw rfl rfl (N.sub64 (by omega) (by omega))) rfl<|Aa (Dj (b:=((8 : Nat) : Int)) rfl rfl) rfl<|Ek10 0 2 3 4 5 6 7 9 65 76 rfl<|Be rfl (fun h76 => ?_) (fun h76 => ?_)
 ·refine Cr<|Aa (Ad rfl fa45_0) rfl ?_
  refine Al (Ap 2 (k:=0) rfl rfl rfl rfl rfl Tz3) ?_; rintro _ _ ⟨rfl,rfl⟩; refine Ab (L2:=(_::_::_::_::_)) rfl ?_
  refine Ek10 0 2 3 4 5 6 7 9 65 76 rfl<|Cr<|Ag (Bn 2 (k:=0) rfl rfl rfl rfl Ta45 Tz45) rfl ?_
  refine Al (Bi 3 (k:=0) rfl rfl rfl rfl rfl rfl Tz45 rfl) ?_; rintro _ _ ⟨rfl,rfl⟩; refine Ab (L2:=(_::_::_::_::_)) rfl ?_
  refine Ek10 0 2 3 4 5 6 7 9 65 76 rfl<|Au ?_
  have hgz := gz_short hrun (by rw [List.length_drop,List.length_drop,List.length_drop]; omega)
  obtain ⟨ma2,mc2,hme,hmr⟩ := Gv hsm
  obtain ⟨rfl,rfl⟩ : ma2 = ma ∧ mc2 = mc := by injection hme with h1 h2 h3; exact ⟨h1.symm,h3.symm⟩
  refine ⟨_,⟨_,_,3,rfl,rfl,rfl⟩,1,0,true,true,hd2,(Ar (dt.drop at_)).1,ms,out,(dt.drop at_),data ++ out,_,_,_,_,_,_,_,_,_,_,_,_,rfl,hx3.mono ?_,(sl_rd hsd2).mono ?_,(hyx.mono (fun f hf => by first | (simp [hf]; done) | (rcases List.mem_cons.1 hf with h | h; (subst h; simp); (first | (simp [h]; done) | (cases h))))),((sl_rd hso).mono (fun f hf => by simp [hf])),⟨mcs,hmv.mono ?_,hmr.imp (fun h => List.eq_nil_of_length_eq_zero h) (fun ⟨mb,mo,e,hr⟩ => ⟨mb,mo,e,fun K L2 hL => hr K L2 fun f hf => hL f (by simp [hf])⟩)⟩,hsd2.cap,hso.cap,?_,hch,?_,?_,?_,?_⟩
  · intro f hf; first | (simp [hf]; done) | (rcases List.mem_cons.1 hf with h | h; (subst h; simp); (first | (simp [h]; done) | (cases h)))
  · intro f hf; first | (simp [hf]; done) | (rcases List.mem_cons.1 hf with h | h; (subst h; simp); (first | (simp [h]; done) | (cases h)))
  · intro f hf; first | (simp [hf]; done) | (rcases List.mem_cons.1 hf with h | h; (subst h; simp); (first | (simp [h]; done) | (cases h)))
  · rw [hda]
  · exact .inr (.inr ⟨rfl,by decide,hhd.1,hhd.2.2.2.symm,fun _ => ⟨rfl,.inl ⟨rfl,by rw [hhd.2.1]; exact hgz.1,by rw [hhd.2.1,hgz.2]; exact List.prefix_refl _⟩⟩⟩)
  · exact .inr ⟨rfl,hfirst⟩
  · intro h; omega
  · intro h0; first | rfl | (exfalso; rw [h0] at hlt; simp at hlt) | (rw [h0] at hat; simp at hat; rcases hop with h | h; exact h.2.1; omega)
 have hdd : ((dt.drop at_).drop (Ar (dt.drop at_)).2.1).drop nn = (dt.drop (at_ + (Ar (dt.drop at_)).2.1 + nn)) := by rw [List.drop_drop,List.drop_drop,Nat.add_assoc]
 have hl8 : 8 ≤ (dt.drop (at_ + (Ar (dt.drop at_)).2.1 + nn)).length := by rw [List.length_drop]; omega
 have h8n : ¬ (((dt.drop at_).drop (Ar (dt.drop at_)).2.1).drop nn).length < 8 := by rw [hdd]; omega
 have hlt0 := le32_little (l:=(dt.drop (at_ + (Ar (dt.drop at_)).2.1 + nn))) (by omega)
 have hlt4 := le32_little (l:=dt.drop (at_ + (Ar (dt.drop at_)).2.1 + nn + 4)) (by rw [List.length_drop]; omega)
 have hck := Gq (by decide : IEEE < 4294967296) (by decide : 0 < 4294967296) out
 have hfits : fits out (((dt.drop at_).drop (Ar (dt.drop at_)).2.1).drop nn) ↔ (Fi ((dt.drop (at_ + (Ar (dt.drop at_)).2.1 + nn)).take 4) = crcOn IEEE 0 out ∧ Fi ((dt.drop (at_ + (Ar (dt.drop at_)).2.1 + nn + 4)).take 4) = out.length % 4294967296) := by
   rw [hdd,hlt0,hlt4,fits,le32at,le32at]
   simp only [List.getD_eq_getElem?_getD,List.getElem?_drop]
   try simp only [Nat.add_assoc,Nat.zero_add,Nat.reduceAdd]
 refine Aq<|Ao<|Cr<|Em rfl rfl<|Em rfl rfl<|Em rfl rfl<|Aa (Bg (b:=((4 : Nat) : Int)) rfl rfl (N.add64 (by omega))) rfl<|Aa (Ex rfl rfl rfl (by omega) (by omega) Tu25 Tz5) rfl ?_
 refine Aj (v:=.slice (some ⟨pb,part po (at_ + (Ar (dt.drop at_)).2.1 + nn) bc 1,none⟩) (((dt.drop (at_ + (Ar (dt.drop at_)).2.1 + nn)).take 4).length) (bc - (at_ + (Ar (dt.drop at_)).2.1 + nn))) (Bo rfl (by rw [List.length_take,List.length_drop]; omega) rfl) ?_
 refine An (OpX.pick [] (F:=(_::_::_::_::_)) rfl (Av rfl Tryz.call31 (En pb (part po (at_ + (Ar (dt.drop at_)).2.1 + nn) bc 1) (bc - (at_ + (Ar (dt.drop at_)).2.1 + nn)) ((dt.drop (at_ + (Ar (dt.drop at_)).2.1 + nn)).take 4) (kb_part hKB hcap (at_ + (Ar (dt.drop at_)).2.1 + nn) 4) (by rw [List.length_take]; omega)))) rfl ?_; rintro _ _ ⟨_,⟨rfl,rfl⟩,rfl⟩; refine Ab (L2:=(_::_::_::_::_)) rfl ?_
 refine Em rfl rfl ?_
 refine An (Av rfl Tryz.call28 (check_fr oa oc out (hor K _ (fun f hf => by simp [hf])) (by omega))) rfl ?_; rintro _ _ ⟨rfl,rfl⟩; refine Ab (L2:=(_::_::_::_::_)) rfl ?_
 refine Aa (Bu rfl Tu69 Tu2 (N.i64n (by omega))) rfl<|Aa (Ga rfl rfl) rfl<|Em rfl rfl<|Dx (fun g89 => ?_) (fun g89 => ?_)
 ·have hnf : ¬ fits out (((dt.drop at_).drop (Ar (dt.drop at_)).2.1).drop nn) := fun h => by have := hfits.1 h; omega
  refine Ae 89 true rfl rfl rfl rfl<|Ae 89 true rfl rfl rfl rfl<|Ae 89 true rfl rfl rfl rfl<|Ae 89 true rfl rfl rfl rfl<|Ae 89 true rfl rfl rfl rfl<|Ae 89 true rfl rfl rfl rfl<|Ae 89 true rfl rfl rfl rfl<|Ae 89 true rfl rfl rfl rfl<|Ae 89 true rfl rfl rfl rfl<|Ae 89 true rfl rfl rfl rfl<|Ae 89 true rfl rfl rfl rfl<|Ae 89 true rfl rfl rfl rfl ?_
  refine Aa (Bw rfl rfl) rfl<|Ek11 0 2 3 4 5 6 7 9 65 76 102 rfl<|Fp rfl (rfl)<|Cr<|Aa (Ad rfl fa45_0) rfl ?_
  refine Al (Ap 2 (k:=0) rfl rfl rfl rfl rfl Tz3) ?_; rintro _ _ ⟨rfl,rfl⟩; refine Ab (L2:=(_::_::_::_::_)) rfl ?_
  refine Aa (Ad rfl fa45_1) rfl ?_
  refine Al (Ap 2 (k:=1) rfl rfl rfl rfl rfl Tz3) ?_; rintro _ _ ⟨rfl,rfl⟩; refine Ab (L2:=(_::_::_::_::_)) rfl ?_
  refine Ek11 0 2 3 4 5 6 7 9 65 76 102 rfl<|Cr<|Ag (Bn 2 (k:=0) rfl rfl rfl rfl Ta45 Tz45) rfl ?_
  refine Al (Bi 3 (k:=0) rfl rfl rfl rfl rfl rfl Tz45 rfl) ?_; rintro _ _ ⟨rfl,rfl⟩; refine Ab (L2:=(_::_::_::_::_)) rfl ?_
  refine Ek11 0 2 3 4 5 6 7 9 65 76 102 rfl<|Au ?_
  have hgz := gz_sum hrun h8n hnf
  obtain ⟨ma2,mc2,hme,hmr⟩ := Gv hsm
  obtain ⟨rfl,rfl⟩ : ma2 = ma ∧ mc2 = mc := by injection hme with h1 h2 h3; exact ⟨h1.symm,h3.symm⟩
  refine ⟨_,⟨_,_,3,rfl,rfl,rfl⟩,1,3,true,true,hd2,(Ar (dt.drop at_)).1,ms,out,(dt.drop at_),data ++ out,_,_,_,_,_,_,_,_,_,_,_,_,rfl,hx3.mono ?_,(sl_rd hsd2).mono ?_,(hyx.mono (fun f hf => by first | (simp [hf]; done) | (rcases List.mem_cons.1 hf with h | h; (subst h; simp); (first | (simp [h]; done) | (cases h))))),((sl_rd hso).mono (fun f hf => by simp [hf])),⟨mcs,hmv.mono ?_,hmr.imp (fun h => List.eq_nil_of_length_eq_zero h) (fun ⟨mb,mo,e,hr⟩ => ⟨mb,mo,e,fun K L2 hL => hr K L2 fun f hf => hL f (by simp [hf])⟩)⟩,hsd2.cap,hso.cap,?_,hch,?_,?_,?_,?_⟩
  · intro f hf; first | (simp [hf]; done) | (rcases List.mem_cons.1 hf with h | h; (subst h; simp); (first | (simp [h]; done) | (cases h)))
  · intro f hf; first | (simp [hf]; done) | (rcases List.mem_cons.1 hf with h | h; (subst h; simp); (first | (simp [h]; done) | (cases h)))
  · intro f hf; first | (simp [hf]; done) | (rcases List.mem_cons.1 hf with h | h; (subst h; simp); (first | (simp [h]; done) | (cases h)))
  · rw [hda]
  · exact .inr (.inr ⟨rfl,by decide,hhd.1,hhd.2.2.2.symm,fun _ => ⟨rfl,.inr ⟨rfl,by rw [hhd.2.1]; exact hgz.1,by rw [hhd.2.1]; exact hgz.2⟩⟩⟩)
  · exact .inr ⟨rfl,hfirst⟩
  · intro h; omega
  · intro h0; first | rfl | (exfalso; rw [h0] at hlt; simp at hlt) | (rw [h0] at hat; simp at hat; rcases hop with h | h; exact h.2.1; omega)
 refine Ai 89 rfl rfl<|Em rfl rfl<|Ai 89 rfl rfl<|Em rfl rfl<|Ai 89 rfl rfl<|Aa (Bg (b:=((4 : Nat) : Int)) rfl rfl (N.add64 (by omega))) rfl<|Ai 89 rfl rfl<|Em rfl rfl<|Ai 89 rfl rfl<|Aa (Bg (b:=((8 : Nat) : Int)) rfl rfl (N.add64 (by omega))) rfl<|Ai 89 rfl rfl<|Aa (Ex rfl rfl rfl (by omega) (by omega) Tu25 Tz5) rfl ?_
 refine Aj (v:=.slice (some ⟨pb,part po (at_ + (Ar (dt.drop at_)).2.1 + nn + 4) bc 1,none⟩) (((dt.drop (at_ + (Ar (dt.drop at_)).2.1 + nn + 4)).take 4).length) (bc - (at_ + (Ar (dt.drop at_)).2.1 + nn + 4))) (Bo rfl (by rw [List.length_take,List.length_drop]; omega) rfl) ?_
 refine Ai 89 rfl rfl ?_
 refine An (OpX.pick [] (F:=(_::_::_::_::_)) rfl (Av rfl Tryz.call31 (En pb (part po (at_ + (Ar (dt.drop at_)).2.1 + nn + 4) bc 1) (bc - (at_ + (Ar (dt.drop at_)).2.1 + nn + 4)) ((dt.drop (at_ + (Ar (dt.drop at_)).2.1 + nn + 4)).take 4) (kb_part hKB hcap (at_ + (Ar (dt.drop at_)).2.1 + nn + 4) 4) (by rw [List.length_take]; omega)))) rfl ?_; rintro _ _ ⟨_,⟨rfl,rfl⟩,rfl⟩; refine Ab (L2:=(_::_::_::_::_)) rfl ?_
 refine Ai 89 rfl rfl<|Em rfl rfl<|Ai 89 rfl rfl<|Aa (Bl rfl Tu25) rfl<|Ai 89 rfl rfl<|Aa (Bu rfl Tu3 Tu69 (N.in_u32 (by omega))) rfl<|Ai 89 rfl rfl<|Aa (Bu rfl Tu69 Tu2 (N.i64n (by omega))) rfl<|Ai 89 rfl rfl<|Aa (Ga rfl rfl) rfl<|Aa (Bs rfl rfl) rfl<|Ek11 0 2 3 4 5 6 7 9 65 76 102 rfl ?_
 refine Be rfl (fun h102 => ?_) (fun h102 => ?_)
 ·have hnf : ¬ fits out (((dt.drop at_).drop (Ar (dt.drop at_)).2.1).drop nn) := fun h => by have := hfits.1 h; omega
  refine Cr<|Aa (Ad rfl fa45_0) rfl ?_
  refine Al (Ap 2 (k:=0) rfl rfl rfl rfl rfl Tz3) ?_; rintro _ _ ⟨rfl,rfl⟩; refine Ab (L2:=(_::_::_::_::_)) rfl ?_
  refine Aa (Ad rfl fa45_1) rfl ?_
  refine Al (Ap 2 (k:=1) rfl rfl rfl rfl rfl Tz3) ?_; rintro _ _ ⟨rfl,rfl⟩; refine Ab (L2:=(_::_::_::_::_)) rfl ?_
  refine Ek11 0 2 3 4 5 6 7 9 65 76 102 rfl<|Cr<|Ag (Bn 2 (k:=0) rfl rfl rfl rfl Ta45 Tz45) rfl ?_
  refine Al (Bi 3 (k:=0) rfl rfl rfl rfl rfl rfl Tz45 rfl) ?_; rintro _ _ ⟨rfl,rfl⟩; refine Ab (L2:=(_::_::_::_::_)) rfl ?_
  refine Ek11 0 2 3 4 5 6 7 9 65 76 102 rfl<|Au ?_
  have hgz := gz_sum hrun h8n hnf
  obtain ⟨ma2,mc2,hme,hmr⟩ := Gv hsm
  obtain ⟨rfl,rfl⟩ : ma2 = ma ∧ mc2 = mc := by injection hme with h1 h2 h3; exact ⟨h1.symm,h3.symm⟩
  refine ⟨_,⟨_,_,3,rfl,rfl,rfl⟩,1,3,true,true,hd2,(Ar (dt.drop at_)).1,ms,out,(dt.drop at_),data ++ out,_,_,_,_,_,_,_,_,_,_,_,_,rfl,hx3.mono ?_,(sl_rd hsd2).mono ?_,(hyx.mono (fun f hf => by first | (simp [hf]; done) | (rcases List.mem_cons.1 hf with h | h; (subst h; simp); (first | (simp [h]; done) | (cases h))))),((sl_rd hso).mono (fun f hf => by simp [hf])),⟨mcs,hmv.mono ?_,hmr.imp (fun h => List.eq_nil_of_length_eq_zero h) (fun ⟨mb,mo,e,hr⟩ => ⟨mb,mo,e,fun K L2 hL => hr K L2 fun f hf => hL f (by simp [hf])⟩)⟩,hsd2.cap,hso.cap,?_,hch,?_,?_,?_,?_⟩
  · intro f hf; first | (simp [hf]; done) | (rcases List.mem_cons.1 hf with h | h; (subst h; simp); (first | (simp [h]; done) | (cases h)))
  · intro f hf; first | (simp [hf]; done) | (rcases List.mem_cons.1 hf with h | h; (subst h; simp); (first | (simp [h]; done) | (cases h)))
  · intro f hf; first | (simp [hf]; done) | (rcases List.mem_cons.1 hf with h | h; (subst h; simp); (first | (simp [h]; done) | (cases h)))
  · rw [hda]
  · exact .inr (.inr ⟨rfl,by decide,hhd.1,hhd.2.2.2.symm,fun _ => ⟨rfl,.inr ⟨rfl,by rw [hhd.2.1]; exact hgz.1,by rw [hhd.2.1]; exact hgz.2⟩⟩⟩)
  · exact .inr ⟨rfl,hfirst⟩
  · intro h; omega
  · intro h0; first | rfl | (exfalso; rw [h0] at hlt; simp at hlt) | (rw [h0] at hat; simp at hat; rcases hop with h | h; exact h.2.1; omega)
 have hfi : fits out (((dt.drop at_).drop (Ar (dt.drop at_)).2.1).drop nn) := hfits.2 ⟨by omega,by omega⟩
 have hmr := mem_of_run hhd.1 (by rw [hhd.2.1]; exact hrun) (by rw [hhd.2.1]; exact h8n) (by rw [hhd.2.1]; exact hfi)
 have hch3 := hch.snoc hmr
 have hch4 : Chain dt (ms ++ [⟨(Ar (dt.drop at_)).1,out,dt.length - (at_ + (Ar (dt.drop at_)).2.1 + nn + 8)⟩]) (dt.drop (at_ + (Ar (dt.drop at_)).2.1 + nn + 8)) := by
   rw [hhd.2.2.2,hhd.2.1,hdd,List.drop_drop,List.length_drop] at hch3
   exact hch3
 have hmv4 : MemsV dt.length (ms ++ [⟨(Ar (dt.drop at_)).1,out,dt.length - (at_ + (Ar (dt.drop at_)).2.1 + nn + 8)⟩]) (mcs ++ [.string (Ar (dt.drop at_)).1.name,.string (Ar (dt.drop at_)).1.comment,.slice ya yn yc,.int .i64 (((Ar (dt.drop at_)).1.mod : Nat) : Int),.int .u8 (((Ar (dt.drop at_)).1.os : Nat) : Int),.slice oa out.length oc,.int .i64 ((at_ + (Ar (dt.drop at_)).2.1 + nn + 8 : Nat) : Int)]) (g::(Lo ++ G)) := (hmv.mono (fun f hf => by simp [hf])).snoc ⟨ya,yn,yc,oa,oc,by simp only; rw [show dt.length - (dt.length - (at_ + (Ar (dt.drop at_)).2.1 + nn + 8)) = at_ + (Ar (dt.drop at_)).2.1 + nn + 8 by omega],hyx.mono (fun f hf => by simp at hf; simp [hf]),(sl_rd hso).mono (fun f hf => by simp [hf])⟩
 have hfst : ∃ m r,ms ++ [⟨(Ar (dt.drop at_)).1,out,dt.length - (at_ + (Ar (dt.drop at_)).2.1 + nn + 8)⟩] = m::r ∧ hd2 = m.hd := by
   rcases hfirst with ⟨m,r,h1,h2⟩ | ⟨h1,_,h2⟩
   · exact ⟨m,_,by rw [h1]; rfl,h2⟩
   · exact ⟨_,[],by rw [h1]; rfl,h2⟩
 refine Aq<|Cr<|Em rfl rfl<|Aa (Bg (b:=((8 : Nat) : Int)) rfl rfl (N.add64 (by omega))) rfl<|Ea rfl rfl<|Ek11 0 2 3 4 5 6 7 9 65 76 102 rfl<|Cr<|Aa (Ad rfl fa45_5) rfl<|Ag (Am 2 (k:=9) rfl rfl rfl Tryz.isAgg41) rfl<|Ag (Bn 0 (k:=0) rfl rfl rfl rfl Ta32 Tz32) rfl<|Em rfl rfl<|Em rfl rfl ?_
 refine Aa (Ev (v:=.agg #[.string (Ar (dt.drop at_)).1.name,.string (Ar (dt.drop at_)).1.comment,.slice ya yn yc,.int .i64 (((Ar (dt.drop at_)).1.mod : Nat) : Int),.int .u8 (((Ar (dt.drop at_)).1.os : Nat) : Int),.slice oa out.length oc,.int .i64 ((at_ + (Ar (dt.drop at_)).2.1 + nn + 8 : Nat) : Int)]) [(0,.agg #[.string (Ar (dt.drop at_)).1.name,.string (Ar (dt.drop at_)).1.comment,.slice ya yn yc,.int .i64 (((Ar (dt.drop at_)).1.mod : Nat) : Int),.int .u8 (((Ar (dt.drop at_)).1.os : Nat) : Int)]),(1,.slice oa out.length oc),(2,.int .i64 ((at_ + (Ar (dt.drop at_)).2.1 + nn + 8 : Nat) : Int))] rfl (fun w => by simp [Instr.build,Instr.fill,Value.cells,Tryz.zeroValue43])) rfl<|An (Dv (vs:=[.string (Ar (dt.drop at_)).1.name,.string (Ar (dt.drop at_)).1.comment,.slice ya yn yc,.int .i64 (((Ar (dt.drop at_)).1.mod : Nat) : Int),.int .u8 (((Ar (dt.drop at_)).1.os : Nat) : Int),.slice oa out.length oc,.int .i64 ((at_ + (Ar (dt.drop at_)).2.1 + nn + 8 : Nat) : Int)]) (e:=43) [(0,.agg #[.string (Ar (dt.drop at_)).1.name,.string (Ar (dt.drop at_)).1.comment,.slice ya yn yc,.int .i64 (((Ar (dt.drop at_)).1.mod : Nat) : Int),.int .u8 (((Ar (dt.drop at_)).1.os : Nat) : Int),.slice oa out.length oc,.int .i64 ((at_ + (Ar (dt.drop at_)).2.1 + nn + 8 : Nat) : Int)])] rfl (memRun _ _ _ _ _ _ _ _ _ _ _)) rfl ?_
 rintro _ _ ⟨yb,rfl,rfl⟩
 refine Ab (L2:=[⟨yb,0,_⟩,_,_,_,_] ++ (Ld2 ++ (Lo ++ (Lm ++ G)))) rfl<|Fc (L2:=Lm ++ ([⟨yb,0,_⟩,_,_,_,_] ++ (Ld2 ++ (Lo ++ G)))) (Same.perm app_lm)<|An (X.append (P:=Tryz.prog) (s:=7) (bytes:=104) (t:=41) (xs:=mcs) (ys:=[.string (Ar (dt.drop at_)).1.name,.string (Ar (dt.drop at_)).1.comment,.slice ya yn yc,.int .i64 (((Ar (dt.drop at_)).1.mod : Nat) : Int),.int .u8 (((Ar (dt.drop at_)).1.os : Nat) : Int),.slice oa out.length oc,.int .i64 ((at_ + (Ar (dt.drop at_)).2.1 + nn + 8 : Nat) : Int)]) (Lf:=Lm) Tryz.underlying41 infoM rfl rfl rfl rfl (by decide) rfl rfl hsm rfl (.inr ⟨yb,0,rfl,Reads.mem (k:=0) (List.mem_append_right _ (.head _)) rfl⟩) rfl (by omega) (by omega)) rfl ?_
 rintro v4 _ ⟨Lm3,hsm3,rfl⟩
 refine E.lose (A:=[_,_,_,_] ++ (Ld2 ++ (Lm3 ++ (Lo ++ G)))) (F:=[_]) (Same.perm app_lm2) ?_
 obtain ⟨ma3,mc3,rfl⟩ := hsm3.form
 refine Aa (Ad rfl fa45_5) rfl ?_
 refine Al (Ap 2 (k:=9) rfl rfl rfl rfl rfl Tryz.sizeOf41) ?_; rintro _ _ ⟨rfl,rfl⟩; refine Ab (L2:=(_::_::_::_::_)) rfl ?_
 refine Ek11 0 2 3 4 5 6 7 9 65 76 102 rfl<|Ak<|Aa (Ev (v:=.agg #[.string ⟨#[]⟩,.string ⟨#[]⟩,.slice none 0 0,.int .i64 0,.int .u8 0,.slice none 0 0,.int .i64 0]) [] rfl (fun w => by simp [Instr.build,Instr.fill,Value.cells,Tryz.zeroValue43])) rfl<|Aa (Ad rfl fa45_6) rfl ?_
 refine Al (Ap 2 (k:=10) rfl rfl rfl rfl rfl Tz4) ?_; rintro _ _ ⟨rfl,rfl⟩; refine Ab (L2:=(_::_::_::_::_)) rfl ?_
 refine Aa (Ad rfl fa45_7) rfl ?_
 refine Al (Bi 2 (k:=11) rfl rfl rfl rfl rfl rfl Tryz.sizeOf43 rfl) ?_; rintro _ _ ⟨rfl,rfl⟩; refine Ab (L2:=(_::_::_::_::_)) rfl ?_
 refine E.lose (A:=[_,_] ++ (Ld2 ++ (Lm3 ++ (g::(Lo ++ G))))) (F:=[_]) (Same.perm app_back)<|Ab (L2:=_::_::(Ld2 ++ (Lm3 ++ (g::(Lo ++ G))))) rfl<|Ek11 0 2 3 4 5 6 7 9 65 76 102 rfl ?_
 refine ⟨_,?_,at_ + (Ar (dt.drop at_)).2.1 + nn + 8,true,hd2,x3,xn3,xc3,da2,dc2,ma3,mc3,ms ++ [⟨(Ar (dt.drop at_)).1,out,dt.length - (at_ + (Ar (dt.drop at_)).2.1 + nn + 8)⟩],mcs ++ [.string (Ar (dt.drop at_)).1.name,.string (Ar (dt.drop at_)).1.comment,.slice ya yn yc,.int .i64 (((Ar (dt.drop at_)).1.mod : Nat) : Int),.int .u8 (((Ar (dt.drop at_)).1.os : Nat) : Int),.slice oa out.length oc,.int .i64 ((at_ + (Ar (dt.drop at_)).2.1 + nn + 8 : Nat) : Int)],data ++ out,Ld2,Lm3,g::(Lo ++ G),rfl,(by rw [@List.length_append _ ms]; rfl),hch4,by omega,.inr ⟨by omega,rfl,hfst⟩,hx3.mono (fun f hf => by rcases List.mem_cons.1 hf with h | h; exact h ▸ .head _; exact .tail _ (List.mem_append_right _ h)),hsd2,(by rw [allD_snoc,hda]),(by rw [List.length_append]; omega),(by rw [List.length_append]; exact hsm3),hmv4,(by rw [List.length_append,List.length_singleton]; omega),rfl⟩; omega
def Gb (kind why : Nat) : Prop := (why = 1 → kind = 1) ∧ (why = 2 → kind = 2) ∧ (why = 3 → kind = 3) ∧ (why ≠ 1 → why ≠ 2 → why ≠ 3 → kind ≠ 0 ∧ kind ≠ 1)
theorem slH_any (a : Option Addr) (l c hi : Nat) (h2 : hi ≤ c) : ∃ a3,(∀ b o,a = some ⟨b,o,none⟩ → a3 = a) ∧ ∀ {n : Nat} {env : Env} {ty : TypeId} {x z : Operand} {k' : IntKind},ev? env x = some (.slice a l c) → ev? env z = some (.int k' (hi : Int)) → OpP Tryz.prog n (.slice 25 x none (some z) none) ty env (.slice a3 hi c) := by
  refine ⟨if c = 0 then a else a.map (·.add (0 * 1)),?_,?_⟩
  · rintro b o rfl
    split
    · rfl
    · simp [Addr.add]
  · intro n env ty x z k' hx hz ac w hf
    simp only [exop,execOp,hf.eval hx,Option.map_some,Option.map_none,hf.eval hz]
    have he : Tryz.prog.elem 25 = 5 := by simp [Program.elem,Tu25]
    have ht' : Tryz.prog.underlying 25 = some (.slice (Tryz.prog.elem 25)) := by rw [he]; exact Tu25
    rw [show (do pure (Next.value (← Instr.sliceAt 25 (.slice a l c) none (some (.int k' (hi : Int))) none)) : Sem Next).run Tryz.prog w = _ from by
      rw [Sem.run_bind,run_sliceAt_slice (P:=Tryz.prog) w 25 _ _ _ _ ht',run_slice_h (P:=Tryz.prog) w 25 a l c ht' k' hi (by omega) (by omega)]]
    simp [he,Tz5,sliced]
theorem RB.pre {K : Known} {L : Frags} {a a3 : Option Addr} {l1 l2 : List UInt8} (h : RB K L a l1) (ha : ∀ b o,a = some ⟨b,o,none⟩ → a3 = a) (hp : l2 <+: l1) : RB K L a3 l2 := by
  rcases h with h | ⟨b,o,e,h⟩
  · subst h; exact .inl (List.prefix_nil.1 hp)
  · refine .inr ⟨b,o,by rw [ha b o e,e],?_⟩
    have := h.take l2.length
    rwa [← bytesV_take,← List.prefix_iff_eq_take.1 hp] at this
theorem fault_spec {K : Known} (kind why : Nat) : Fn Tryz.prog K 15 #[.int .i64 ((kind : Nat) : Int),.int .i64 ((why : Nat) : Int)] ([]) (fun r L => (∃ ok,r = .bool ok ∧ (ok = true ↔ Gb kind why)) ∧ L = []) := by
 refine Fn.intro (args:=[.int .i64 ((kind : Nat) : Int),.int .i64 ((why : Nat) : Int)]) (RR:=Ret1 4 _) Tryz.func15 rfl rfl Tryz.ntmps15 (res1 Tryz.results15) ?_
 refine Bk (env2:=[(0,.int .i64 ((kind : Nat) : Int)),(1,.int .i64 ((why : Nat) : Int))]) rfl<|Cr<|Ea rfl rfl<|Ek3 0 1 4 rfl<|Ao<|Cr<|Em rfl rfl<|Ek3 0 4 5 rfl<|Ax<|Cr<|Aa (Du (b:=((1 : Nat) : Int)) rfl rfl) rfl<|Ea rfl rfl ?_
 refine Ek4 0 4 5 6 rfl<|Be rfl (fun h6 => ?_) (fun h6 => ?_)
 ·refine Cr<|Em rfl rfl<|Aa (Du (b:=((1 : Nat) : Int)) rfl rfl) rfl<|Ea rfl rfl<|Ek4 0 4 5 6 rfl<|Au ?_
  refine ⟨_,rfl,⟨_,rfl,?_⟩,rfl⟩
  unfold Gb
  constructor
  · intro h
    have := of_decide_eq_true h; omega
  · intro h
    exact decide_eq_true (by omega)
 refine Cr<|Aa (Du (b:=((2 : Nat) : Int)) rfl rfl) rfl<|Ea rfl rfl<|Ek5 0 4 5 6 10 rfl<|Be rfl (fun h10 => ?_) (fun h10 => ?_)
 ·refine Cr<|Em rfl rfl<|Aa (Du (b:=((2 : Nat) : Int)) rfl rfl) rfl<|Ea rfl rfl<|Ek5 0 4 5 6 10 rfl<|Au ?_
  refine ⟨_,rfl,⟨_,rfl,?_⟩,rfl⟩
  unfold Gb
  constructor
  · intro h
    have := of_decide_eq_true h; omega
  · intro h
    exact decide_eq_true (by omega)
 refine Cr<|Aa (Du (b:=((3 : Nat) : Int)) rfl rfl) rfl<|Ea rfl rfl<|Ek6 0 4 5 6 10 14 rfl<|Be rfl (fun h14 => ?_) (fun h14 => ?_)
 ·refine Cr<|Em rfl rfl<|Aa (Du (b:=((3 : Nat) : Int)) rfl rfl) rfl<|Ea rfl rfl<|Ek6 0 4 5 6 10 14 rfl<|Au ?_
  refine ⟨_,rfl,⟨_,rfl,?_⟩,rfl⟩
  unfold Gb
  constructor
  · intro h
    have := of_decide_eq_true h; omega
  · intro h
    exact decide_eq_true (by omega)
 refine Aq<|Cr<|Em rfl rfl<|Aa (Ga (b:=((0 : Nat) : Int)) rfl rfl) rfl<|Em rfl rfl<|Dx (fun g20 => ?_) (fun g20 => ?_)
 ·refine Ai 20 rfl rfl<|Em rfl rfl<|Ai 20 rfl rfl<|Aa (Ga (b:=((1 : Nat) : Int)) rfl rfl) rfl<|Aa (Bw rfl rfl) rfl<|Ea rfl rfl<|Ek6 0 4 5 6 10 14 rfl<|Au ?_
  refine ⟨_,rfl,⟨_,rfl,?_⟩,rfl⟩
  unfold Gb
  constructor
  · intro h
    have := of_decide_eq_true h; omega
  · intro h
    exact decide_eq_true (by omega)
 refine Ae 20 false rfl rfl rfl rfl<|Ae 20 false rfl rfl rfl rfl<|Aa (Bs rfl rfl) rfl<|Ea rfl rfl<|Ek6 0 4 5 6 10 14 rfl<|Au ?_
 refine ⟨_,rfl,⟨_,rfl,?_⟩,rfl⟩
 unfold Gb
 constructor
 · intro h
   exfalso; cases h; done
 · intro h
   exfalso; omega
theorem hasPrefix_walk {K : Known} (a1 a2 : Option Addr) (c1 c2 : Nat) (l1 l2 : List UInt8) (h1 : RB K [] a1 l1) (h2 : RB K [] a2 l2) (hc : l1.length ≤ c1) (hp : l2 <+: l1) : Fn Tryz.prog K 16 #[.slice a1 l1.length c1,.slice a2 l2.length c2] ([]) (fun v _ => v = .bool true) := by
 refine Fn.intro (args:=[.slice a1 l1.length c1,.slice a2 l2.length c2]) (RR:=Ret1 4 _) Tryz.func16 rfl rfl Tryz.ntmps16 (res1 Tryz.results16) ?_
 refine Bk (env2:=[(0,.slice a1 l1.length c1),(1,.slice a2 l2.length c2)]) rfl<|Cr<|Ea rfl rfl<|Ek3 0 1 4 rfl<|Cr ?_
 have hle := hp.length_le
 obtain ⟨a3,ha3,hop3⟩ := slH_any a1 l1.length c1 l2.length (by omega)
 refine Em rfl rfl<|Aa (Bl rfl Tu25) rfl<|Em rfl rfl<|Aa (Bl rfl Tu25) rfl<|Aa (S.ge rfl rfl) rfl<|Aj (v:=.bool true) (congrArg Value.bool (decide_eq_true (by omega)))<|Em rfl rfl<|Ai 10 rfl rfl<|Em rfl rfl<|Ai 10 rfl rfl<|Em rfl rfl<|Ai 10 rfl rfl ?_
 refine Aa (Bl rfl Tu25) rfl<|Ai 10 rfl rfl<|Aa (hop3 rfl rfl) rfl<|Ai 10 rfl rfl<|Em rfl rfl<|Ai 10 rfl rfl ?_
 refine An (Av rfl Tryz.call13 (bytesEqual_spec a3 a2 c1 c2 l2 l2 (h1.pre ha3 hp) h2)) rfl ?_; rintro _ _ ⟨rfl,rfl⟩; refine Ab (L2:=[]) rfl ?_
 refine Aj (v:=.bool true) (congrArg Value.bool (decide_eq_true rfl))<|Aa (Bw rfl rfl) rfl<|Ea rfl rfl<|Ek1 4 rfl<|Au ?_
 exact ⟨_,rfl,rfl⟩
theorem hasPrefix_spec {K : Known} {L : Frags} (a1 a2 : Option Addr) (c1 c2 : Nat) (l1 l2 : List UInt8) (h1 : RB K L a1 l1) (h2 : RB K L a2 l2) (hc : l1.length ≤ c1) (hp : l2 <+: l1) :
    Fn Tryz.prog K 16 #[.slice a1 l1.length c1,.slice a2 l2.length c2] L (fun v L' => v = .bool true ∧ L' = L) :=
  Fn.stillR fun w hw => hasPrefix_walk a1 a2 c1 c2 l1 l2 (h1.still hw) (h2.still hw) hc hp
theorem BA.db {K : Known} {a : Option Addr} {c : Nat} {l : List UInt8} (h : BA K (.slice a l.length c) l) : DB K a l ∧ l.length ≤ c := by
  rcases h with ⟨e,rfl⟩ | ⟨a2,c2,e,rfl⟩ | ⟨pb,po,cap,e,hc,hk⟩
  · exact ⟨.inl rfl,Nat.zero_le _⟩
  · exact ⟨.inl rfl,Nat.zero_le _⟩
  · injection e with e1 e2 e3
    exact ⟨.inr ⟨pb,po,e1,hk⟩,by omega⟩
theorem unpack_u {K : Known} {ea : Fin 5 → Addr} (hs : Sents K ea) (hc : Codes K) {v : Value} {data : List UInt8} (hv : BA K v data) (hl : data.length ≤ 65536) {sv : Value} (hsz : SzA K sv) {u : UnpR} (hu : u = unpOf data) (G : Frags) :
    Fn Tryz.prog K 9 #[v,sv] G fun r L => ∃ GL xa xc oa oc,r = .agg #[.int .i64 ((u.1 : Nat) : Int),.string u.2.1.name,.string u.2.1.comment,.slice xa (u.2.1.extra.getD []).length xc,.int .i64 ((u.2.1.mod : Nat) : Int),.int .u8 ((u.2.1.os : Nat) : Int),.slice oa u.2.2.1.length oc,.int .i64 ((u.2.2.2 : Nat) : Int)] ∧
      (∀ (K : Known) (L : Frags),(∀ f ∈ GL,f ∈ L) → RB K L xa (u.2.1.extra.getD [])) ∧ (∀ (K : Known) (L : Frags),(∀ f ∈ GL,f ∈ L) → RB K L oa u.2.2.1) ∧ L = G ++ GL := by
  subst hu
  refine Fn.mono (unpack_spec hs hc hv hl hsz G) ?_
  rintro r L ⟨GL,⟨ev,bv,rfl,⟨xa,xc,rfl,h1⟩,⟨oa,oc,rfl,h2⟩⟩,rfl⟩
  exact ⟨GL,xa,xc,oa,oc,rfl,h1,h2,rfl⟩
theorem kind_ne {e : Er} (h : e ≠ .none) : kindOf e ≠ 0 := by
  cases e with
  | none => exact absurd rfl h
  | se k => unfold kindOf; simp only; split; · simp
            split; · simp
            split <;> simp
  | corrupt off => simp [kindOf]
  | internal s => simp [kindOf]
theorem law6_closed {dt l2 : List UInt8} {what why : Nat} {h2 : Hd} {d2 : List UInt8} (hch : Chain dt [] l2) (he : EndP l2 what why false h2 d2) (h0 : what ≠ 0) (hw : what ≠ 2) : Gb (unpOf dt).1 why ∨ (why = 0 ∧ (unpOf dt).1 = 1) := by
  have e : dt = l2 := hch
  subst e
  rcases he with ⟨_,_,rfl,h⟩ | ⟨_,_,_,_,h⟩ | ⟨h,_⟩
  · left
    have hk : (unpOf []).1 = 1 := by decide
    unfold Gb
    rw [hk]; omega
  · obtain ⟨_,h1,h2,h3⟩ := h hw
    rw [unpOf_bad h2]
    have hk := kind_ne h2
    rcases h1 with rfl | rfl
    · by_cases hk1 : kindOf (As dt).1 = 1
      · exact .inr ⟨rfl,hk1⟩
      · left; unfold Gb; simp only; omega
    · left
      have : kindOf (As dt).1 = 2 := by rw [h3 rfl]; rfl
      unfold Gb; simp only; omega
  · cases h
theorem chain_first {dt l2 : List UInt8} {ms : List PM} {behind : Bool} {h2 hd : Hd} (hch : Chain dt ms l2) (hf : FirstH ms behind h2 hd) (hb : behind = true → (As l2).1 = .none ∧ h2 = (As l2).2.2) : (As dt).1 = .none ∧ (As dt).2.2 = hd := by
  rcases hf with ⟨m,r,rfl,rfl⟩ | ⟨rfl,h,rfl⟩
  · obtain ⟨rest,hm,_⟩ := hch
    exact ⟨hm.1,hm.2.1⟩
  · have e : dt = l2 := hch
    subst e
    exact ⟨(hb h).1,(hb h).2.symm⟩
theorem fault5 : Gb 5 0 := by unfold Gb; omega
theorem fault3 : Gb 3 3 := by unfold Gb; omega
theorem law6_open {dt l2 : List UInt8} {ms : List PM} {what why : Nat} {behind : Bool} {h2 hd : Hd} {d2 fd : List UInt8} (hch : Chain dt ms l2) (he : EndP l2 what why behind h2 d2) (hf : FirstH ms behind h2 hd) (hw : what ≠ 2) (h1 : why ≠ 1) (hdat : fd = allD ms ++ d2) :
    (unpOf dt).1 = 0 ∧ (unpOf dt).2.1 = hd ∧ (what = 0 → (unpOf dt).2.2.2 = 1 ∧ (unpOf dt).2.2.1 = fd) ∧ (what ≠ 0 → Gb (unpOf dt).2.2.2 why ∧ (unpOf dt).2.2.1 <+: fd ∧ (why ≠ 0 → (unpOf dt).2.2.1.length = fd.length)) := by
  obtain ⟨g1,g2⟩ := chain_first hch hf (fun hb => by
    rcases he with ⟨h,_⟩ | ⟨h,_⟩ | ⟨_,_,h,h',_⟩
    · rw [hb] at h; cases h
    · rw [hb] at h; cases h
    · exact ⟨h,h'⟩)
  rw [unpOf_good g1,nxt_chain hch]
  refine ⟨rfl,g2,?_⟩
  rcases he with ⟨_,rfl,rfl,h⟩ | ⟨_,rfl,hl,h0,h⟩ | ⟨_,h0,a1,a2,h⟩
  · have hn : nxt [] = ([],1) := by rw [nxt_bad (by decide)]; rfl
    rw [hn]
    refine ⟨fun _ => ⟨rfl,hdat.symm⟩,fun hn => ?_⟩
    exfalso; omega
  · obtain ⟨_,b1,b2,b3⟩ := h hw
    rw [nxt_bad b2]
    refine ⟨fun hn => absurd hn h0,fun _ => ⟨?_,by rw [hdat]; exact List.prefix_refl _,fun _ => by rw [hdat]⟩⟩
    have hk := kind_ne b2
    have hk1 := head_eof hl
    rcases b1 with rfl | rfl
    · unfold Gb; simp only; omega
    · have : kindOf (As l2).1 = 2 := by rw [b3 rfl]; rfl
      unfold Gb; simp only; omega
  · obtain ⟨_,b⟩ := h hw
    refine ⟨fun hn => absurd hn h0,fun _ => ?_⟩
    rcases b with ⟨rfl,c1,c2⟩ | ⟨rfl,c1,c2⟩
    · rw [nxt_stop a1 (by omega),c1,hdat]
      exact ⟨fault5,List.prefix_append_right_inj _ |>.2 c2,fun h => absurd rfl h⟩
    · rw [nxt_stop a1 (by omega),c1,hdat,c2]
      exact ⟨fault3,List.prefix_refl _,fun _ => rfl⟩
set_option maxHeartbeats 1000000
theorem law6 {K : Known} {ea : Fin 5 → Addr} (hs : Sents K ea) (hc : Codes K) (hS : SpT K) (data : List UInt8) (a : Option Addr) (c : Nat) (hv : BA K (.slice a data.length c) data) (a2 : Option Addr) (n2 c2 : Nat) (hsz : SzA K (.slice a2 n2 c2)) : Fn Tryz.prog K 4 #[.slice a data.length c,.slice a2 n2 c2] ([]) (fun r L => r = .bool true) := by
 refine Fn.intro (args:=[.slice a data.length c,.slice a2 n2 c2]) (RR:=Ret1 4 _) Tryz.func4 rfl rfl Tryz.ntmps4 (res1 Tryz.results4) ?_
 refine Bk (env2:=[(0,.slice a data.length c),(1,.slice a2 n2 c2)]) rfl<|Cr<|Ea rfl rfl<|Ek3 0 1 4 rfl<|Ao<|Cr<|Em rfl rfl<|Aa (Bl rfl Tu25) rfl<|Aa (Gf (b:=((2147483647 : Nat) : Int)) rfl rfl) rfl<|Em rfl rfl<|Dx (fun g10 => ?_) (fun g10 => ?_)
 ·refine Ae 10 true rfl rfl rfl rfl<|Ae 10 true rfl rfl rfl rfl<|Ae 10 true rfl rfl rfl rfl<|Aa (Bw rfl rfl) rfl<|Ek4 0 1 4 14 rfl<|Fp rfl (rfl)<|Cr<|Ea rfl rfl<|Ek4 0 1 4 14 rfl<|Au ?_
  exact ⟨_,rfl,rfl⟩
 refine Ai 10 rfl rfl<|Em rfl rfl<|Ai 10 rfl rfl<|Aa (Bl rfl Tu23) rfl<|Ai 10 rfl rfl<|Aa (Gf (b:=((2147483647 : Nat) : Int)) rfl rfl) rfl<|Aa (Bs rfl rfl) rfl<|Ek4 0 1 4 14 rfl<|Be rfl (fun h14 => ?_) (fun h14 => ?_)
 ·refine Cr<|Ea rfl rfl<|Ek4 0 1 4 14 rfl<|Au ?_
  exact ⟨_,rfl,rfl⟩
 refine Aq<|Ao<|Cr<|Em rfl rfl<|Aa (Bl rfl Tu25) rfl<|Aa (Gf (b:=((65536 : Nat) : Int)) rfl rfl) rfl<|Ek5 0 1 4 14 17 rfl<|Be rfl (fun h17 => ?_) (fun h17 => ?_)
 ·refine Cr<|Ea rfl rfl<|Ek5 0 1 4 14 17 rfl<|Au ?_
  exact ⟨_,rfl,rfl⟩
 have hl : data.length ≤ 65536 := by omega
 obtain ⟨hD,hcap⟩ := hv.db
 obtain ⟨u,hu⟩ : ∃ u,u = unpOf data := ⟨_,rfl⟩
 refine Aq<|Cr<|Em rfl rfl<|An (OpX.pick [] (F:=[]) rfl (Av rfl Tryz.call14 (parse_spec a c data hD hl hcap hS))) rfl ?_
 rintro _ _ ⟨GP,⟨what,why,opened,behind,hd,h2,ms,d2,l2,fd,xa,xn,xc,da,dc,ma,mc,ya,yn,yc,oa,oc,rfl,hx,hdv,hy,ho,hms,hdc,hoc,hfd,hch,hend,hopn,hwy,hemp⟩,rfl⟩
 refine Ab (L2:=GP) (List.append_nil _) ?_
 refine An (Ed Tryz.zeroValue45) rfl ?_; rintro _ _ ⟨b5,rfl,rfl⟩; refine Ab (L2:=(_::_)) rfl ?_
 refine Ab (L2:=⟨b5,0,[.int .i64 0,.int .i64 0,.bool false,.string ⟨#[]⟩,.string ⟨#[]⟩,.slice none 0 0,.int .i64 0,.int .u8 0,.slice none 0 0,.slice none 0 0,.bool false,.string ⟨#[]⟩,.string ⟨#[]⟩,.slice none 0 0,.int .i64 0,.int .u8 0,.slice none 0 0,.int .i64 0]⟩::GP) (by kernel_rfl) ?_
 refine Al (Bi 0 (k:=0) rfl rfl rfl rfl rfl rfl Tz45 rfl) ?_; rintro _ _ ⟨rfl,rfl⟩; refine Ab (L2:=(_::_)) rfl ?_
 refine Ek6 0 1 4 5 14 17 rfl<|Ao<|Cr<|Aa (Ad rfl fa45_0) rfl<|Ag (Am 0 (k:=0) rfl rfl rfl Ta3) rfl<|Aa (Du (b:=((2 : Nat) : Int)) rfl rfl) rfl<|Ek7 0 1 4 5 14 17 22 rfl<|Be rfl (fun h22 => ?_) (fun h22 => ?_)
 ·refine Cr<|Ea rfl rfl<|Ek7 0 1 4 5 14 17 22 rfl<|Au ?_
  exact ⟨_,rfl,rfl⟩
 have hw2 : what ≠ 2 := by omega
 refine Aq<|Cr<|Em rfl rfl<|Em rfl rfl ?_
 refine An (Av rfl Tryz.call9 (unpack_u hs hc hv hl hsz hu (⟨b5,0,[.int .i64 ((what : Nat) : Int),.int .i64 ((why : Nat) : Int),.bool opened,.string hd.name,.string hd.comment,.slice xa xn xc,.int .i64 ((hd.mod : Nat) : Int),.int .u8 ((hd.os : Nat) : Int),.slice da fd.length dc,.slice ma ms.length mc,.bool behind,.string h2.name,.string h2.comment,.slice ya yn yc,.int .i64 ((h2.mod : Nat) : Int),.int .u8 ((h2.os : Nat) : Int),.slice oa d2.length oc,.int .i64 0]⟩::GP))) rfl ?_; rintro _ _ ⟨GL,va,vc,wa,wc,rfl,hrv,hrw,rfl⟩; refine Ab (L2:=(_::_)) rfl ?_
 refine An (Ed Tryz.zeroValue29) rfl ?_; rintro _ _ ⟨b6,rfl,rfl⟩; refine Ab (L2:=(_::_::_)) rfl ?_
 refine Ab (L2:=⟨b6,0,[.int .i64 0,.string ⟨#[]⟩,.string ⟨#[]⟩,.slice none 0 0,.int .i64 0,.int .u8 0,.slice none 0 0,.int .i64 0]⟩::(⟨b5,0,[.int .i64 ((what : Nat) : Int),.int .i64 ((why : Nat) : Int),.bool opened,.string hd.name,.string hd.comment,.slice xa xn xc,.int .i64 ((hd.mod : Nat) : Int),.int .u8 ((hd.os : Nat) : Int),.slice da fd.length dc,.slice ma ms.length mc,.bool behind,.string h2.name,.string h2.comment,.slice ya yn yc,.int .i64 ((h2.mod : Nat) : Int),.int .u8 ((h2.os : Nat) : Int),.slice oa d2.length oc,.int .i64 0]⟩::GP ++ GL)) (by kernel_rfl) ?_
 refine Al (Bi 0 (k:=0) rfl rfl rfl rfl rfl rfl Tz29 rfl) ?_; rintro _ _ ⟨rfl,rfl⟩; refine Ab (L2:=(_::_::_)) rfl ?_
 refine Ek8 0 1 4 5 6 14 17 22 rfl<|Ao<|Cr<|Aa (Ad rfl fa45_2) rfl<|Ag (Am 1 (k:=2) rfl rfl rfl Tryz.isAgg4) rfl<|Aa (Fs rfl) rfl<|Ek9 0 1 4 5 6 14 17 22 28 rfl<|Ez rfl (fun h28 => ?_) (fun h28 => ?_)
 ·have hop0 : opened = false := by simpa using h28
  obtain ⟨_,rfl,rfl,hw0⟩ := hopn.resolve_right (fun h => by rw [hop0] at h; cases h.1)
  have hcl := law6_closed hch hend hw0 hw2
  rw [← hu] at hcl
  refine Cr<|Aa (Ad rfl fa29_0) rfl<|Ag (Am 0 (k:=0) rfl rfl rfl Ta3) rfl<|Aa (Ad rfl fa45_1) rfl<|Ag (Am 1 (k:=1) rfl rfl rfl Ta3) rfl ?_
  refine An (OpX.pick [] (F:=_::_::_) rfl (Av rfl Tryz.call15 (fault_spec _ _))) rfl ?_; rintro _ _ ⟨_,⟨⟨ok,rfl,hok⟩,rfl⟩,rfl⟩; refine Ab (L2:=(_::_::_)) rfl ?_
  refine Em rfl rfl<|E.forkB (fun g34 => ?_) (fun g34 => ?_)
  ·refine Ae 34 true rfl rfl rfl rfl<|Ae 34 true rfl rfl rfl rfl<|Ae 34 true rfl rfl rfl rfl<|Ae 34 true rfl rfl rfl rfl<|Gc 38 rfl rfl rfl<|Gc 38 rfl rfl rfl<|Gc 38 rfl rfl rfl<|Ae 34 true rfl rfl rfl rfl<|Aa (Bw rfl rfl) rfl<|Ea rfl rfl<|Ek9 0 1 4 5 6 14 17 22 28 rfl<|Au ?_
   exact ⟨_,rfl,rfl⟩
  refine Ai 34 rfl rfl<|Aa (Ad rfl fa45_1) rfl<|Ai 34 rfl rfl<|Ag (Am 1 (k:=1) rfl rfl rfl Ta3) rfl<|Ai 34 rfl rfl<|Aa (Du (b:=((0 : Nat) : Int)) rfl rfl) rfl ?_
  refine Aj (v:=.bool true) (congrArg Value.bool (decide_eq_true (by have := hcl.resolve_left (fun h => by rw [hok.2 h] at g34; cases g34); omega))) ?_
  refine Ai 34 rfl rfl<|Em rfl rfl<|Ai 38 rfl rfl<|Aa (Ad rfl fa29_0) rfl<|Ai 38 rfl rfl<|Ag (Am 0 (k:=0) rfl rfl rfl Ta3) rfl<|Ai 38 rfl rfl<|Aa (Du (b:=((1 : Nat) : Int)) rfl rfl) rfl ?_
  refine Aj (v:=.bool true) (congrArg Value.bool (decide_eq_true (by have := hcl.resolve_left (fun h => by rw [hok.2 h] at g34; cases g34); omega))) ?_
  refine Ai 34 rfl rfl<|Aa (Bw rfl rfl) rfl<|Aa (Bs rfl rfl) rfl<|Ea rfl rfl<|Ek9 0 1 4 5 6 14 17 22 28 rfl<|Au ?_
  exact ⟨_,rfl,rfl⟩
 have hop0 : opened = true := by simpa using h28
 obtain ⟨_,hfir⟩ := hopn.resolve_left (fun h => by rw [hop0] at h; cases h.1)
 have hy1 : why ≠ 1 := fun h => by rw [hemp (hwy h)] at hop0; cases hop0
 have hop := law6_open hch hend hfir hw2 hy1 hfd
 rw [← hu] at hop
 obtain ⟨hu0,hu1,hug,hub⟩ := hop
 obtain ⟨hn2,hrx⟩ := hx.same
 subst hn2
 obtain ⟨_,hrd⟩ := hdv.same
 refine Aq<|Ao<|Cr<|Aa (Ad rfl fa29_0) rfl<|Ag (Am 0 (k:=0) rfl rfl rfl Ta3) rfl<|Aa (Ga (b:=((0 : Nat) : Int)) rfl rfl) rfl<|Em rfl rfl<|Dx (fun g47 => ?_) (fun g47 => ?_)
 ·exfalso
  omega
 refine Ai 47 rfl rfl<|Aa (Ad rfl fa29_1) rfl<|Ai 47 rfl rfl<|Ag (Bn 0 (k:=1) rfl rfl rfl rfl Ta27 Tz27) rfl<|Ai 47 rfl rfl<|Aa (Ad rfl fa45_3) rfl<|Ai 47 rfl rfl<|Ag (Bn 1 (k:=3) rfl rfl rfl rfl Ta32 Tz32) rfl<|Ai 47 rfl rfl ?_
 refine An (Av rfl Tryz.call12 (same_spec _ _ _ _ _ _ _ _ _ _ _ _ _ _ (hrv K _ (fun f hf => by simp [hf])) (hrx K _ (fun f hf => by simp [hf])))) rfl ?_; rintro _ _ ⟨rfl,rfl⟩; refine Ab (L2:=(_::_::_)) rfl ?_
 refine Aj (v:=.bool true) (congrArg Value.bool (decide_eq_true (by rw [hu1]; exact ⟨rfl,rfl,rfl,rfl,rfl⟩))) ?_
 refine Ai 47 rfl rfl<|Aa (Fs rfl) rfl<|Aa (Bs rfl rfl) rfl<|Ek10 0 1 4 5 6 14 17 22 28 54 rfl<|Gu rfl (rfl)<|Aq<|Ao<|Cr<|Aa (Ad rfl fa45_0) rfl<|Ag (Am 1 (k:=0) rfl rfl rfl Ta3) rfl<|Aa (Du (b:=((0 : Nat) : Int)) rfl rfl) rfl<|Ek11 0 1 4 5 6 14 17 22 28 54 57 rfl ?_
 refine Be rfl (fun h57 => ?_) (fun h57 => ?_)
 ·have hgd := hug (by omega)
  refine Cr<|Aa (Ad rfl fa29_3) rfl<|Ag (Am 0 (k:=7) rfl rfl rfl Ta3) rfl<|Aa (Du (b:=((1 : Nat) : Int)) rfl rfl) rfl<|Aj (v:=.bool true) (congrArg Value.bool (decide_eq_true (by rw [hgd.1])))<|Em rfl rfl<|Ai 61 rfl rfl<|Aa (Ad rfl fa29_2) rfl<|Ai 61 rfl rfl<|Ag (Am 0 (k:=6) rfl rfl rfl Ta25) rfl<|Ai 61 rfl rfl<|Aa (Ad rfl fa45_4) rfl ?_
  refine Ai 61 rfl rfl<|Ag (Am 1 (k:=8) rfl rfl rfl Ta25) rfl<|Ai 61 rfl rfl ?_
  refine An (Av rfl Tryz.call13 (bytesEqual_spec wa da wc dc _ _ (hrw K _ (fun f hf => by simp [hf])) (hrd K _ (fun f hf => by simp [hf])))) rfl ?_; rintro _ _ ⟨rfl,rfl⟩; refine Ab (L2:=(_::_::_)) rfl ?_
  refine Aj (v:=.bool true) (congrArg Value.bool (decide_eq_true hgd.2))<|Aa (Bw rfl rfl) rfl<|Ea rfl rfl<|Ek11 0 1 4 5 6 14 17 22 28 54 57 rfl<|Au ?_
  exact ⟨_,rfl,rfl⟩
 have hbd := hub (by omega)
 refine Aq<|Ao<|Cr<|Aa (Ad rfl fa45_1) rfl<|Ag (Am 1 (k:=1) rfl rfl rfl Ta3) rfl<|Aa (Ga (b:=((0 : Nat) : Int)) rfl rfl) rfl<|Em rfl rfl<|Dx (fun g71 => ?_) (fun g71 => ?_)
 ·refine Ai 71 rfl rfl<|Aa (Ad rfl fa29_2) rfl<|Ai 71 rfl rfl<|Ag (Am 0 (k:=6) rfl rfl rfl Ta25) rfl<|Ai 71 rfl rfl<|Aa (Bl rfl Tu25) rfl<|Ai 71 rfl rfl<|Aa (Ad rfl fa45_4) rfl<|Ai 71 rfl rfl<|Ag (Am 1 (k:=8) rfl rfl rfl Ta25) rfl<|Ai 71 rfl rfl<|Aa (Bl rfl Tu25) rfl ?_
  refine Ai 71 rfl rfl<|Aa (Ga rfl rfl) rfl ?_
  refine Aj (v:=.bool false) (congrArg Value.bool (decide_eq_false (by have := hbd.2.2 (by omega); omega))) ?_
  refine Aa (Bw rfl rfl) rfl<|Ek12 0 1 4 5 6 14 17 22 28 54 57 79 rfl<|Gu rfl (rfl)<|Aq<|Cr<|Aa (Ad rfl fa29_3) rfl<|Ag (Am 0 (k:=7) rfl rfl rfl Ta3) rfl<|Aa (Ad rfl fa45_1) rfl<|Ag (Am 1 (k:=1) rfl rfl rfl Ta3) rfl ?_
  refine An (OpX.pick [] (F:=_::_::_) rfl (Av rfl Tryz.call15 (fault_spec _ _))) rfl ?_; rintro _ _ ⟨_,⟨⟨ok,rfl,hok⟩,rfl⟩,rfl⟩; refine Ab (L2:=(_::_::_)) rfl ?_
  refine Aj (v:=.bool true) (congrArg Value.bool (hok.2 hbd.1))<|Em rfl rfl<|Ai 85 rfl rfl<|Aa (Ad rfl fa45_4) rfl<|Ai 85 rfl rfl<|Ag (Am 1 (k:=8) rfl rfl rfl Ta25) rfl<|Ai 85 rfl rfl<|Aa (Ad rfl fa29_2) rfl<|Ai 85 rfl rfl<|Ag (Am 0 (k:=6) rfl rfl rfl Ta25) rfl<|Ai 85 rfl rfl ?_
  refine An (Av rfl Tryz.call16 (hasPrefix_spec da wa dc wc fd u.2.2.1 (hrd K _ (fun f hf => by simp [hf])) (hrw K _ (fun f hf => by simp [hf])) hdc hbd.2.1)) rfl ?_; rintro _ _ ⟨rfl,rfl⟩; refine Ab (L2:=(_::_::_)) rfl ?_
  refine Aa (Bw rfl rfl) rfl<|Ea rfl rfl<|Ek12 0 1 4 5 6 14 17 22 28 54 57 79 rfl<|Au ?_
  exact ⟨_,rfl,rfl⟩
 refine Ae 71 false rfl rfl rfl rfl<|Ae 71 false rfl rfl rfl rfl<|Ae 71 false rfl rfl rfl rfl<|Ae 71 false rfl rfl rfl rfl<|Ae 71 false rfl rfl rfl rfl<|Ae 71 false rfl rfl rfl rfl<|Ae 71 false rfl rfl rfl rfl<|Aa (Bs rfl rfl) rfl<|Ek12 0 1 4 5 6 14 17 22 28 54 57 79 rfl<|Gu rfl (rfl)<|Aq<|Cr ?_
 refine Aa (Ad rfl fa29_3) rfl<|Ag (Am 0 (k:=7) rfl rfl rfl Ta3) rfl<|Aa (Ad rfl fa45_1) rfl<|Ag (Am 1 (k:=1) rfl rfl rfl Ta3) rfl ?_
 refine An (OpX.pick [] (F:=_::_::_) rfl (Av rfl Tryz.call15 (fault_spec _ _))) rfl ?_; rintro _ _ ⟨_,⟨⟨ok,rfl,hok⟩,rfl⟩,rfl⟩; refine Ab (L2:=(_::_::_)) rfl ?_
 refine Aj (v:=.bool true) (congrArg Value.bool (hok.2 hbd.1))<|Em rfl rfl<|Ai 85 rfl rfl<|Aa (Ad rfl fa45_4) rfl<|Ai 85 rfl rfl<|Ag (Am 1 (k:=8) rfl rfl rfl Ta25) rfl<|Ai 85 rfl rfl<|Aa (Ad rfl fa29_2) rfl<|Ai 85 rfl rfl<|Ag (Am 0 (k:=6) rfl rfl rfl Ta25) rfl<|Ai 85 rfl rfl ?_
 refine An (Av rfl Tryz.call16 (hasPrefix_spec da wa dc wc fd u.2.2.1 (hrd K _ (fun f hf => by simp [hf])) (hrw K _ (fun f hf => by simp [hf])) hdc hbd.2.1)) rfl ?_; rintro _ _ ⟨rfl,rfl⟩; refine Ab (L2:=(_::_::_)) rfl ?_
 refine Aa (Bw rfl rfl) rfl<|Ea rfl rfl<|Ek12 0 1 4 5 6 14 17 22 28 54 57 79 rfl<|Au ?_
 exact ⟨_,rfl,rfl⟩
open Go Go.Proofs Go.ChangeShapes Go.WideShapes Go.RowKit
theorem starName : "*" ++ "errors.errorString" = "*errors.errorString" := by decide
theorem errRow (u : TypeId) (h : Tryz.prog.typeName? 3 u = some "*errors.errorString") : u = 215 :=
  typeName_ptr_named (nm:= "errors.errorString") (by rw [starName]; kernel_rfl) (by kernel_rfl) (by decide) u (by rw [starName]; exact h)
theorem cellsErr : Tryz.prog.cellsOf 234 = 1 := by kernel_rfl
theorem cellsStr : Tryz.prog.cellsOf 9 = 1 := by kernel_rfl
theorem cellsU8 : Tryz.prog.cellsOf 5 = 1 := by kernel_rfl
abbrev laidErr (text : List UInt8) : DataW Unit := .iface "*errors.errorString" (.ptr (.agg [.lit (.string text)]))
theorem cell_heap {W : World} {b o : Nat} {v : Value} (h : W.cell? ⟨b,o,none⟩ = some v) : cellAt (fun b => W.heap[b]?) b o = some v := by
  unfold World.cell? at h
  unfold cellAt
  dsimp only at h ⊢
  split at h
  · rename_i c t fr hb
    rw [hb]; simpa using h
  · cases h
theorem laid_err {W : World} {n : String} {text : List UInt8} {r : List (String × DataW Unit)} {ps : List MemPlace} {g : Nat} (hg : Tryz.prog.globalNamed n = some g) (ht : (Tryz.prog.globals[g]?).map (·.type) = some 58)
    (h : DataW.LaidVars Tryz.prog W ((n,laidErr text)::r) ps)
    (hrows : ∀ b off,MemPlace.cell b off ∈ ps → (∃ c t,W.heap[b]? = some (.cells c t (0,0))) ∧ ∀ u v,W.cell? ⟨b,off,none⟩ = some (.iface u v) → Value.okWide Tryz.prog W .any 0 u v) :
    ∃ a q,cellAt (fun b => W.heap[b]?) g 0 = some (.iface 215 (.pointer (some a))) ∧ DataW.LaidVars Tryz.prog W r q ∧ ps = MemPlace.cell g 0::(MemPlace.row a 1 ++ q) := by
  obtain ⟨g',t,cs,fuel,p,q,hg',ht',hv,hd,hr,rfl⟩ := h
  obtain rfl := Option.some.inj (hg.symm.trans hg')
  obtain rfl := Option.some.inj (ht.symm.trans ht')
  obtain ⟨l⟩ := cs
  obtain ⟨a,s,rfl,hc,hs,hz,rfl⟩ := errorString_of_trod Tu58 errRow Tryz.underlying215 Tryz.underlying234 rfl rfl Tu9 cellsErr cellsStr hd (fun u v e => by
    subst e
    exact (hrows g 0 (by simp [MemPlace.row])).2 u v (by simpa using World.var?_cell hg hv 0))
  refine ⟨a,q,?_,hr,by simp [MemPlace.row]⟩
  exact cell_heap (by simpa using World.var?_cell hg hv 0)
theorem arg_bytes {H : Type} {enc : TypeId × Value → H} {W : World} {base : Nat} {v1 : Value} {d1 : DataW H} {p1 : List MemPlace} (hval : Value.okWide Tryz.prog W .any base 25 v1)
    (h1 : DataW.Trod enc Tryz.prog W 0 (fun _ => true) true 25 v1 d1 p1) :
    v1 = .slice none 0 0 ∨ (∃ a c,v1 = .slice (some a) 0 c) ∨ ∃ pb po cap,∃ l : List UInt8,v1 = .slice (some ⟨pb,po,none⟩) l.length cap ∧ l.length ≤ cap ∧ KB (fun b => W.heap[b]?) pb po l := by
  obtain ⟨a1,len,cap,rfl⟩ := okWide_slice Tu25 hval
  obtain ⟨fuel,hf⟩ := h1
  rcases open_ints Tu25 Tu5 cellsU8 hf with ⟨hcs,hx⟩ | ⟨a,len',cap',zs,hcs,_,hl,hm,hz,hx,hcell,hwz⟩
  · simp [Value.cells] at hcs
    obtain ⟨rfl,rfl,rfl⟩ := hcs
    exact .inl rfl
  · simp [Value.cells] at hcs
    obtain ⟨rfl,rfl,rfl⟩ := hcs
    simp only [if_true] at hz
    by_cases h0 : len = 0
    · subst h0; exact .inr (.inl ⟨_,_,rfl⟩)
    · right; right
      obtain ⟨ab,ao,spot⟩ := a
      have hspot : spot = none := by simpa [Addr.add] using World.cell?_spot (hcell 0 (by omega))
      subst hspot
      have hlen : ((zs.take len).map fun n => UInt8.ofNat n.toNat).length = len := by simp; omega
      refine ⟨ab,ao,cap,(zs.take len).map fun n => UInt8.ofNat n.toNat,by rw [hlen],by rw [hlen]; exact hl,fun j hj => ?_⟩
      rw [hlen] at hj
      have hcj := hcell j (by omega)
      rw [Addr.add_lit] at hcj
      have hb := range_u8 hwz j
      have e : zs.getD j 0 = zs[j]'(by omega) := by simp [List.getD,List.getElem?_eq_getElem (show j < zs.length by omega)]
      rw [e] at hcj
      rw [← List.getD_eq_getElem?_getD,e] at hb
      have hv : (u8 (((zs.take len).map fun n => UInt8.ofNat n.toNat)[j]'(by rw [hlen]; exact hj))) = .int .u8 zs[j] := by
        have e3 : ((zs.take len).map fun n => UInt8.ofNat n.toNat)[j]'(by rw [hlen]; exact hj) = UInt8.ofNat (zs[j]'(by omega)).toNat := by simp
        have e4 : ((UInt8.ofNat (zs[j]'(by omega)).toNat).toNat : Int) = zs[j]'(by omega) := by rw [UInt8.toNat_ofNat']; omega
        show Value.int .u8 _ = _
        rw [e3,e4]
      rw [hv]
      exact cell_heap hcj
theorem codes_laid {W : World} {d : List (DataW Unit)} {r : List (String × DataW Unit)} {ps : List MemPlace} (hd : d = ordL.map fun n => .lit (.int .i64 (n : Int))) (h : DataW.LaidVars Tryz.prog W (("gzipfiles/pub/flate.codeOrder",.agg d)::r) ps) : Codes (fun b => W.heap[b]?) := by
  subst hd
  obtain ⟨g,t,cs,fuel,p,q,hg,ht,hv,hd,_,_⟩ := h
  obtain rfl := Option.some.inj ((show Tryz.prog.globalNamed "gzipfiles/pub/flate.codeOrder" = some 10 by kernel_rfl).symm.trans hg)
  obtain rfl := Option.some.inj ((show (Tryz.prog.globals[10]?).map (·.type) = some 189 by kernel_rfl).symm.trans ht)
  obtain ⟨xs,m,_,ex,_,hl,hel⟩ := DataW.trod_array Tu189 hd
  have c1 : Tryz.prog.cellsOf 3 = 1 := by kernel_rfl
  refine ⟨fun i hi => ?_⟩
  have hE := hel i hi
  rw [c1,Nat.mul_one,List.getElem?_eq_getElem (by omega)] at hE
  obtain ⟨z,e1,e2,_⟩ := DataW.trod_int Tu3 hE
  have hlen : ordL.length = 19 := rfl
  have e3 : (xs.map (·.1)) = ordL.map fun n => .lit (.int .i64 (n : Int)) := (DataW.agg.inj (Prod.mk.inj ex).1).symm
  have e4 : (xs.map (·.1))[i]? = (ordL.map fun (n : Nat) => (DataW.lit (.int .i64 (n : Int)) : DataW Unit))[i]? := by rw [e3]
  rw [List.getElem?_map,List.getElem?_map,List.getElem?_eq_getElem (by omega : i < xs.length),List.getElem?_eq_getElem (by omega : i < ordL.length),e2] at e4
  have hz : z = ((ordL.getD i 0 : Nat) : Int) := by
    simp only [Option.map_some,Option.some.injEq,DataW.lit.injEq,Lit.int.injEq,true_and] at e4
    rw [e4,List.getD,List.getElem?_eq_getElem (by omega : i < ordL.length)]; rfl
  have hc : W.cell? ⟨10,i,none⟩ = some (.int .i64 z) := by
    rw [World.var?_cell hg hv i]
    have : cs.toList[i]? = some (.int .i64 z) := by
      have h0 : ((cs.toList.drop i).take 1)[0]? = some (.int .i64 z) := by rw [e1]; rfl
      simpa using h0
    simpa using this
  rw [← hz,Nat.zero_add,Nat.mul_one]
  exact cell_heap hc
theorem arg_ba {H : Type} {enc : TypeId × Value → H} {W : World} {base : Nat} {v1 : Value} {d1 : DataW H} {p1 : List MemPlace} (hval : Value.okWide Tryz.prog W .any base 25 v1)
    (h1 : DataW.Trod enc Tryz.prog W 0 (fun _ => true) true 25 v1 d1 p1) : ∃ l a c,v1 = .slice a l.length c ∧ BA (fun b => W.heap[b]?) (.slice a l.length c) l := by
  rcases arg_bytes hval h1 with rfl | ⟨a,c,rfl⟩ | ⟨pb,po,cap,l,rfl,hcap,hp⟩
  · exact ⟨[],none,0,rfl,.inl ⟨rfl,rfl⟩⟩
  · exact ⟨[],some a,c,rfl,.inr (.inl ⟨a,c,rfl,rfl⟩)⟩
  · exact ⟨l,_,_,rfl,.inr (.inr ⟨pb,po,cap,rfl,hcap,hp⟩)⟩
theorem arg_ints {H : Type} {enc : TypeId × Value → H} {W : World} {base : Nat} {v1 : Value} {d1 : DataW H} {p1 : List MemPlace} (hval : Value.okWide Tryz.prog W .any base 23 v1)
    (h1 : DataW.Trod enc Tryz.prog W 0 (fun _ => true) true 23 v1 d1 p1) : ∃ a n c,v1 = .slice a n c ∧ SzA (fun b => W.heap[b]?) (.slice a n c) := by
  obtain ⟨a1,len,cap,rfl⟩ := okWide_slice Tu23 hval
  obtain ⟨fuel,hf⟩ := h1
  have c1 : Tryz.prog.cellsOf 3 = 1 := by kernel_rfl
  rcases open_ints Tu23 Tu3 c1 hf with ⟨hcs,hx⟩ | ⟨a,len',cap',zs,hcs,_,hl,hm,hz,hx,hcell,hwz⟩
  · simp [Value.cells] at hcs
    obtain ⟨rfl,rfl,rfl⟩ := hcs
    exact ⟨_,_,_,rfl,none,0,0,rfl,by decide,.inl rfl⟩
  · simp [Value.cells] at hcs
    obtain ⟨rfl,rfl,rfl⟩ := hcs
    simp only [if_true] at hz
    have hmx : maxLen ≤ 9223372036854775807 := by decide
    by_cases h0 : len = 0
    · exact ⟨_,_,_,rfl,some a,len,cap,rfl,by omega,.inl h0⟩
    · obtain ⟨ab,ao,spot⟩ := a
      have hspot : spot = none := by simpa [Addr.add] using World.cell?_spot (hcell 0 (by omega))
      subst hspot
      refine ⟨_,_,_,rfl,_,len,cap,rfl,by omega,.inr ⟨ab,ao,rfl,fun j hj => ?_⟩⟩
      have hcj := hcell j (by omega)
      rw [Addr.add_lit] at hcj
      rw [Nat.mul_one]
      exact ⟨_,cell_heap hcj⟩
open Go Go.Proofs Go.Proofs.YtbjbmpcgiokdaaaGreatDoor Go.ChangeShapes Go.WideShapes Go.RowKit
theorem gn0 : Tryz.prog.globalNamed "io.ErrShortBuffer" = some 9 := by kernel_rfl
theorem gn1 : Tryz.prog.globalNamed "io.EOF" = some 0 := by kernel_rfl
theorem gn2 : Tryz.prog.globalNamed "io.ErrUnexpectedEOF" = some 8 := by kernel_rfl
theorem gn4 : Tryz.prog.globalNamed "gzipfiles/pub/gogzip.ErrChecksum" = some 2 := by kernel_rfl
theorem gn5 : Tryz.prog.globalNamed "gzipfiles/pub/gogzip.ErrHeader" = some 1 := by kernel_rfl
theorem gt0 : (Tryz.prog.globals[9]?).map (·.type) = some 58 := by kernel_rfl
theorem gt1 : (Tryz.prog.globals[0]?).map (·.type) = some 58 := by kernel_rfl
theorem gt2 : (Tryz.prog.globals[8]?).map (·.type) = some 58 := by kernel_rfl
theorem gt4 : (Tryz.prog.globals[2]?).map (·.type) = some 58 := by kernel_rfl
theorem gt5 : (Tryz.prog.globals[1]?).map (·.type) = some 58 := by kernel_rfl
theorem laid_skip {W : World} {n : String} {d : DataW Unit} {r : List (String × DataW Unit)} {ps : List MemPlace} (h : DataW.LaidVars Tryz.prog W ((n,d)::r) ps) : ∃ p q,DataW.LaidVars Tryz.prog W r q ∧ ps = p ++ q := by
  obtain ⟨g,t,cs,fuel,p,q,_,_,_,_,hr,rfl⟩ := h
  exact ⟨_,q,hr,rfl⟩
def eaOf (a0 a1 a2 a3 a4 : Addr) (k : Fin 5) : Addr := match k with
  | 0 => a0
  | 1 => a1
  | 2 => a2
  | 3 => a3
  | 4 => a4
theorem gssizes : Tryz.prog.globalNamed "gzipfiles/spec.sizes" = some 3 := by kernel_rfl
theorem gusizes : (Tryz.prog.globals[3]?).map (·.type) = some 23 := by kernel_rfl
theorem gsmore : Tryz.prog.globalNamed "gzipfiles/spec.more" = some 4 := by kernel_rfl
theorem gumore : (Tryz.prog.globals[4]?).map (·.type) = some 23 := by kernel_rfl
theorem gsfar : Tryz.prog.globalNamed "gzipfiles/spec.far" = some 5 := by kernel_rfl
theorem gufar : (Tryz.prog.globals[5]?).map (·.type) = some 23 := by kernel_rfl
theorem gsfurther : Tryz.prog.globalNamed "gzipfiles/spec.further" = some 6 := by kernel_rfl
theorem gufurther : (Tryz.prog.globals[6]?).map (·.type) = some 23 := by kernel_rfl
theorem gsorder : Tryz.prog.globalNamed "gzipfiles/spec.order" = some 7 := by kernel_rfl
theorem guorder : (Tryz.prog.globals[7]?).map (·.type) = some 23 := by kernel_rfl
theorem tab_laid {W : World} {n : String} {g : Nat} {l : List Nat} {d : List (DataW Unit)} {r : List (String × DataW Unit)} {ps : List MemPlace} (hn : Tryz.prog.globalNamed n = some g) (hty : (Tryz.prog.globals[g]?).map (·.type) = some 23) (hdd : d = l.map fun n => .lit (.int .i64 (n : Int))) (h0 : 0 < l.length)
    (h : DataW.LaidVars Tryz.prog W ((n,.slice d [])::r) ps) : TabS (fun b => W.heap[b]?) g l ∧ ∃ p q,DataW.LaidVars Tryz.prog W r q ∧ ps = p ++ q := by
  subst hdd
  obtain ⟨g',t,cs,fuel,p,q,hg,ht,hv,hd,hr,rfl⟩ := h
  refine ⟨?_,_,q,hr,rfl⟩
  obtain rfl := Option.some.inj (hn.symm.trans hg)
  obtain rfl := Option.some.inj (hty.symm.trans ht)
  have c1 : Tryz.prog.cellsOf 3 = 1 := by kernel_rfl
  rcases open_ints Tu23 Tu3 c1 hd with ⟨_,hx⟩ | ⟨a,len,cap,zs,hcs,_,hl,hm,hz,hx,hcell,hwz⟩
  · cases (Prod.mk.inj hx).1
  · simp only [if_true] at hz
    obtain ⟨e1,e2⟩ := DataW.slice.inj (Prod.mk.inj hx).1
    have e3 : zs.drop len = [] := by simpa [lits] using e2.symm
    have hlen : len = l.length := by
      have := congrArg List.length e1
      simp only [lits,List.length_map,List.length_take] at this
      omega
    obtain ⟨ab,ao,spot⟩ := a
    have hspot : spot = none := by simpa [Addr.add] using World.cell?_spot (hcell 0 (by omega))
    subst hspot
    refine ⟨ab,ao,cap,?_,fun i hi => ?_⟩
    · rw [← hlen]
      refine cell_heap ?_
      rw [World.var?_cell hg hv 0]
      have : cs.toList[0]? = some (.slice (some ⟨ab,ao,none⟩) len cap) := by rw [hcs]; rfl
      simpa using this
    · have hcj := hcell i (by omega)
      rw [Addr.add_lit] at hcj
      rw [Nat.mul_one]
      refine cell_heap ?_
      rw [hcj]
      have e4 : (lits (H:=Unit) .i64 (zs.take len))[i]? = (l.map fun (n : Nat) => (DataW.lit (.int .i64 (n : Int)) : DataW Unit))[i]? := by rw [← e1]
      simp only [lits,List.getElem?_map] at e4
      rw [List.getElem?_eq_getElem (show i < (zs.take len).length by rw [List.length_take]; omega),List.getElem?_eq_getElem (by omega : i < l.length)] at e4
      simp only [Option.map_some,Option.some.injEq,DataW.lit.injEq,Lit.int.injEq,true_and,List.getElem_take] at e4
      have e5 : zs.getD i 0 = zs[i]'(by omega) := by simp [List.getD,List.getElem?_eq_getElem (show i < zs.length by omega)]
      rw [e5,e4,List.getD,List.getElem?_eq_getElem hi]; rfl
theorem laid_all {W : World} (h : laidMetH Tryz.prog Rows.fnReadAsToldRow.laid W) : (∃ ea,Sents (fun b => W.heap[b]?) ea) ∧ Codes (fun b => W.heap[b]?) ∧ SpT (fun b => W.heap[b]?) := by
  have h' : laidMet Tryz.prog [("gzipfiles/spec.sizes",Rows.laid_gzipfiles_spec_sizes),("gzipfiles/spec.more",Rows.laid_gzipfiles_spec_more),("gzipfiles/spec.far",Rows.laid_gzipfiles_spec_far),("gzipfiles/spec.further",Rows.laid_gzipfiles_spec_further),("gzipfiles/spec.order",Rows.laid_gzipfiles_spec_order),("io.ErrShortBuffer",Rows.laid_io_ErrShortBuffer),("io.EOF",Rows.laid_io_EOF),("io.ErrUnexpectedEOF",Rows.laid_io_ErrUnexpectedEOF),("gzipfiles/pub/flate.codeOrder",Rows.laid_gzipfiles_pub_flate_codeOrder),("gzipfiles/pub/gogzip.ErrChecksum",Rows.laid_gzipfiles_pub_gogzip_ErrChecksum),("gzipfiles/pub/gogzip.ErrHeader",Rows.laid_gzipfiles_pub_gogzip_ErrHeader)] W := h
  obtain ⟨ps,v0,hnd,hrows⟩ := h'
  obtain ⟨t1,p1,s1,v1,rfl⟩ := tab_laid (l:=sizesL) gssizes gusizes rfl (by decide) v0
  obtain ⟨t2,p2,s2,v2,rfl⟩ := tab_laid (l:=moreL) gsmore gumore rfl (by decide) v1
  obtain ⟨t3,p3,s3,v3,rfl⟩ := tab_laid (l:=farL) gsfar gufar rfl (by decide) v2
  obtain ⟨t4,p4,s4,v4,rfl⟩ := tab_laid (l:=furL) gsfurther gufurther rfl (by decide) v3
  obtain ⟨t5,p5,s5,w0,rfl⟩ := tab_laid (l:=ordL) gsorder guorder rfl (by decide) v4
  replace hnd : s5.Nodup := by
    simp only [List.nodup_append] at hnd
    exact hnd.2.1.2.1.2.1.2.1.2.1
  replace hrows : ∀ b off,MemPlace.cell b off ∈ s5 → (∃ c t,W.heap[b]? = some (.cells c t (0,0))) ∧ ∀ u v,W.cell? ⟨b,off,none⟩ = some (.iface u v) → Value.okWide Tryz.prog W .any 0 u v := fun b off hb => hrows b off (by simp [hb])
  obtain ⟨a0,q0,c0,w1,rfl⟩ := laid_err gn0 gt0 w0 hrows
  obtain ⟨a1,q1,c1,w2,rfl⟩ := laid_err gn1 gt1 w1 fun b off hb => hrows b off (by simp [hb])
  obtain ⟨a2,q2,c2,w3,rfl⟩ := laid_err gn2 gt2 w2 fun b off hb => hrows b off (by simp [hb])
  have hcodes := codes_laid rfl w3
  obtain ⟨p3,q3,w4,rfl⟩ := laid_skip w3
  obtain ⟨a4,q4,c4,w5,rfl⟩ := laid_err gn4 gt4 w4 fun b off hb => hrows b off (by simp [hb])
  obtain ⟨a5,q5,c5,w6,rfl⟩ := laid_err gn5 gt5 w5 fun b off hb => hrows b off (by simp [hb])
  have k0 := (hrows a0.block a0.off (by simp [MemPlace.row])).1
  have k1 := (hrows a1.block a1.off (by simp [MemPlace.row])).1
  have k2 := (hrows a2.block a2.off (by simp [MemPlace.row])).1
  have k4 := (hrows a4.block a4.off (by simp [MemPlace.row])).1
  have k5 := (hrows a5.block a5.off (by simp [MemPlace.row])).1
  have n15 : a1 ≠ a5 := by rintro rfl; simp [MemPlace.row,List.nodup_append] at hnd
  have n14 : a1 ≠ a4 := by rintro rfl; simp [MemPlace.row,List.nodup_append] at hnd
  have n12 : a1 ≠ a2 := by rintro rfl; simp [MemPlace.row,List.nodup_append] at hnd
  have n10 : a0 ≠ a1 := by rintro rfl; simp [MemPlace.row,List.nodup_append] at hnd
  have n54 : a4 ≠ a5 := by rintro rfl; simp [MemPlace.row,List.nodup_append] at hnd
  have n52 : a2 ≠ a5 := by rintro rfl; simp [MemPlace.row,List.nodup_append] at hnd
  have n50 : a0 ≠ a5 := by rintro rfl; simp [MemPlace.row,List.nodup_append] at hnd
  have n42 : a2 ≠ a4 := by rintro rfl; simp [MemPlace.row,List.nodup_append] at hnd
  have n40 : a0 ≠ a4 := by rintro rfl; simp [MemPlace.row,List.nodup_append] at hnd
  have n20 : a0 ≠ a2 := by rintro rfl; simp [MemPlace.row,List.nodup_append] at hnd
  refine ⟨?_,hcodes,t5,t1,t2,t3,t4⟩
  refine ⟨eaOf a1 a5 a4 a2 a0,fun k => ?_,fun j k e => ?_,c1,c5,c4,c2,c0⟩
  · match k with
    | 0 => exact k1
    | 1 => exact k5
    | 2 => exact k4
    | 3 => exact k2
    | 4 => exact k0
  · match j,k,e with
    | 0,0,_ => rfl
    | 1,1,_ => rfl
    | 2,2,_ => rfl
    | 3,3,_ => rfl
    | 4,4,_ => rfl
    | 0,1,e => exact absurd e n15
    | 0,2,e => exact absurd e n14
    | 0,3,e => exact absurd e n12
    | 0,4,e => exact absurd (Eq.symm e) n10
    | 1,0,e => exact absurd (Eq.symm e) n15
    | 1,2,e => exact absurd (Eq.symm e) n54
    | 1,3,e => exact absurd (Eq.symm e) n52
    | 1,4,e => exact absurd (Eq.symm e) n50
    | 2,0,e => exact absurd (Eq.symm e) n14
    | 2,1,e => exact absurd e n54
    | 2,3,e => exact absurd (Eq.symm e) n42
    | 2,4,e => exact absurd (Eq.symm e) n40
    | 3,0,e => exact absurd (Eq.symm e) n12
    | 3,1,e => exact absurd e n52
    | 3,2,e => exact absurd e n42
    | 3,4,e => exact absurd (Eq.symm e) n20
    | 4,0,e => exact absurd e n10
    | 4,1,e => exact absurd e n50
    | 4,2,e => exact absurd e n40
    | 4,3,e => exact absurd e n20
theorem To.below {K : Known} {w w' : World} {L' : Frags} (h : To K w [] w' L') : Below w.heap.size w w' :=
  ⟨h.os,h.tape,h.output,h.size,fun k hk => h.old k hk fun f hf => by cases hf⟩
theorem agree_all (w : World) : Agree (fun b => w.heap[b]?) [] w.heap :=
  ⟨fun _ _ h => h,(fun f hf => by cases hf),(fun f hf => by cases hf),List.Pairwise.nil⟩
section
variable {H : Type} {enc : TypeId × Value → H} {P : Program} {W W' : World}
theorem trodAll_stays (hl : laidOutB P = true) {sp : Nat → Bool} : ∀ {ts : List TypeId} {vs : List Value} {ds : List (DataW H)} {ps : List MemPlace},(∀ t ∈ ts,P.readableRec t = true ∧ t < P.types.size) →
    DataW.TrodAll enc P W 0 (fun _ => true) true ts vs ds ps → (∀ p ∈ ps,W.sameAt W' p) → (∀ p ∈ ps,sp p.block = true) → DataW.TrodAll enc P W' 0 sp true ts vs ds ps
  | [],[],[],_,_,h,_,_ => h
  | t::ts,v::vs,d::ds,_,ht,⟨p,q,h1,h2,e⟩,hs,hp => by
    subst e
    exact ⟨p,q,WideElems.Trod_stays hl (ht t (by simp)).1 (ht t (by simp)).2 h1 (fun x hx => hs x (by simp [hx])) (fun x hx => hp x (by simp [hx])),
      trodAll_stays hl (fun t h => ht t (by simp [h])) h2 (fun x hx => hs x (by simp [hx])) (fun x hx => hp x (by simp [hx])),rfl⟩
theorem post_true {f : Func} {s : ChangeSpec} {args : Array Value} {ds gs : List (DataW H)} {before : List MemPlace} {bt : TypeId} (hl : laidOutB P = true)
    (hts : ∀ t ∈ f.params.toList,P.readableRec t = true ∧ t < P.types.size) (hbool : P.underlying bt = some .bool) (hres : f.resultTypes = #[bt]) (hsv : s.vars = [])
    (hfn : s.fn H (ds ++ gs) = { results := [.lit (.bool true)],args := ds,vars := [] }) (hW : DataW.Whole enc P f.params.toList s.vars false W args.toList ds gs before) (hb : Below W.heap.size W W') :
    s.post enc P f false true false false W args (.bool true) W' := by
  have hW' := hW
  obtain ⟨p,q,hA,hV,rfl,hfz,hnd⟩ := hW
  rw [hsv] at hV
  obtain ⟨rfl,rfl⟩ := trodVars_none hV
  have hlt : ∀ x ∈ p,x.block < W.heap.size := fun x hx => by simpa using hW'.lt x (by simp [hx])
  refine ⟨ds,[],p ++ [],[],p,[],hW',?_,?_,?_,hb.frame _,fun h => by cases h⟩
  · rw [hres,hfn]
    exact trodAll_cons_mk (shut_bool hbool _) trodAll_mk0
  · rw [hfn]
    exact trodAll_stays hl hts hA (fun x hx => hb.same (hlt x hx)) (fun x hx => by simpa using hlt x hx)
  · rw [hfn,hsv]
    exact rfl
end
theorem ownD : ownKnob Tryz.prog.godebug = none := by kernel_rfl
theorem laidOutD : laidOutB Tryz.prog = true := by kernel_rfl
def intS (l : List Nat) : Obj := .cells (l.map fun (n : Nat) => Value.int .i64 (n : Int)).toArray 3
def errS (l : List UInt8) : Obj := .cells #[.string ⟨l.toArray⟩] 234
noncomputable def lowD : Nat := (World.holding Tryz.prog default ⟨#[],#[],[]⟩).heap.size
def layErr (g : Nat) (b : Nat) (H : Array Obj) : Array Obj := H.modify g fun
  | .cells _ t frozen => .cells #[.iface 215 (.pointer (some ⟨b,0,none⟩))] t frozen
  | o => o
def layInts (g : Nat) (l : List Int) (H : Array Obj) : Array Obj := H.modify g fun
  | .cells _ t frozen => .cells (l.map fun n => Value.int .i64 n).toArray t frozen
  | o => o
def laySl (g : Nat) (b n : Nat) (H : Array Obj) : Array Obj := H.modify g fun
  | .cells _ t frozen => .cells #[.slice (some ⟨b,0,none⟩) n n] t frozen
  | o => o
noncomputable def laidWorldZ (os : Os) : World :=
  let w0 := World.holding Tryz.prog os ⟨#[errS [115,104,111,114,116,32,98,117,102,102,101,114],errS [69,79,70],errS [117,110,101,120,112,101,99,116,101,100,32,69,79,70],
    errS [103,122,105,112,58,32,105,110,118,97,108,105,100,32,99,104,101,99,107,115,117,109],errS [103,122,105,112,58,32,105,110,118,97,108,105,100,32,104,101,97,100,101,114],intS sizesL,intS moreL,intS farL,intS furL,intS ordL],#[],[]⟩
  { w0 with heap := laySl 3 (lowD + 5) 29 (laySl 4 (lowD + 6) 29 (laySl 5 (lowD + 7) 30 (laySl 6 (lowD + 8) 30 (laySl 7 (lowD + 9) 19 (layErr 9 lowD (layErr 0 (lowD + 1) (layErr 8 (lowD + 2) (layErr 2 (lowD + 3) (layErr 1 (lowD + 4)
    (layInts 10 [16,17,18,0,8,7,9,6,10,5,11,4,12,3,13,2,14,1,15] w0.heap)))))))))) }
theorem laid_metZ (os : Os) (args : Array Value) : laidMet Tryz.prog Rows.fnReadAsToldRow.laid ((laidWorldZ os).forCall (fun _ _ => 0) ⟨#[],args,[]⟩).memory :=
  laidMet_of_run' 8 (by kernel_rfl) (by kernel_rfl)
end Go.Eng
