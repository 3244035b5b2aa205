/-
  Texts of this proof,merged: Dst,WFl9,Step,WFlA,WFlD,WGh,Zip,WGi,WGj.
-/
import Derived.Test.YtbjbmpcgiokdaaaDoorMp4
import Derived.Test.YtbjbmpcgiokdaaaDoorMp2
set_option linter.unusedVariables false
set_option linter.unusedSimpArgs false
namespace Go.Eng
open Go Go.Proofs
set_option maxRecDepth 100000

/-! ### All of the output begins with what was told -/

theorem copyN_pre (out : List UInt8) (d : Nat) : ∀ n,∃ s,copyN out d n = out ++ s
  | 0 => ⟨[],(List.append_nil _).symm⟩
  | n + 1 => by
    obtain ⟨s,hs⟩ := copyN_pre out d n
    exact ⟨s ++ [(copyN out d n).getD ((copyN out d n).length - d) 0],by rw [copyN,hs,List.append_assoc]⟩

theorem run_pre_aux (D : List UInt8) : ∀ k ph out p,8 * D.length - p < k → ∃ s,(run D ph out p).1 = out ++ s := by
  intro k
  induction k with
  | zero => exact fun ph out p hk => absurd hk (Nat.not_lt_zero _)
  | succ k ih =>
    intro ph out p hk
    have nl : ∀ s,∃ s',out ++ s = out ++ s' := fun s => ⟨s,rfl⟩
    have n0 : ∃ s',out = out ++ s' := ⟨[],(List.append_nil _).symm⟩
    have st : ∀ ph s p2,p < p2 ∧ p2 ≤ 8 * D.length → ∃ s',(run D ph (out ++ s) p2).1 = out ++ s' := fun ph s p2 h => by
      obtain ⟨s',hs⟩ := ih ph (out ++ s) p2 (by omega)
      exact ⟨s ++ s',by rw [hs,List.append_assoc]⟩
    have s0 : ∀ ph p2,p < p2 ∧ p2 ≤ 8 * D.length → ∃ s',(run D ph out p2).1 = out ++ s' := fun ph p2 h => ih ph out p2 (by omega)
    have cp : ∀ ph d n p2,p < p2 ∧ p2 ≤ 8 * D.length → ∃ s',(run D ph (copyN out d n) p2).1 = out ++ s' := fun ph d n p2 h => by
      obtain ⟨s,hs⟩ := copyN_pre out d n
      rw [hs]; exact st _ _ _ h
    rw [run.eq_def]
    repeat (first
      | exact n0
      | exact nl _
      | (rename_i h; exact st _ _ _ h)
      | (rename_i h; exact s0 _ _ h)
      | (rename_i h; exact cp _ _ _ _ h)
      | split)

theorem run_pre (D : List UInt8) (ph : Ph) (out : List UInt8) (p : Nat) : ∃ s,(run D ph out p).1 = out ++ s := run_pre_aux D _ ph out p (Nat.le_refl _)
theorem stored_pre (D : List UInt8) (last : Bool) (n : Nat) (out : List UInt8) (q : Nat) : ∃ s,(stored D last n out q).1 = out ++ s := by
  unfold stored
  split
  · exact ⟨_,rfl⟩
  · split
    · exact ⟨_,rfl⟩
    · obtain ⟨s,hs⟩ := run_pre D .next (out ++ (D.drop q).take n) (8 * (q + n))
      exact ⟨(D.drop q).take n ++ s,by rw [hs,List.append_assoc]⟩

/-! ### What is read out of the window -/

theorem TR.drop {hb n : Nat} {h pend : List UInt8} {a : Option Addr} {c : Nat} (t : TR hb h pend (.slice a pend.length c)) (hn : n ≤ pend.length) {a2 : Option Addr} {c2 : Nat} (ha : ∀ off,a = some ⟨hb,off,none⟩ → n < pend.length → pend.length ≤ c → a2 = some ⟨hb,off + n,none⟩ ∧ pend.length - n ≤ c2) :
    TR hb h (pend.drop n) (.slice a2 (pend.length - n) c2) := by
  obtain ⟨a',c',e,h1,h2⟩ := t
  cases e
  refine ⟨a2,c2,by rw [List.length_drop],by rw [List.length_drop]; omega,?_⟩
  rcases Nat.lt_or_ge n pend.length with hlt | hge
  · right
    rcases h2 with rfl | ⟨off,e2,h3,h5⟩
    · simp at hlt
    · refine ⟨off + n,(ha off e2 hlt h5).1,?_,by rw [List.length_drop]; exact (ha off e2 hlt h5).2⟩
      have h4 : ((h.drop off).take pend.length).drop n = pend.drop n := by rw [h3]
      rw [List.drop_take] at h4
      rw [List.length_drop,← List.drop_drop]
      exact h4
  · exact .inl (List.drop_eq_nil_of_le hge)

/-- n of the waiting bytes are given. -/
theorem WinSt.give {fb hb gv n : Nat} {out pend : List UInt8} {trv trv2 : Value} {h : List UInt8} {wr rd : Nat} {full : Bool} {A B : Frag} (W : WinSt fb hb gv out pend trv h wr rd full A B) (hn : n ≤ pend.length) (ht : TR hb h (pend.drop n) trv2) :
    WinSt fb hb (gv + n) out (pend.drop n) trv2 h wr rd full A B := by
  refine ⟨W.hist,W.rdLe,W.wrLt,?_,?_,ht,W.isA,W.isB⟩
  · have := W.sum
    rw [List.length_drop]; omega
  · have := W.pendIs
    rw [List.length_drop,← List.drop_drop,← List.drop_take,← this]

/-! ### The rest of a decompressor -/

/-- With both decoders raw. -/
def RawTL (fb : Nat) (TL : Frags) : Prop :=
  ∃ ab cb ws av cs c1 c2,ws.length = 4 ∧ av.length = 316 ∧ cs.length = 19 ∧ RawH c1 ∧ RawH c2 ∧ TL = [⟨fb,1041,ws⟩,⟨fb,1035,[.pointer (some ⟨ab,0,none⟩),.pointer (some ⟨cb,0,none⟩)]⟩,⟨ab,0,av⟩,⟨cb,0,cs⟩,⟨fb,5,c1⟩,⟨fb,520,c2⟩]
/-- With decoders that are of no use any more. -/
def JunkTL (fb : Nat) (TL : Frags) : Prop :=
  ∃ ab cb ws av cs c1 c2,ws.length = 4 ∧ av.length = 316 ∧ cs.length = 19 ∧ c1.length = 515 ∧ c2.length = 515 ∧ TL = [⟨fb,1041,ws⟩,⟨fb,1035,[.pointer (some ⟨ab,0,none⟩),.pointer (some ⟨cb,0,none⟩)]⟩,⟨ab,0,av⟩,⟨cb,0,cs⟩,⟨fb,5,c1⟩,⟨fb,520,c2⟩]
/-- With the tables of a block. -/
def SymTL (fb : Nat) (t : Tabs) (hl hd : Value) (TL : Frags) : Prop :=
  ∃ ab cb ws av cs lb lo hp HL HD RT,ws.length = 4 ∧ av.length = 316 ∧ cs.length = 19 ∧ hl = .pointer (some ⟨lb,lo,none⟩) ∧ hd = .pointer hp ∧ LitT t lb lo HL ∧ DistT t hp HD ∧
    TL = ⟨fb,1041,ws⟩::⟨fb,1035,[.pointer (some ⟨ab,0,none⟩),.pointer (some ⟨cb,0,none⟩)]⟩::⟨ab,0,av⟩::⟨cb,0,cs⟩::(RT ++ (HL ++ HD)) ∧
    ∃ c1 c2 J,RawH c1 ∧ RawH c2 ∧ ∀ G,Same (G ++ (RT ++ (HL ++ HD))) ((G ++ [⟨fb,5,c1⟩,⟨fb,520,c2⟩]) ++ J)

theorem RawTL.junk {fb : Nat} {TL : Frags} (h : RawTL fb TL) : JunkTL fb TL := by
  obtain ⟨ab,cb,ws,av,cs,c1,c2,h1,h2,h3,h4,h5,h6⟩ := h
  exact ⟨ab,cb,ws,av,cs,c1,c2,h1,h2,h3,raw_len h4,raw_len h5,h6⟩
theorem SymTL.raw {fb : Nat} {t : Tabs} {hl hd : Value} {TL : Frags} (h : SymTL fb t hl hd TL) (G : Frags) : ∃ TL2 J,RawTL fb TL2 ∧ Same (G ++ TL) ((G ++ TL2) ++ J) := by
  obtain ⟨ab,cb,ws,av,cs,lb,lo,hp,HL,HD,RT,h1,h2,h3,h4,h5,h6,h7,rfl,c1,c2,J,h8,h9,hS⟩ := h
  refine ⟨[_,_,_,_,_,_],J,⟨ab,cb,ws,av,cs,c1,c2,h1,h2,h3,h8,h9,rfl⟩,?_⟩
  have := hS (G ++ [⟨fb,1041,ws⟩,⟨fb,1035,[.pointer (some ⟨ab,0,none⟩),.pointer (some ⟨cb,0,none⟩)]⟩,⟨ab,0,av⟩,⟨cb,0,cs⟩])
  simpa only [List.append_assoc,List.cons_append,List.nil_append] using this

/-- The tables of a block with codes of its own. -/
theorem symTL_own {fb ab cb : Nat} {t : Tabs} {HL HD : Frags} {ws av cs : List Value} (h1 : ws.length = 4) (h2 : av.length = 316) (h3 : cs.length = 19) (hL : LitT t fb 5 HL) (hD : DistT t (some ⟨fb,520,none⟩) HD) :
    SymTL fb t (.pointer (some ⟨fb,5,none⟩)) (.pointer (some ⟨fb,520,none⟩)) (⟨fb,1041,ws⟩::⟨fb,1035,[.pointer (some ⟨ab,0,none⟩),.pointer (some ⟨cb,0,none⟩)]⟩::⟨ab,0,av⟩::⟨cb,0,cs⟩::(HL ++ HD)) := by
  obtain ⟨c1,J1,r1,s1⟩ := huf_raw hL.huf
  obtain ⟨c2,J2,r2,s2⟩ : ∃ c2 J2,RawH c2 ∧ ∀ F,Same (HD ++ F) (⟨fb,520,c2⟩::(J2 ++ F)) := by
    rcases hD with ⟨h,_⟩ | ⟨db,dO,e,hh,_⟩
    · cases h
    · cases e; exact huf_raw hh
  refine ⟨ab,cb,ws,av,cs,fb,5,_,HL,HD,[],h1,h2,h3,rfl,rfl,hL,hD,rfl,c1,c2,J1 ++ J2,r1,r2,fun G => ?_⟩
  refine (Same.appendL G (s1 HD)).trans ?_
  have p1 : (G ++ (⟨fb,5,c1⟩::(J1 ++ HD))).Perm (HD ++ (G ++ (⟨fb,5,c1⟩::J1))) := by
    rw [show G ++ (⟨fb,5,c1⟩::(J1 ++ HD)) = (G ++ (⟨fb,5,c1⟩::J1)) ++ HD by simp]
    exact List.perm_append_comm
  refine (Same.perm p1).trans ((s2 _).trans (Same.perm ?_))
  have p2 : (⟨fb,520,c2⟩::(J2 ++ (G ++ (⟨fb,5,c1⟩::J1)))).Perm (⟨fb,520,c2⟩::((G ++ (⟨fb,5,c1⟩::J1)) ++ J2)) := .cons _ List.perm_append_comm
  refine p2.trans ?_
  rw [show ((G ++ [⟨fb,5,c1⟩,⟨fb,520,c2⟩]) ++ (J1 ++ J2)) = (G ++ [⟨fb,5,c1⟩]) ++ (⟨fb,520,c2⟩::(J1 ++ J2)) by simp]
  refine List.Perm.trans ?_ List.perm_middle.symm
  rw [show (G ++ (⟨fb,5,c1⟩::J1)) ++ J2 = (G ++ [⟨fb,5,c1⟩]) ++ (J1 ++ J2) by simp]
/-- The tables of a block with the fixed codes. -/
theorem symTL_fix {fb ab cb qb : Nat} {HL : Frags} {t : Tabs} {ws av cs c1 c2 : List Value} (h1 : ws.length = 4) (h2 : av.length = 316) (h3 : cs.length = 19) (r1 : RawH c1) (r2 : RawH c2) (hL : LitT t qb 0 HL) (hD : DistT t none []) :
    SymTL fb t (.pointer (some ⟨qb,0,none⟩)) (.pointer none) (⟨fb,1041,ws⟩::⟨fb,1035,[.pointer (some ⟨ab,0,none⟩),.pointer (some ⟨cb,0,none⟩)]⟩::⟨ab,0,av⟩::⟨cb,0,cs⟩::⟨fb,5,c1⟩::⟨fb,520,c2⟩::HL) :=
  ⟨ab,cb,ws,av,cs,qb,0,_,HL,[],[⟨fb,5,c1⟩,⟨fb,520,c2⟩],h1,h2,h3,rfl,rfl,hL,hD,by rw [List.append_nil]; rfl,c1,c2,HL,r1,r2,fun G => by
    rw [List.append_nil,List.append_assoc]; exact Same.refl _⟩

/-! ### A decompressor between two steps -/

/-- All of a decompressor; m tells how far it is from its end. -/
def DecSt {K : Known} {ea : Fin 5 → Addr} (src : Src K ea) (dt : List UInt8) (fb hb : Nat) (R : ResR) (gv : Nat) (pend : List UInt8) (m : Nat) (x1 x2 x3 A T W H : Frag) (TL : Frags) : Prop :=
  (∃ p,m = 8 * dt.length - p + 1 ∧ NextSt src dt fb hb R gv pend p x1 x2 x3 A T W H ∧ RawTL fb TL) ∨
  (m = 8 * dt.length + 2 ∧ ∃ t last hl hd,SymSt src dt fb hb R gv pend t last hl hd 74 x1 x2 x3 A T W H ∧ SymTL fb t hl hd TL) ∨
  (m = 8 * dt.length + 2 ∧ ∃ q,StorSt src dt fb hb R gv pend q x1 x2 x3 A T W H ∧ RawTL fb TL) ∨
  (m = 0 ∧ EndSt src dt fb hb R gv pend x1 x2 x3 A T W H ∧ JunkTL fb TL)

/-- What a step makes of it: there is something to read,or it is nearer to its end. -/
def StepEnd {K : Known} {ea : Fin 5 → Addr} (src : Src K ea) (dt : List UInt8) (fb hb : Nat) (R : ResR) (gv m : Nat) (r : Value) (L : Frags) : Prop :=
  r = .tuple #[] ∧ ∃ pend m2 y1 y2 y3 A T W H TL,(pend ≠ [] ∨ m2 < m) ∧ DecSt src dt fb hb R gv pend m2 y1 y2 y3 A T W H TL ∧ L = y1::y2::y3::A::T::W::H::TL

/-- What the code sees of it. -/
structure DecV {K : Known} {ea : Fin 5 → Addr} (src : Src K ea) (dt : List UInt8) (fb hb : Nat) (R : ResR) (gv : Nat) (pend : List UInt8) (m : Nat) (x1 x2 x3 A T W H : Frag) (TL : Frags) (er : Er) (fv c1 c2 c5 c6 c7 c8 trv : Value) (h : List UInt8) (wr rd : Nat) (full : Bool) : Prop where
  isT : T = ⟨fb,1045,[fv,c1,c2,Er.val ea er,trv,c5,c6,c7,c8]⟩
  isW : W = ⟨fb,1037,[.slice (some ⟨hb,0,none⟩) 32768 32768,.int .i64 ((wr : Nat) : Int),.int .i64 ((rd : Nat) : Int),.bool full]⟩
  isH : H = ⟨hb,0,bytesV h⟩
  len : h.length = 32768
  rdLe : rd ≤ wr
  wrLt : wr < 32768
  tr : TR hb h pend trv
  gvLe : gv + pend.length ≤ R.1.length
  pendIs : pend = (R.1.drop gv).take pend.length
  kind : (er = .none ∧ 0 < m ∧ ∃ k,fv = .func (.func k) #[] #[] ∧ (k = 67 ∨ k = 74 ∨ k = 79)) ∨ (er ≠ .none ∧ m = 0 ∧ EndOk src dt R.2 er x1 x2 x3 ∧ (pend = [] ∨ gv + pend.length = R.1.length))
  give : ∀ n trv2,n ≤ pend.length → TR hb h (pend.drop n) trv2 → DecSt src dt fb hb R (gv + n) (pend.drop n) m x1 x2 x3 A ⟨fb,1045,[fv,c1,c2,Er.val ea er,trv2,c5,c6,c7,c8]⟩ W H TL
  flush : ∀ v A2,er ≠ .none → pend = [] → FlushEnd fb 1037 hb wr rd full v A2 → DecSt src dt fb hb R gv (R.1.drop gv) 0 x1 x2 x3 A ⟨fb,1045,[fv,c1,c2,Er.val ea er,v,c5,c6,c7,c8]⟩ A2 H TL

theorem WinSt.facts {fb hb gv : Nat} {out pend : List UInt8} {trv : Value} {h : List UInt8} {wr rd : Nat} {full : Bool} {A B : Frag} (W : WinSt fb hb gv out pend trv h wr rd full A B) {r s : List UInt8} (hr : r = out ++ s) :
    h.length = 32768 ∧ gv + pend.length ≤ r.length ∧ pend = (r.drop gv).take pend.length := by
  have hs := W.sum
  have hl := W.hist.len
  refine ⟨hl,by rw [hr,List.length_append]; omega,?_⟩
  have := W.pendIs
  rw [hr,List.drop_append_of_le_length (by omega),List.take_append_of_le_length (by rw [List.length_drop]; omega),← this]

theorem endOk_ne {K : Known} {ea : Fin 5 → Addr} {src : Src K ea} {dt : List UInt8} {e : EndR} {er : Er} {x1 x2 x3 : Frag} (h : EndOk src dt e er x1 x2 x3) : er ≠ .none := by
  rcases h with ⟨q,_,rfl,_⟩ | ⟨_,h,_⟩
  · intro h; cases h
  · exact h.2

theorem DecSt.view {K : Known} {ea : Fin 5 → Addr} {src : Src K ea} {dt : List UInt8} {fb hb : Nat} {R : ResR} {gv : Nat} {pend : List UInt8} {m : Nat} {x1 x2 x3 A T W H : Frag} {TL : Frags} (D : DecSt src dt fb hb R gv pend m x1 x2 x3 A T W H TL) :
    ∃ er fv c1 c2 c5 c6 c7 c8 trv h wr rd full,DecV src dt fb hb R gv pend m x1 x2 x3 A T W H TL er fv c1 c2 c5 c6 c7 c8 trv h wr rd full := by
  rcases D with ⟨p,rfl,⟨q,nb,out,trv,h,wr,rd,full,ss,fin,hl,hd,cl,cd,hh,hn,hW,rfl,hss,hR⟩,hT⟩ | ⟨rfl,t,last,hl,hd,⟨p,q,nb,out,trv,h,wr,rd,full,ss,cl,cd,hh,hn,hW,rfl,hR⟩,hT⟩ | ⟨rfl,q,⟨out,trv,h,wr,rd,full,ss,last,hl,hd,cl,cd,hh,hW,rfl,hss,hcl,hR⟩,hT⟩ | ⟨rfl,⟨out,e,er,trv,h,wr,rd,full,hE,hA,hW,⟨a,b,c,d,f,g,i,rfl⟩,hR,hall⟩,hT⟩
  · obtain ⟨s,hs⟩ := run_pre dt .next out p
    rw [← hR] at hs
    have hf := hW.facts hs
    exact ⟨.none,_,_,_,_,_,_,_,trv,h,wr,rd,full,rfl,hW.isA,hW.isB,hf.1,hW.rdLe,hW.wrLt,hW.tr,hf.2.1,hf.2.2,.inl ⟨rfl,by omega,_,rfl,.inl rfl⟩,
      fun n trv2 hn2 ht => .inl ⟨p,rfl,⟨q,nb,out,trv2,h,wr,rd,full,ss,fin,hl,hd,cl,cd,hh,hn,hW.give hn2 ht,rfl,hss,hR⟩,hT⟩,fun v A2 h1 => absurd rfl h1⟩
  · obtain ⟨s,hs⟩ : ∃ s,R.1 = out ++ s := by
      rcases hR with ⟨_,hR⟩ | ⟨_,_,_,_,hR⟩
      · rw [hR]; exact run_pre _ _ _ _
      · rw [hR]
        obtain ⟨s1,h1⟩ := copyN_pre out cd cl
        obtain ⟨s2,h2⟩ := run_pre dt (.sym last t) (copyN out cd cl) p
        exact ⟨s1 ++ s2,by rw [h2,h1,List.append_assoc]⟩
    have hf := hW.facts hs
    exact ⟨.none,_,_,_,_,_,_,_,trv,h,wr,rd,full,rfl,hW.isA,hW.isB,hf.1,hW.rdLe,hW.wrLt,hW.tr,hf.2.1,hf.2.2,.inl ⟨rfl,by omega,_,rfl,.inr (.inl rfl)⟩,
      fun n trv2 hn2 ht => .inr (.inl ⟨rfl,t,last,hl,hd,⟨p,q,nb,out,trv2,h,wr,rd,full,ss,cl,cd,hh,hn,hW.give hn2 ht,rfl,hR⟩,hT⟩),fun v A2 h1 => absurd rfl h1⟩
  · obtain ⟨s,hs⟩ := stored_pre dt last cl out q
    rw [← hR] at hs
    have hf := hW.facts hs
    exact ⟨.none,_,_,_,_,_,_,_,trv,h,wr,rd,full,rfl,hW.isA,hW.isB,hf.1,hW.rdLe,hW.wrLt,hW.tr,hf.2.1,hf.2.2,.inl ⟨rfl,by omega,_,rfl,.inr (.inr rfl)⟩,
      fun n trv2 hn2 ht => .inr (.inr (.inl ⟨rfl,q,⟨out,trv2,h,wr,rd,full,ss,last,hl,hd,cl,cd,hh,hW.give hn2 ht,rfl,hss,hcl,hR⟩,hT⟩)),fun v A2 h1 => absurd rfl h1⟩
  · subst hR
    have hf := hW.facts (r := out) (s := []) (List.append_nil _).symm
    have hsum := hW.sum
    have hrd := hW.rdLe
    refine ⟨er,_,_,_,_,_,_,_,trv,h,wr,rd,full,rfl,hW.isA,hW.isB,hf.1,hW.rdLe,hW.wrLt,hW.tr,hf.2.1,hf.2.2,.inr ⟨endOk_ne hE,rfl,hE,hall.imp id fun h => by subst h; simp only; omega⟩,
      fun n trv2 hn2 ht => .inr (.inr (.inr ⟨rfl,⟨out,e,er,trv2,h,wr,rd,full,hE,hA,hW.give hn2 ht,⟨_,_,_,_,_,_,_,rfl⟩,rfl,hall.imp (fun h => by rw [h]; exact List.drop_nil) id⟩,hT⟩)),fun v A2 h1 h2 hfl => ?_⟩
    subst h2
    obtain ⟨wr2,full2,hW2,_,_⟩ := WinSt.flush (gv := gv) hW.hist hrd (by simpa using hsum) hfl
    exact .inr (.inr (.inr ⟨rfl,⟨out,e,er,v,h,wr2,wr2,full2,hE,hA,by rw [hW.isB]; exact hW2,⟨_,_,_,_,_,_,_,rfl⟩,rfl,.inr rfl⟩,hT⟩))
end Go.Eng
namespace Go.Eng
open Go Go.Proofs
set_option maxRecDepth 100000

set_option maxHeartbeats 1000000
theorem TR.nilv {hb : Nat} {h : List UInt8} {v : Value} (t : TR hb h [] v) : ∃ a c,v = .slice a 0 c := by
  obtain ⟨a,c,e,_⟩ := t
  exact ⟨a,c,e⟩

section
variable {D : List UInt8} {out : List UInt8} {p : Nat}
theorem run_next_short (h : left D p < 3) : run D .next out p = (out,.bad) := by rw [run,if_pos h]
theorem run_next0 (h3 : ¬ left D p < 3) (h : takeB D (p + 1) 2 = 0) : run D .next out p = storR D (decide (takeB D p 1 = 1)) out ((p + 3 + 7) / 8) := by
  rw [run,storR,if_neg h3,if_pos h]
  cases hs : storedN D ((p + 3 + 7) / 8) with
  | none => rfl
  | some n =>
    simp only [stored]
    split
    · rfl
    · rename_i h4
      by_cases h1 : takeB D p 1 = 1
      · simp only [h1,decide_true,if_true]
      · rw [if_neg h1,dif_pos ⟨by omega,by omega⟩]
        simp [h1]
theorem run_next1 (h3 : ¬ left D p < 3) (h : takeB D (p + 1) 2 = 1) : run D .next out p = run D (.sym (decide (takeB D p 1 = 1)) fixT) out (p + 3) := by
  have hg : p < p + 3 ∧ p + 3 ≤ 8 * D.length := by unfold left at h3; omega
  obtain ⟨r,hr⟩ : ∃ r,r = run D (.sym (decide (takeB D p 1 = 1)) fixT) out (p + 3) := ⟨_,rfl⟩
  rw [← hr,run]
  rw [if_neg h3,if_neg (by omega),if_pos h,dif_pos hg,hr]
theorem run_next2n (h3 : ¬ left D p < 3) (h : takeB D (p + 1) 2 = 2) (hd : dynR D (p + 3) = none) : run D .next out p = (out,.bad) := by
  rw [run]
  rw [if_neg h3,if_neg (by omega),if_neg (by omega),if_pos h,hd]
theorem run_next2 (h3 : ¬ left D p < 3) (h : takeB D (p + 1) 2 = 2) {t : Tabs} {p2 : Nat} (hd : dynR D (p + 3) = some (t,p2)) (hg : p < p2 ∧ p2 ≤ 8 * D.length) : run D .next out p = run D (.sym (decide (takeB D p 1 = 1)) t) out p2 := by
  obtain ⟨r,hr⟩ : ∃ r,r = run D (.sym (decide (takeB D p 1 = 1)) t) out p2 := ⟨_,rfl⟩
  rw [← hr,run]
  rw [if_neg h3,if_neg (by omega),if_neg (by omega),if_pos h,hd]
  simp only
  rw [dif_pos hg,hr]
theorem run_next3 (h3 : ¬ left D p < 3) (h0 : takeB D (p + 1) 2 ≠ 0) (h1 : takeB D (p + 1) 2 ≠ 1) (h2 : takeB D (p + 1) 2 ≠ 2) : run D .next out p = (out,.bad) := by
  rw [run]
  rw [if_neg h3,if_neg h0,if_neg h1,if_neg h2]
end
theorem lensGo_ge {D : List UInt8} {cl : List Nat} {n : Nat} : ∀ k acc p all p2,n - acc.length ≤ k → lensGo D cl n acc p = some (all,p2) → p ≤ p2 := by
  intro k
  induction k with
  | zero =>
    intro acc p all p2 hk h
    rw [lensGo,dif_neg (by omega)] at h
    simp only [Option.some.injEq,Prod.mk.injEq] at h
    omega
  | succ k ih =>
    intro acc p all p2 hk h
    rw [lensGo] at h
    split at h
    · split at h
      · cases h
      · rename_i x hx
        split at h
        · have := ih _ _ _ _ (by rw [List.length_append,List.length_singleton]; omega) h
          omega
        · split at h
          · cases h
          · split at h
            · cases h
            · split at h
              · cases h
              · have hb : 0 < repB x := by unfold repB; split <;> omega
                have := ih _ _ _ _ (by rw [List.length_append,List.length_replicate]; omega) h
                omega
    · simp only [Option.some.injEq,Prod.mk.injEq] at h
      omega
theorem dynR_lt {D : List UInt8} {p : Nat} {t : Tabs} {p2 : Nat} (h : dynR D p = some (t,p2)) : p < p2 := by
  unfold dynR at h
  split at h
  · cases h
  split at h
  · cases h
  split at h
  · cases h
  split at h
  · cases h
  split at h
  · cases h
  split at h
  · cases h
  · rename_i all p3 hg
    have := lensGo_ge _ _ _ _ _ (Nat.le_refl _) hg
    split at h
    · simp only [Option.some.injEq,Prod.mk.injEq] at h
      omega
    · cases h

/-- A block of codes goes on. -/
theorem sym_step {K : Known} {ea : Fin 5 → Addr} (hs : Sents K ea) {src : Src K ea} {dt : List UInt8} {fb hb : Nat} {R : ResR} {gv m stp : Nat} {t : Tabs} {last : Bool} {hl hd trv : Value} {x1 x2 x3 : Frag} {p q b nb : Nat} {ro : Int} {out h : List UInt8} {wr rd : Nat} {full : Bool} {ss cl cd : Nat} {TL : Frags}
    (hA : src.At (dt.drop q) x1 x2 x3) (hB : BitsIn dt p q b nb) (hn : nb < t.mn + 8) (hW : WinSt fb hb gv out [] trv h wr rd full ⟨fb,1037,[.slice (some ⟨hb,0,none⟩) 32768 32768,.int .i64 (((wr) : Nat) : Int),.int .i64 (((rd) : Nat) : Int),.bool full]⟩ ⟨hb,0,bytesV (h)⟩)
    (hR : (SsOk ss cl cd (hsize wr full) ∧ R = run dt (.sym last t) out p) ∨ (ss = 1 ∧ cl ≤ 258 ∧ 1 ≤ cd ∧ cd ≤ hsize wr full ∧ R = run dt (.sym last t) (copyN out cd cl) p)) (hTL : SymTL fb t hl hd TL) (hm : 8 * dt.length - p + 1 ≤ m) (hm1 : 0 < m) :
    Fn Tryd.prog K 74 #[.pointer (some ⟨fb,0,none⟩)] (x1::x2::x3::⟨fb,0,[.iface src.t src.v,.pointer none,.int .i64 (ro),.int .u32 (((b) : Nat) : Int),.int .u64 (((nb) : Nat) : Int)]⟩::⟨fb,1045,[.func (.func stp) #[] #[],.int .i64 (((ss) : Nat) : Int),.bool last,.nilIface,trv,hl,hd,.int .i64 (((cl) : Nat) : Int),.int .i64 (((cd) : Nat) : Int)]⟩::⟨fb,1037,[.slice (some ⟨hb,0,none⟩) 32768 32768,.int .i64 (((wr) : Nat) : Int),.int .i64 (((rd) : Nat) : Int),.bool full]⟩::⟨hb,0,bytesV (h)⟩::TL) (StepEnd src dt fb hb R gv m) := by
  have hsum := hW.sum
  obtain ⟨a0,c0,htr⟩ := hW.tr.nilv
  have hTL0 := hTL
  obtain ⟨ab,cb,ws,av,cs,lb,lo,hp,HL,HD,RT,h1,h2,h3,rfl,rfl,h6,h7,rfl,hraw⟩ := hTL
  have pm : ∀ (X4 RT X : Frags) (X7 : Frags),(X7 ++ (X4 ++ (RT ++ X))).Perm ((X7 ++ X) ++ (X4 ++ RT)) := fun X4 RT X X7 => by
    rw [List.append_assoc,← List.append_assoc X4]
    exact List.perm_append_comm.append_left _
  refine Fn.lose (Fn.perm (pm [_,_,_,_] RT (HL ++ HD) [_,_,_,_,_,_,_]) (Fn.frame (huffmanBlock_walk hs src dt fb hb R gv t last lb lo hp _ HL HD h6 h7 a0 c0 trv htr x1 x2 x3 p q b nb ro out h wr rd full ss cl cd hA hB hn hW.hist hW.rdLe hW.wrLt (by simpa using hsum) hR))) ?_
  rintro v L' ⟨L1,⟨rfl,y1,y2,y3,A,T,W,H,rfl,hE⟩,rfl⟩
  have hback : Same ((y1::y2::y3::A::T::W::H::(HL ++ HD)) ++ ([⟨fb,1041,ws⟩,⟨fb,1035,[.pointer (some ⟨ab,0,none⟩),.pointer (some ⟨cb,0,none⟩)]⟩,⟨ab,0,av⟩,⟨cb,0,cs⟩] ++ RT)) ([y1,y2,y3,A,T,W,H] ++ ([⟨fb,1041,ws⟩,⟨fb,1035,[.pointer (some ⟨ab,0,none⟩),.pointer (some ⟨cb,0,none⟩)]⟩,⟨ab,0,av⟩,⟨cb,0,cs⟩] ++ (RT ++ (HL ++ HD)))) := Same.perm (pm [_,_,_,_] RT (HL ++ HD) [_,_,_,_,_,_,_]).symm
  obtain ⟨TL2,J,hr2,hS2⟩ := hTL0.raw [y1,y2,y3,A,T,W,H]
  rcases hE with ⟨pend,hne,hS⟩ | ⟨p2,hlt,hN⟩ | ⟨pend,hE⟩
  · exact ⟨_,[],hback.trans (Same.of_eq (List.append_nil _).symm),rfl,pend,_,y1,y2,y3,A,T,W,H,_,.inl hne,.inr (.inl ⟨rfl,t,last,_,_,hS,hTL0⟩),rfl⟩
  · refine ⟨_,J,hback.trans hS2,rfl,[],_,y1,y2,y3,A,T,W,H,TL2,.inr ?_,.inl ⟨p2,rfl,hN,hr2⟩,rfl⟩
    obtain ⟨q2,nb2,_,_,_,_,_,_,_,_,_,_,_,_,⟨_,b2,ro2,hB2,_⟩,_⟩ := hN
    have := hB2.at8
    have := hB2.le
    omega
  · exact ⟨_,J,hback.trans hS2,rfl,pend,_,y1,y2,y3,A,T,W,H,TL2,.inr hm1,.inr (.inr (.inr ⟨rfl,hE,hr2.junk⟩)),rfl⟩

theorem readHuffman_in {K : Known} {ea : Fin 5 → Addr} (hs : Sents K ea) (hc : Codes K) (src : Src K ea) (dt : List UInt8) (fb ab cb : Nat) (s0 s1 s2 s3 s4 s5 s6 s7 s8 : Value) (x1 x2 x3 : Frag) (p q b nb : Nat) (ro : Int) (av cs c1 c2 : List Value) (hasl : av.length = 316) (hcsl : cs.length = 19) (hraw1 : RawH c1) (hraw2 : RawH c2) (hA : src.At (dt.drop q) x1 x2 x3) (hB : BitsIn dt p q b nb) (hnb : nb < 8) (W H X : Frag) :
    Fn Tryd.prog K 75 #[.pointer (some ⟨fb,0,none⟩)] [x1,x2,x3,⟨fb,0,[.iface src.t src.v,.pointer none,.int .i64 (ro),.int .u32 (((b) : Nat) : Int),.int .u64 (((nb) : Nat) : Int)]⟩,⟨fb,1045,[s0,s1,s2,s3,s4,s5,s6,s7,s8]⟩,W,H,X,⟨fb,1035,[.pointer (some ⟨ab,0,none⟩),.pointer (some ⟨cb,0,none⟩)]⟩,⟨ab,0,av⟩,⟨cb,0,cs⟩,⟨fb,5,c1⟩,⟨fb,520,c2⟩]
      fun r L => ∃ e y1 y2 y3 a b c ev av cs J,r = Er.val ea e ∧ av.length = 316 ∧ cs.length = 19 ∧
    L = y1::y2::y3::⟨fb,0,[.iface src.t src.v,.pointer none,a,b,c]⟩::⟨fb,1045,[s0,s1,s2,ev,s4,s5,s6,s7,s8]⟩::W::H::X::⟨fb,1035,[.pointer (some ⟨ab,0,none⟩),.pointer (some ⟨cb,0,none⟩)]⟩::⟨ab,0,av⟩::⟨cb,0,cs⟩::J ∧
    ((e = .none ∧ ∃ t p2 q2 b2 nb2 ro2 HL HD,dynR dt p = some (t,p2) ∧ src.At (dt.drop q2) y1 y2 y3 ∧ BitsIn dt p2 q2 b2 nb2 ∧ nb2 < 8 ∧ LitT t fb 5 HL ∧ DistT t (some ⟨fb,520,none⟩) HD ∧ a = .int .i64 ro2 ∧ b = .int .u32 ((b2 : Nat) : Int) ∧ c = .int .u64 ((nb2 : Nat) : Int) ∧ ev = s3 ∧ J = HL ++ HD) ∨
     (Bad5 e ∧ dynR dt p = none ∧ (∃ l,src.At l y1 y2 y3) ∧ ∃ h1 h2,h1.length = 515 ∧ h2.length = 515 ∧ J = [⟨fb,5,h1⟩,⟨fb,520,h2⟩])) := by
  refine Fn.lose (Fn.pick [0,0,0,0,0,3,3,3,3,3] (A := [_,_,_,_,_,_,_,_,_,_]) (F := [W,H,X]) rfl (readHuffman_walk hs hc src dt fb ab cb s0 s1 s2 s3 s4 s5 s6 s7 s8 x1 x2 x3 p q b nb ro av cs c1 c2 hasl hcsl hraw1 hraw2 hA hB hnb)) ?_
  rintro v L ⟨L1,⟨L2,J0,hS,e,y1,y2,y3,a,b',c,ev,av',cs',J,rfl,h1,h2,rfl,hE⟩,rfl⟩
  refine ⟨_,J0,?_,e,y1,y2,y3,a,b',c,ev,av',cs',J,rfl,h1,h2,rfl,hE⟩
  have s1 := Same.appendL [W,H,X] hS
  refine (Same.perm List.perm_append_comm).trans (s1.trans (Same.perm ?_))
  rw [← List.append_assoc]
  refine List.Perm.append_right _ ?_
  exact picks_perm (is := [3,3,3,3,3,0,0,0]) (A := [_,_,_,_,_,_,_,_]) rfl
theorem fixed_in {K : Known} (G : Frags) : Fn Tryd.prog K 73 #[] G fun r L => ∃ qb HL,r = .pointer (some ⟨qb,0,none⟩) ∧ HufT fixLit 7 qb 0 HL ∧ L = G ++ HL := by
  refine Fn.lose (Fn.frame (L := []) (F := G) fixedHuffman_spec) ?_
  rintro v L ⟨L1,⟨qb,rfl,hH⟩,rfl⟩
  exact ⟨_,[],(Same.perm List.perm_append_comm).trans (Same.of_eq (List.append_nil _).symm),qb,L1,rfl,hH,rfl⟩
theorem fixTabs {qb : Nat} {HL : Frags} (h : HufT fixLit 7 qb 0 HL) : LitT fixT qb 0 HL ∧ DistT fixT none [] :=
  ⟨⟨h,fix_ok,le_lenOf fix_15,by show minL fixLit ≤ 7; rw [fix_min]; exact Nat.le_refl _,by decide,by right; decide,by rw [show fixT.lit = fixLit from rfl,fix_lenL]; decide⟩,.inl ⟨rfl,rfl,rfl⟩⟩

theorem nextBlock_walk {K : Known} {ea : Fin 5 → Addr} (hs : Sents K ea) (hc : Codes K) (src : Src K ea) (dt : List UInt8) (fb hb : Nat) (R : ResR) (gv : Nat) (fin : Bool) (hlv hdv trv : Value) (x1 x2 x3 : Frag) (p q b nb : Nat) (ro : Int) (out h : List UInt8) (wr rd : Nat) (full : Bool) (ss cl cd ab cb : Nat) (ws av cs c1 c2 : List Value) (hws : ws.length = 4) (hav : av.length = 316) (hcs : cs.length = 19) (hr1 : RawH c1) (hr2 : RawH c2) (hA : src.At (dt.drop q) x1 x2 x3) (hB : BitsIn dt p q b nb) (hnb : nb < 8) (hW : WinSt fb hb gv out [] trv h wr rd full ⟨fb,1037,[.slice (some ⟨hb,0,none⟩) 32768 32768,.int .i64 (((wr) : Nat) : Int),.int .i64 (((rd) : Nat) : Int),.bool full]⟩ ⟨hb,0,bytesV (h)⟩) (hss : SsOk ss cl cd (hsize wr full)) (hR : R = run dt .next out p) : Fn Tryd.prog K 67 #[.pointer (some ⟨fb,0,none⟩)] ([x1,x2,x3,⟨fb,0,[.iface src.t src.v,.pointer none,.int .i64 (ro),.int .u32 (((b) : Nat) : Int),.int .u64 (((nb) : Nat) : Int)]⟩,⟨fb,1045,[.func (.func 67) #[] #[],.int .i64 (((ss) : Nat) : Int),.bool fin,.nilIface,trv,hlv,hdv,.int .i64 (((cl) : Nat) : Int),.int .i64 (((cd) : Nat) : Int)]⟩,⟨fb,1037,[.slice (some ⟨hb,0,none⟩) 32768 32768,.int .i64 (((wr) : Nat) : Int),.int .i64 (((rd) : Nat) : Int),.bool full]⟩,⟨hb,0,bytesV (h)⟩,⟨fb,1041,ws⟩,⟨fb,1035,[.pointer (some ⟨ab,0,none⟩),.pointer (some ⟨cb,0,none⟩)]⟩,⟨ab,0,av⟩,⟨cb,0,cs⟩,⟨fb,5,c1⟩,⟨fb,520,c2⟩]) (StepEnd src dt fb hb R gv (8 * dt.length - p + 1)) := by
 refine Fn.intro (args := [.pointer (some ⟨fb,0,none⟩)]) (RR := Ret0 _) Tryd.func67 rfl rfl Tryd.ntmps67 (res0 Tryd.results67) ?_
 refine C.reenv (env2 := [(0,.pointer (some ⟨fb,0,none⟩))]) rfl ?_
 refine C.seq ?_
 refine C.block ?_
 refine C.loop (fun mm ee ll => ∃ (q : Nat),∃ (b : Nat),∃ (nb : Nat),∃ (ro : Int),∃ (g1 : Frag),∃ (g2 : Frag),∃ (g3 : Frag),keeps ee [0] = some [(0,.pointer (some ⟨fb,0,none⟩))] ∧ ll = [g1,g2,g3,⟨fb,0,[.iface src.t src.v,.pointer none,.int .i64 (ro),.int .u32 (((b) : Nat) : Int),.int .u64 (((nb) : Nat) : Int)]⟩,⟨fb,1045,[.func (.func 67) #[] #[],.int .i64 (((ss) : Nat) : Int),.bool fin,.nilIface,trv,hlv,hdv,.int .i64 (((cl) : Nat) : Int),.int .i64 (((cd) : Nat) : Int)]⟩,⟨fb,1037,[.slice (some ⟨hb,0,none⟩) 32768 32768,.int .i64 (((wr) : Nat) : Int),.int .i64 (((rd) : Nat) : Int),.bool full]⟩,⟨hb,0,bytesV (h)⟩,⟨fb,1041,ws⟩,⟨fb,1035,[.pointer (some ⟨ab,0,none⟩),.pointer (some ⟨cb,0,none⟩)]⟩,⟨ab,0,av⟩,⟨cb,0,cs⟩,⟨fb,5,c1⟩,⟨fb,520,c2⟩] ∧ (src.At (dt.drop q) g1 g2 g3) ∧ (BitsIn dt (p) q b nb) ∧ (nb < 8 ∨ nb < 3 + 8) ∧ mm = 3 - nb) (_) ⟨q,b,nb,ro,x1,x2,x3,rfl,rfl,hA,hB,.inl hnb,rfl⟩ ?_
 rintro m0 _ _ ⟨q,b,nb,ro,g1,g2,g3,hk0,rfl,hA,hB,hnl,hm0⟩
 refine C.weaken _ hk0 ?_
 refine C.seq ?_
 refine C.sr ?_
 refine E.pure (S.move rfl) rfl ?_
 refine E.pure (S.nilPtr rfl) rfl ?_
 refine E.pure (S.field rfl fa153_4) rfl ?_
 refine E.still (S.load 3 (k := 4) rfl rfl rfl Tryd.isAgg92) rfl ?_
 refine E.pure (S.lt (b := ((3 : Nat) : Int)) rfl rfl) rfl ?_
 refine E.kp [(0,_),(7,_)] rfl ?_
 refine C.ifp rfl (fun h7 => ?_) (fun h7 => ?_)
 ·
  refine C.skip ?_
  refine C.block ?_
  refine C.sr ?_
  refine E.pure (S.move rfl) rfl ?_
  refine E.pure (S.move rfl) rfl ?_
  refine E.loud1 (OpX.pick [0,0,0,0] (F := [_,_,_,_,_,_,_,_,_]) rfl (X.call rfl Tryd.call71 (moreBits_e hs src _ _ _ fb _ dt _ _ _ _ hA hB (by omega)))) rfl ?_; rintro _ _ ⟨_,⟨k1,k2,k3,e4,b4,nb4,ro4,rfl,rfl,hE4⟩,rfl⟩; refine E.relist (L2 := [_,_,_,_,_,_,_,_,_,_,_,_,_]) rfl ?_
  refine E.perml [0,0,0,0,0,0,0,0,0,0,0,0,0] rfl ?_
  refine E.relist (L2 := [_,_,_,_,_,_,_,_,_,_,_,_,_]) rfl ?_
  refine E.pure (S.nilPtr rfl) rfl ?_
  refine E.pure (S.field rfl fa153_14) rfl ?_
  refine E.loud0 (X.store 4 (k := 3) rfl rfl rfl (one_er _) rfl Tryd.sizeOf59) ?_; rintro _ _ ⟨rfl,rfl⟩; refine E.relist (L2 := [_,_,_,_,_,_,_,_,_,_,_,_,_]) rfl ?_
  refine E.kp [(0,_),(7,_)] rfl ?_
  refine C.sr ?_
  refine E.pure (S.move rfl) rfl ?_
  refine E.pure (S.nilPtr rfl) rfl ?_
  refine E.pure (S.field rfl fa153_14) rfl ?_
  refine E.still (S.load 4 (k := 3) rfl rfl rfl Tryd.isAgg59) rfl ?_
  refine E.still (S.neErNil rfl) rfl ?_
  refine E.kp [(0,_),(7,_),(17,_)] rfl ?_
  first | refine C.ifp rfl (fun h17 => ?_) (fun h17 => ?_) | refine C.ifNone rfl (fun h17 => ?_) (fun h17 => ?_) | refine C.ifSome rfl (fun h17 => ?_) (fun h17 => ?_) | refine C.ifSe rfl (fun h17 => ?_) (fun h17 => ?_) | refine C.ifNotSe rfl (fun h17 => ?_) (fun h17 => ?_) | refine C.cond rfl (fun h17 => ?_) (fun h17 => ?_)
  ·
   obtain ⟨hb5,hqe,lx,hAx⟩ := hE4.resolve_left fun h => h17 h.1
   have hle := hB.left_eq
   refine C.ret ?_
   exact ⟨rfl,[],0,_,_,_,_,_,_,_,_,.inr (by omega),.inr (.inr (.inr ⟨rfl,⟨out,.bad,_,trv,h,wr,rd,full,.inr ⟨rfl,hb5,_,hAx⟩,⟨_,_,_,rfl⟩,hW,⟨_,_,_,_,_,_,_,rfl⟩,hR.trans (run_next_short (by omega)),.inl rfl⟩,RawTL.junk ⟨ab,cb,ws,av,cs,c1,c2,hws,hav,hcs,hr1,hr2,rfl⟩⟩)),rfl⟩
  obtain ⟨_,hA4,hB4,hn4⟩ := hE4.resolve_right fun h => h.1.2 h17
  subst hn4
  subst h17
  refine C.skip ?_
  refine ⟨_,?_,_,_,_,_,_,_,_,rfl,rfl,hA4,hB4,.inr (by omega),rfl⟩; omega
 have hn3 : 3 ≤ nb := by omega
 have hb2 := hB.lt32 (by omega)
 have hle := hB.left_eq
 have h3 : ¬ left dt p < 3 := by omega
 have hB1 := (hB.take (n := 1) (by omega)).2
 have hB3 := (hB1.take (n := 2) (by omega)).2
 have t1 := takeB_lt dt p 1
 have t2 := takeB_lt dt (p + 1) 2
 have ht8 := hB3.at8
 have htl := hB3.le
 obtain ⟨last,hlast⟩ : ∃ last,last = decide (takeB dt p 1 = 1) := ⟨_,rfl⟩
 refine C.exit rfl ?_
 refine C.sr ?_
 refine E.pure (S.move rfl) rfl ?_
 refine E.pure (S.move rfl) rfl ?_
 refine E.pure (S.nilPtr rfl) rfl ?_
 refine E.pure (S.field rfl fa153_3) rfl ?_
 refine E.still (S.load 3 (k := 3) rfl rfl rfl Tryd.isAgg52) rfl ?_
 refine E.pure (S.and (b := ((1 : Nat) : Int)) rfl rfl (N.and_u32 (by omega) (by omega))) rfl ?_
 refine E.reslot (v := .int .u32 ((takeB dt p 1 : Nat) : Int)) (congrArg (fun y : Nat => Value.int .u32 (y : Int)) (by exact mask_take (n := 1) hB (by omega))) ?_
 refine E.pure (S.eq (b := ((1 : Nat) : Int)) rfl rfl) rfl ?_
 refine E.reslot (v := .bool last) (congrArg Value.bool (by rw [hlast]; exact decide_eq_decide.2 (by omega))) ?_
 refine E.pure (S.nilPtr rfl) rfl ?_
 refine E.pure (S.field rfl fa153_13) rfl ?_
 refine E.loud0 (X.store 4 (k := 2) rfl rfl rfl rfl rfl Tryd.sizeOf4) ?_; rintro _ _ ⟨rfl,rfl⟩; refine E.relist (L2 := [_,_,_,_,_,_,_,_,_,_,_,_,_]) rfl ?_
 refine E.kp [(0,_),(7,_)] rfl ?_
 refine C.sr ?_
 refine E.pure (S.move rfl) rfl ?_
 refine E.pure (S.nilPtr rfl) rfl ?_
 refine E.pure (S.field rfl fa153_3) rfl ?_
 refine E.still (S.load 3 (k := 3) rfl rfl rfl Tryd.isAgg52) rfl ?_
 refine E.pure (S.shr (b := ((1 : Nat) : Int)) rfl rfl (by omega) (N.shr_u32 (by omega) _)) rfl ?_
 refine E.reslot (v := .int .u32 ((b / 2 ^ 1 : Nat) : Int)) (congrArg (fun y : Nat => Value.int .u32 (y : Int)) (by rw [Nat.shiftRight_eq_div_pow])) ?_
 refine E.pure (S.nilPtr rfl) rfl ?_
 refine E.pure (S.field rfl fa153_3) rfl ?_
 refine E.loud0 (X.store 3 (k := 3) rfl rfl rfl rfl rfl Tryd.sizeOf52) ?_; rintro _ _ ⟨rfl,rfl⟩; refine E.relist (L2 := [_,_,_,_,_,_,_,_,_,_,_,_,_]) rfl ?_
 refine E.kp [(0,_),(7,_)] rfl ?_
 refine C.sr ?_
 refine E.pure (S.move rfl) rfl ?_
 refine E.pure (S.nilPtr rfl) rfl ?_
 refine E.pure (S.field rfl fa153_3) rfl ?_
 refine E.still (S.load 3 (k := 3) rfl rfl rfl Tryd.isAgg52) rfl ?_
 refine E.pure (S.and (b := ((3 : Nat) : Int)) rfl rfl (N.and_u32 (by omega) (by omega))) rfl ?_
 refine E.reslot (v := .int .u32 ((takeB dt (p + 1) 2 : Nat) : Int)) (congrArg (fun y : Nat => Value.int .u32 (y : Int)) (by exact mask_take (n := 2) hB1 (by omega))) ?_
 refine E.pure (S.assign rfl) rfl ?_
 refine E.kp [(0,_),(2,_),(7,_)] rfl ?_
 refine C.sr ?_
 refine E.pure (S.move rfl) rfl ?_
 refine E.pure (S.nilPtr rfl) rfl ?_
 refine E.pure (S.field rfl fa153_3) rfl ?_
 refine E.still (S.load 3 (k := 3) rfl rfl rfl Tryd.isAgg52) rfl ?_
 refine E.pure (S.shr (b := ((2 : Nat) : Int)) rfl rfl (by omega) (N.shr_u32 (by omega) _)) rfl ?_
 refine E.reslot (v := .int .u32 ((b / 2 ^ 1 / 2 ^ 2 : Nat) : Int)) (congrArg (fun y : Nat => Value.int .u32 (y : Int)) (by rw [Nat.shiftRight_eq_div_pow])) ?_
 refine E.pure (S.nilPtr rfl) rfl ?_
 refine E.pure (S.field rfl fa153_3) rfl ?_
 refine E.loud0 (X.store 3 (k := 3) rfl rfl rfl rfl rfl Tryd.sizeOf52) ?_; rintro _ _ ⟨rfl,rfl⟩; refine E.relist (L2 := [_,_,_,_,_,_,_,_,_,_,_,_,_]) rfl ?_
 refine E.kp [(0,_),(2,_),(7,_)] rfl ?_
 refine C.sr ?_
 refine E.pure (S.move rfl) rfl ?_
 refine E.pure (S.nilPtr rfl) rfl ?_
 refine E.pure (S.field rfl fa153_4) rfl ?_
 refine E.still (S.load 3 (k := 4) rfl rfl rfl Tryd.isAgg92) rfl ?_
 refine E.pure (S.sub (b := ((3 : Nat) : Int)) rfl rfl (N.sub_u64 (by omega) (by omega))) rfl ?_
 refine E.reslot (v := .int .u64 ((nb - 1 - 2 : Nat) : Int)) (congrArg (fun y : Nat => Value.int .u64 (y : Int)) (by omega)) ?_
 refine E.pure (S.nilPtr rfl) rfl ?_
 refine E.pure (S.field rfl fa153_4) rfl ?_
 refine E.loud0 (X.store 3 (k := 4) rfl rfl rfl rfl rfl Tryd.sizeOf92) ?_; rintro _ _ ⟨rfl,rfl⟩; refine E.relist (L2 := [_,_,_,_,_,_,_,_,_,_,_,_,_]) rfl ?_
 refine E.kp [(0,_),(2,_),(7,_)] rfl ?_
 refine C.sr ?_
 refine E.pure (S.move rfl) rfl ?_
 refine E.kp [(0,_),(2,_),(7,_),(53,_)] rfl ?_
 refine C.block ?_
 refine C.sr ?_
 refine E.pure (S.eq (b := ((0 : Nat) : Int)) rfl rfl) rfl ?_
 refine E.pure (S.assign rfl) rfl ?_
 refine E.kp [(0,_),(2,_),(7,_),(53,_),(62,_)] rfl ?_
 refine C.ifp rfl (fun h62 => ?_) (fun h62 => ?_)
 ·
  have hty : takeB dt (p + 1) 2 = 0 := by omega
  have hsum := hW.sum
  obtain ⟨a0,c0,htr⟩ := hW.tr.nilv
  have hR0 : R = storR dt last out q := by rw [hR,run_next0 h3 hty,← hlast,show (p + 3 + 7) / 8 = q by omega]
  refine C.region ?_
  refine E.pure (S.move rfl) rfl ?_
  refine E.loud1 (OpX.pick [0,0,0,0,0,0,0,0] (F := [_,_,_,_,_]) rfl (X.call rfl Tryd.call72 (dataBlock_spec hs src dt fb hb R gv last hlv hdv _ a0 c0 trv htr g1 g2 g3 (p + 1 + 2) q _ _ _ out h wr rd full ss cl cd ws hws hA hB3 (by omega) hW.hist hW.rdLe hW.wrLt (by simpa using hsum) hss hR0))) rfl ?_; rintro _ _ ⟨_,⟨rfl,y1,y2,y3,Ay,Ty,Wy,Hy,ws2,hw2,rfl,hDb⟩,rfl⟩; refine E.relist (L2 := [_,_,_,_,_,_,_,_,_,_,_,_,_]) rfl ?_
  refine E.kp [(0,_),(2,_),(7,_),(53,_),(62,_)] rfl ?_
  rcases hDb with ⟨pend,q5,hne,hS⟩ | ⟨pend,p2,hlt,hN⟩ | ⟨pend,hE⟩
  · exact ⟨rfl,pend,_,_,_,_,_,_,_,_,_,.inl hne,.inr (.inr (.inl ⟨rfl,q5,hS,⟨ab,cb,ws2,av,cs,c1,c2,hw2,hav,hcs,hr1,hr2,rfl⟩⟩)),rfl⟩
  · refine ⟨rfl,pend,_,_,_,_,_,_,_,_,_,.inr ?_,.inl ⟨p2,rfl,hN,⟨ab,cb,ws2,av,cs,c1,c2,hw2,hav,hcs,hr1,hr2,rfl⟩⟩,rfl⟩
    obtain ⟨q2,nb2,_,_,_,_,_,_,_,_,_,_,_,_,⟨_,b2,ro2,hB2,_⟩,_⟩ := hN
    have := hB2.at8
    have := hB2.le
    omega
  · exact ⟨rfl,pend,0,_,_,_,_,_,_,_,_,.inr (by omega),.inr (.inr (.inr ⟨rfl,hE,RawTL.junk ⟨ab,cb,ws2,av,cs,c1,c2,hw2,hav,hcs,hr1,hr2,rfl⟩⟩)),rfl⟩
 refine C.sr ?_
 refine E.pure (S.eq (b := ((1 : Nat) : Int)) rfl rfl) rfl ?_
 refine E.pure (S.assign rfl) rfl ?_
 refine E.kp [(0,_),(2,_),(7,_),(53,_),(62,_),(66,_)] rfl ?_
 refine C.ifp rfl (fun h66 => ?_) (fun h66 => ?_)
 ·
  have hty : takeB dt (p + 1) 2 = 1 := by omega
  have hR1 : R = run dt (.sym last fixT) out (p + 1 + 2) := by rw [hR,run_next1 h3 hty,← hlast]
  refine C.sr ?_
  refine E.pure (S.move rfl) rfl ?_
  refine E.loud1 (X.call rfl Tryd.call73 (fixed_in _)) rfl ?_; rintro _ _ ⟨qb,HL,rfl,hHL,rfl⟩; refine E.relist (L2 := (_::_::_::_::_::_::_::_::_::_::_::_::_::_)) rfl ?_
  refine E.pure (S.nilPtr rfl) rfl ?_
  refine E.pure (S.field rfl fa153_16) rfl ?_
  refine E.loud0 (X.store 4 (k := 5) rfl rfl rfl rfl rfl Tryd.sizeOf151) ?_; rintro _ _ ⟨rfl,rfl⟩; refine E.relist (L2 := (_::_::_::_::_::_::_::_::_::_::_::_::_::_)) rfl ?_
  refine E.kp [(0,_),(2,_),(7,_),(53,_),(62,_),(66,_)] rfl ?_
  refine C.sr ?_
  refine E.pure (S.move rfl) rfl ?_
  refine E.pure (S.nilPtr rfl) rfl ?_
  refine E.pure (S.field rfl fa153_17) rfl ?_
  refine E.loud0 (X.store 4 (k := 6) rfl rfl rfl rfl rfl Tryd.sizeOf151) ?_; rintro _ _ ⟨rfl,rfl⟩; refine E.relist (L2 := (_::_::_::_::_::_::_::_::_::_::_::_::_::_)) rfl ?_
  refine E.kp [(0,_),(2,_),(7,_),(53,_),(62,_),(66,_)] rfl ?_
  refine C.region ?_
  refine E.pure (S.move rfl) rfl ?_
  refine E.loud1 (X.call rfl Tryd.call74 (sym_step (m := 8 * dt.length - p + 1) hs hA hB3 (by show nb - 1 - 2 < 7 + 8; omega) hW (.inl ⟨hss,hR1⟩) (symTL_fix hws hav hcs hr1 hr2 (fixTabs hHL).1 (fixTabs hHL).2) (by omega) (by omega))) rfl ?_; rintro _ _ ⟨rfl,pend,m2,y1,y2,y3,Ay,Ty,Wy,Hy,TL2,hlt,hD2,rfl⟩; refine E.relist (L2 := (_::_::_::_::_::_::_::_)) rfl ?_
  refine E.kp [(0,_),(2,_),(7,_),(53,_),(62,_),(66,_)] rfl ?_
  exact ⟨rfl,pend,m2,_,_,_,_,_,_,_,_,hlt,hD2,rfl⟩
 refine C.sr ?_
 refine E.pure (S.eq (b := ((2 : Nat) : Int)) rfl rfl) rfl ?_
 refine E.pure (S.assign rfl) rfl ?_
 refine E.kp [(0,_),(2,_),(7,_),(53,_),(62,_),(66,_),(77,_)] rfl ?_
 refine C.ifp rfl (fun h77 => ?_) (fun h77 => ?_)
 ·
  have hty : takeB dt (p + 1) 2 = 2 := by omega
  refine C.seq ?_
  refine C.sr ?_
  refine E.pure (S.move rfl) rfl ?_
  refine E.pure (S.move rfl) rfl ?_
  refine E.loud1 (X.call rfl Tryd.call75 (readHuffman_in hs hc src dt fb ab cb _ _ _ _ _ _ _ _ _ g1 g2 g3 (p + 1 + 2) q _ _ _ av cs c1 c2 hav hcs hr1 hr2 hA hB3 (by omega) _ _ _)) rfl ?_; rintro _ _ ⟨e5,y1,y2,y3,a5,b5,cc5,ev5,av2,cs2,J5,rfl,hav2,hcs2,rfl,hRh⟩; refine E.relist (L2 := (_::_::_::_::_::_::_::_::_::_::_::_)) rfl ?_
  refine E.pure (S.nilPtr rfl) rfl ?_
  refine E.pure (S.field rfl fa153_14) rfl ?_
  refine E.loud0 (X.store 4 (k := 3) rfl rfl rfl (one_er _) rfl Tryd.sizeOf59) ?_; rintro _ _ ⟨rfl,rfl⟩; refine E.relist (L2 := (_::_::_::_::_::_::_::_::_::_::_::_)) rfl ?_
  refine E.kp [(0,_),(2,_),(7,_),(53,_),(62,_),(66,_),(77,_)] rfl ?_
  refine C.sr ?_
  refine E.pure (S.move rfl) rfl ?_
  refine E.pure (S.nilPtr rfl) rfl ?_
  refine E.pure (S.field rfl fa153_14) rfl ?_
  refine E.still (S.load 4 (k := 3) rfl rfl rfl Tryd.isAgg59) rfl ?_
  refine E.still (S.neErNil rfl) rfl ?_
  refine E.kp [(0,_),(2,_),(7,_),(53,_),(62,_),(66,_),(77,_),(88,_)] rfl ?_
  first | refine C.ifp rfl (fun h88 => ?_) (fun h88 => ?_) | refine C.ifNone rfl (fun h88 => ?_) (fun h88 => ?_) | refine C.ifSome rfl (fun h88 => ?_) (fun h88 => ?_) | refine C.ifSe rfl (fun h88 => ?_) (fun h88 => ?_) | refine C.ifNotSe rfl (fun h88 => ?_) (fun h88 => ?_) | refine C.cond rfl (fun h88 => ?_) (fun h88 => ?_)
  ·
   obtain ⟨hb5,hdn,⟨lx,hAx⟩,z1,z2,hz1,hz2,rfl⟩ := hRh.resolve_left fun h => h88 h.1
   refine C.exit rfl ?_
   exact ⟨rfl,[],0,_,_,_,_,_,_,_,_,.inr (by omega),.inr (.inr (.inr ⟨rfl,⟨out,.bad,_,trv,h,wr,rd,full,.inr ⟨rfl,hb5,_,hAx⟩,⟨_,_,_,rfl⟩,hW,⟨_,_,_,_,_,_,_,rfl⟩,hR.trans (run_next2n h3 hty hdn),.inl rfl⟩,⟨ab,cb,ws,av2,cs2,z1,z2,hws,hav2,hcs2,hz1,hz2,rfl⟩⟩)),rfl⟩
  obtain ⟨_,t,p2,q2,b2,nb2,ro2,HL,HD,hdy,hA2,hB2,hn2,hLt,hDt,rfl,rfl,rfl,rfl,rfl⟩ := hRh.resolve_right fun h => h.1.2 h88
  subst h88
  have hp2 := dynR_lt hdy
  have h28 := hB2.at8
  have h2l := hB2.le
  have hR1 : R = run dt (.sym last t) out p2 := by rw [hR,run_next2 h3 hty hdy (by omega),← hlast]
  refine C.skip ?_
  refine C.sr ?_
  refine E.pure (S.move rfl) rfl ?_
  refine E.pure (S.move rfl) rfl ?_
  refine E.pure (S.nilPtr rfl) rfl ?_
  refine E.pure (S.field rfl fa153_5) rfl ?_
  refine E.pure (S.nilPtr rfl) rfl ?_
  refine E.pure (S.field rfl fa153_16) rfl ?_
  refine E.loud0 (X.store 4 (k := 5) rfl rfl rfl rfl rfl Tryd.sizeOf151) ?_; rintro _ _ ⟨rfl,rfl⟩; refine E.relist (L2 := (_::_::_::_::_::_::_::_::_::_::_::_)) rfl ?_
  refine E.kp [(0,_),(2,_),(7,_),(53,_),(62,_),(66,_),(77,_),(88,_)] rfl ?_
  refine C.sr ?_
  refine E.pure (S.move rfl) rfl ?_
  refine E.pure (S.move rfl) rfl ?_
  refine E.pure (S.nilPtr rfl) rfl ?_
  refine E.pure (S.field rfl fa153_6) rfl ?_
  refine E.pure (S.nilPtr rfl) rfl ?_
  refine E.pure (S.field rfl fa153_17) rfl ?_
  refine E.loud0 (X.store 4 (k := 6) rfl rfl rfl rfl rfl Tryd.sizeOf151) ?_; rintro _ _ ⟨rfl,rfl⟩; refine E.relist (L2 := (_::_::_::_::_::_::_::_::_::_::_::_)) rfl ?_
  refine E.kp [(0,_),(2,_),(7,_),(53,_),(62,_),(66,_),(77,_),(88,_)] rfl ?_
  refine C.region ?_
  refine E.pure (S.move rfl) rfl ?_
  refine E.loud1 (X.call rfl Tryd.call74 (sym_step (m := 8 * dt.length - p + 1) hs hA2 hB2 (by omega) hW (.inl ⟨hss,hR1⟩) (symTL_own hws hav2 hcs2 hLt hDt) (by omega) (by omega))) rfl ?_; rintro _ _ ⟨rfl,pend,m2,y1,y2,y3,Ay,Ty,Wy,Hy,TL2,hlt,hD2,rfl⟩; refine E.relist (L2 := (_::_::_::_::_::_::_::_)) rfl ?_
  refine E.kp [(0,_),(2,_),(7,_),(53,_),(62,_),(66,_),(77,_),(88,_)] rfl ?_
  exact ⟨rfl,pend,m2,_,_,_,_,_,_,_,_,hlt,hD2,rfl⟩
 have hty : takeB dt (p + 1) 2 = 3 := by omega
 refine C.region ?_
 refine E.pure (S.move rfl) rfl ?_
 refine E.pure (S.move rfl) rfl ?_
 refine E.pure (S.nilPtr rfl) rfl ?_
 refine E.pure (S.field rfl fa153_2) rfl ?_
 refine E.still (S.load 3 (k := 2) rfl rfl rfl Tryd.isAgg2) rfl ?_
 refine E.pure (S.mkIface rfl conc165) rfl ?_
 refine E.reslot (v := Er.val ea (.corrupt _)) (rfl) ?_
 refine E.pure (S.nilPtr rfl) rfl ?_
 refine E.pure (S.field rfl fa153_14) rfl ?_
 refine E.loud0 (X.store 4 (k := 3) rfl rfl rfl rfl rfl Tryd.sizeOf59) ?_; rintro _ _ ⟨rfl,rfl⟩; refine E.relist (L2 := [_,_,_,_,_,_,_,_,_,_,_,_,_]) rfl ?_
 refine E.kp [(0,_),(2,_),(7,_),(53,_),(62,_),(66,_),(77,_)] rfl ?_
 exact ⟨rfl,[],0,_,_,_,_,_,_,_,_,.inr (by omega),.inr (.inr (.inr ⟨rfl,⟨out,.bad,_,trv,h,wr,rd,full,.inr ⟨rfl,bad_corrupt _,_,hA⟩,⟨_,_,_,rfl⟩,hW,⟨_,_,_,_,_,_,_,rfl⟩,hR.trans (run_next3 h3 (by omega) (by omega) (by omega)),.inl rfl⟩,RawTL.junk ⟨ab,cb,ws,av,cs,c1,c2,hws,hav,hcs,hr1,hr2,rfl⟩⟩)),rfl⟩
theorem nextBlock_step {K : Known} {ea : Fin 5 → Addr} (hs : Sents K ea) (hc : Codes K) {src : Src K ea} {dt : List UInt8} {fb hb : Nat} {R : ResR} {gv p : Nat} {x1 x2 x3 A T W H : Frag} {TL : Frags}
    (hN : NextSt src dt fb hb R gv [] p x1 x2 x3 A T W H) (hTL : RawTL fb TL) : Fn Tryd.prog K 67 #[.pointer (some ⟨fb,0,none⟩)] (x1::x2::x3::A::T::W::H::TL) (StepEnd src dt fb hb R gv (8 * dt.length - p + 1)) := by
  obtain ⟨q,nb,out,trv,h,wr,rd,full,ss,fin,hl,hd,cl,cd,⟨hA,b,ro,hB,rfl⟩,hn,hW,rfl,hss,hR⟩ := hN
  obtain ⟨ab,cb,ws,av,cs,c1,c2,h1,h2,h3,h4,h5,rfl⟩ := hTL
  have hWA := hW.isA
  have hWB := hW.isB
  subst hWA hWB
  exact nextBlock_walk hs hc src dt fb hb R gv fin hl hd trv x1 x2 x3 p q b nb ro out h wr rd full ss cl cd ab cb ws av cs c1 c2 h1 h2 h3 h4 h5 hA hB hn hW hss hR

end Go.Eng
namespace Go.Eng
open Go Go.Proofs
set_option maxRecDepth 100000

theorem step_spec {K : Known} {ea : Fin 5 → Addr} (hs : Sents K ea) (hc : Codes K) {src : Src K ea} {dt : List UInt8} {fb hb : Nat} {R : ResR} {gv m k : Nat} {x1 x2 x3 A W H : Frag} {vs : List Value} {TL : Frags}
    (D : DecSt src dt fb hb R gv [] m x1 x2 x3 A ⟨fb,1045,.func (.func k) #[] #[]::vs⟩ W H TL) (hm : 0 < m) :
    Fn Tryd.prog K k #[.pointer (some ⟨fb,0,none⟩)] (x1::x2::x3::A::⟨fb,1045,.func (.func k) #[] #[]::vs⟩::W::H::TL) (StepEnd src dt fb hb R gv m) := by
  generalize hT : (⟨fb,1045,.func (.func k) #[] #[]::vs⟩ : Frag) = T at D ⊢
  rcases D with ⟨p,rfl,hN,hTL⟩ | ⟨rfl,t,last,hl,hd,⟨p,q,nb,out,trv,h,wr,rd,full,ss,cl,cd,⟨hA,b,ro,hB,rfl⟩,hn,hW,rfl,hR⟩,hTL⟩ | ⟨rfl,q,⟨out,trv,h,wr,rd,full,ss,last,hl,hd,cl,cd,⟨hA,b,ro,hB,rfl⟩,hW,rfl,hss,hcl,hR⟩,hTL⟩ | ⟨rfl,_⟩
  · have hk : k = 67 := by
      obtain ⟨q,nb,out,trv,h,wr,rd,full,ss,fin,hl,hd,cl,cd,_,_,_,rfl,_⟩ := hN
      simp only [ptF,Frag.mk.injEq,List.cons.injEq,Value.func.injEq,Go.Fn.func.injEq] at hT
      exact hT.2.2.1.1
    subst hk
    exact nextBlock_step hs hc hN hTL
  · have hk : k = 74 := by
      simp only [ptF,Frag.mk.injEq,List.cons.injEq,Value.func.injEq,Go.Fn.func.injEq] at hT
      exact hT.2.2.1.1
    subst hk
    clear hT
    have hWA := hW.isA
    have hWB := hW.isB
    subst hWA hWB
    exact sym_step hs hA hB hn hW hR hTL (by omega) (by omega)
  · have hk : k = 79 := by
      simp only [ptF,Frag.mk.injEq,List.cons.injEq,Value.func.injEq,Go.Fn.func.injEq] at hT
      exact hT.2.2.1.1
    subst hk
    clear hT
    have hsum := hW.sum
    obtain ⟨a0,c0,htr⟩ := hW.tr.nilv
    have hWA := hW.isA
    have hWB := hW.isB
    have hq := hB.le
    subst hWA hWB
    have hb0 : b = 0 := by have := hB.lt; omega
    subst hb0
    refine Fn.mono (Fn.frame (F := TL) (copyData_spec hs src dt fb hb R gv last hl hd _ a0 c0 trv htr x1 x2 x3 q ro out h wr rd full ss cl cd hA hq hW.hist hW.rdLe hW.wrLt (by simpa using hsum) hss hcl hR)) ?_
    rintro v L' ⟨L1,⟨rfl,y1,y2,y3,A,T,W,H,rfl,hE⟩,rfl⟩
    rcases hE with ⟨pend,q2,hne,hS⟩ | ⟨p2,hlt,hN⟩ | ⟨pend,hE⟩
    · exact ⟨rfl,pend,_,y1,y2,y3,A,T,W,H,_,.inl hne,.inr (.inr (.inl ⟨rfl,q2,hS,hTL⟩)),rfl⟩
    · exact ⟨rfl,[],_,y1,y2,y3,A,T,W,H,TL,.inr (by omega),.inl ⟨p2,rfl,hN,hTL⟩,rfl⟩
    · exact ⟨rfl,pend,_,y1,y2,y3,A,T,W,H,TL,.inr (by omega),.inr (.inr (.inr ⟨rfl,hE,hTL.junk⟩)),rfl⟩
  · exact absurd hm (Nat.lt_irrefl 0)
end Go.Eng
namespace Go.Eng
open Go Go.Proofs
set_option maxRecDepth 100000

set_option maxHeartbeats 1000000
theorem reads_win {K : Known} {L : Frags} {hb i off : Nat} {h pend : List UInt8} (hL : L[i]? = some ⟨hb,0,bytesV h⟩) (hw : (h.drop off).take pend.length = pend) : Reads K L hb off (bytesV pend) := by
  have := Reads.frag (H0 := K) hL (k := off) (vs := bytesV pend) (by rw [bytesV_length]; unfold bytesV; rw [← List.map_drop,← List.map_take,hw])
  simpa using this
/-- A decompressor between two reads: gv bytes of R's are given. -/
def DecOk {K : Known} {ea : Fin 5 → Addr} (src : Src K ea) (dt : List UInt8) (fb : Nat) (R : ResR) (gv : Nat) (L : Frags) : Prop :=
  ∃ hb pend m x1 x2 x3 A T W H TL,DecSt src dt fb hb R gv pend m x1 x2 x3 A T W H TL ∧ (m = 0 → gv + pend.length = R.1.length) ∧ L = x1::x2::x3::A::T::W::H::TL
/-- A decompressor that has come to its end. -/
def DecFin {K : Known} {ea : Fin 5 → Addr} (src : Src K ea) (dt : List UInt8) (fb : Nat) (R : ResR) (er : Er) (L : Frags) : Prop :=
  ∃ hb x1 x2 x3 A T W H TL,DecSt src dt fb hb R R.1.length [] 0 x1 x2 x3 A T W H TL ∧ EndOk src dt R.2 er x1 x2 x3 ∧ L = x1::x2::x3::A::T::W::H::TL
/-- What a read gives. -/
def ReadEnd {K : Known} {ea : Fin 5 → Addr} (src : Src K ea) (dt : List UInt8) (fb : Nat) (R : ResR) (gv pb po n : Nat) (cs : List Value) (r : Value) (L : Frags) : Prop :=
  ∃ k er L1,r = .tuple #[.int .i64 ((k : Nat) : Int),Er.val ea er] ∧ k ≤ n ∧ k ≤ (R.1.drop gv).length ∧ L = L1 ++ [⟨pb,po,bytesV ((R.1.drop gv).take k) ++ cs.drop k⟩] ∧
    ((er = .none ∧ 0 < k ∧ DecOk src dt fb R (gv + k) L1) ∨ (er ≠ .none ∧ gv + k = R.1.length ∧ DecFin src dt fb R er L1))
theorem pend_take {R pend : List UInt8} {gv n : Nat} (h : pend = (R.drop gv).take pend.length) : pend.take n = (R.drop gv).take (Nat.min pend.length n) := by
  conv => lhs; rw [h]
  rw [List.take_take,Nat.min_comm]
theorem same_last (x1 x2 x3 A T W H B : Frag) (TL : Frags) : Same (x1::x2::x3::A::T::W::H::B::TL) ((x1::x2::x3::A::T::W::H::TL) ++ [B]) :=
  Same.perm (List.Perm.append_left [x1,x2,x3,A,T,W,H] (List.perm_append_comm (l₁ := [B])))
/-- How far a reading is from its end. -/
def mz (pend : List UInt8) (m : Nat) : Nat := if pend = [] then m else 0
theorem mz_step {pend : List UInt8} {m m2 : Nat} (hm : 0 < m) (h : pend ≠ [] ∨ m2 < m) : mz pend m2 < mz [] m := by
  unfold mz
  rw [if_pos rfl]
  split
  · rename_i h1; exact h.resolve_left fun h2 => h2 h1
  · exact hm
theorem step_in {K : Known} {ea : Fin 5 → Addr} (hs : Sents K ea) (hc : Codes K) {src : Src K ea} {dt : List UInt8} {fb hb : Nat} {R : ResR} {gv m k : Nat} {x1 x2 x3 A W H : Frag} {vs : List Value} {TL : Frags}
    (D : DecSt src dt fb hb R gv [] m x1 x2 x3 A ⟨fb,1045,.func (.func k) #[] #[]::vs⟩ W H TL) (hm : 0 < m) (B : Frag) :
    Fn Tryd.prog K k #[.pointer (some ⟨fb,0,none⟩)] (x1::x2::x3::A::⟨fb,1045,.func (.func k) #[] #[]::vs⟩::W::H::B::TL) fun r L =>
      r = .tuple #[] ∧ ∃ pend m2 y1 y2 y3 A T W H TL,(pend ≠ [] ∨ m2 < m) ∧ DecSt src dt fb hb R gv pend m2 y1 y2 y3 A T W H TL ∧ L = y1::y2::y3::A::T::W::H::B::TL := by
  refine Fn.lose (Fn.perm (List.Perm.append_left [x1,x2,x3,A,_,W,H] (List.perm_append_comm (l₁ := [B]))) (Fn.frame (F := [B]) (step_spec hs hc D hm))) ?_
  rintro v L ⟨L1,⟨rfl,pend,m2,y1,y2,y3,A,T,W,H,TL,h1,h2,rfl⟩,rfl⟩
  exact ⟨_,[],((same_last y1 y2 y3 A T W H B TL).symm).trans (Same.of_eq (List.append_nil _).symm),rfl,pend,m2,y1,y2,y3,A,T,W,H,TL,h1,h2,rfl⟩
theorem all_drop {l : List UInt8} {n : Nat} (h : n = l.length) : l.drop n = [] := by rw [h,List.drop_length]

theorem decRead_walk {K : Known} {ea : Fin 5 → Addr} (hs : Sents K ea) (hc : Codes K) (src : Src K ea) (dt : List UInt8) (fb hb : Nat) (R : ResR) (gv pb po n c : Nat) (cs : List Value) (hn : n = cs.length) (hn0 : 0 < n) (pend0 : List UInt8) (m0 : Nat) (x1 x2 x3 A Tf Wf Hf : Frag) (TL : Frags) (hD : DecSt src dt fb hb R gv pend0 m0 x1 x2 x3 A Tf Wf Hf TL) (hall0 : m0 = 0 → gv + pend0.length = R.1.length) : Fn Tryd.prog K 119 #[.pointer (some ⟨fb,0,none⟩),.slice (some ⟨pb,po,none⟩) (n) (c)] ([x1,x2,x3,A,Tf,Wf,Hf,⟨pb,po,cs⟩] ++ TL) (fun r L => ∃ L2 J,Same L (L2 ++ J) ∧ ReadEnd src dt fb R gv pb po n cs r L2) := by
 refine Fn.intro (args := [.pointer (some ⟨fb,0,none⟩),.slice (some ⟨pb,po,none⟩) (n) (c)]) (RR := Ret2 4 5 _) Tryd.func119 rfl rfl Tryd.ntmps119 (res2 Tryd.results119) ?_
 refine C.reenv (env2 := [(0,.pointer (some ⟨fb,0,none⟩)),(1,.slice (some ⟨pb,po,none⟩) (n) (c))]) rfl ?_
 refine C.sr ?_
 refine E.pure (S.assign rfl) rfl ?_
 refine E.pure (S.assign (v := Er.val ea .none) rfl) rfl ?_
 refine E.kp [(0,_),(1,_),(4,_),(5,_)] rfl ?_
 refine C.block ?_
 refine C.loop (fun mm ee ll => ∃ (pend : List UInt8),∃ (m : Nat),∃ (x1 : Frag),∃ (x2 : Frag),∃ (x3 : Frag),∃ (A : Frag),∃ (Tf : Frag),∃ (Wf : Frag),∃ (Hf : Frag),∃ (TL : Frags),keeps ee [0,1] = some [(0,.pointer (some ⟨fb,0,none⟩)),(1,.slice (some ⟨pb,po,none⟩) (n) (c))] ∧ ll = [x1,x2,x3,A,Tf,Wf,Hf,⟨pb,po,cs⟩] ++ TL ∧ (DecSt src dt fb hb R gv pend m x1 x2 x3 A Tf Wf Hf TL) ∧ (m = 0 → gv + pend.length = R.1.length) ∧ mm = mz pend m) (_) ⟨pend0,m0,_,_,_,_,_,_,_,_,rfl,rfl,hD,hall0,rfl⟩ ?_
 rintro m0 _ _ ⟨pend,m,x1,x2,x3,A,Tf,Wf,Hf,TL,hk0,rfl,hD,hall0,hm0⟩
 refine C.weaken _ hk0 ?_
 refine C.block ?_
 refine C.seq ?_
 refine C.seq ?_
 obtain ⟨er,fv,c1,c2,c5,c6,c7,c8,trv,h,wr,rd,full,V⟩ := hD.view
 have hT := V.isT
 have hW := V.isW
 have hH := V.isH
 subst hT hW hH
 obtain ⟨a,ca,htv,hl32,hw⟩ := V.tr
 subst htv
 have hgl := V.gvLe
 have hpi := V.pendIs
 have hrl := V.rdLe
 have hwl := V.wrLt
 have hrlen : (R.1.drop gv).length = R.1.length - gv := List.length_drop
 refine C.region ?_
 refine E.pure (S.move rfl) rfl ?_
 refine E.pure (S.nilPtr rfl) rfl ?_
 refine E.pure (S.field rfl fa153_15) rfl ?_
 refine E.still (S.load 4 (k := 4) rfl rfl rfl Tryd.isAgg22) rfl ?_
 refine E.pure (S.lenSl rfl Tryd.underlying22) rfl ?_
 refine E.pure (S.gt (b := ((0 : Nat) : Int)) rfl rfl) rfl ?_
 refine E.kp [(0,_),(1,_),(12,_)] rfl ?_
 refine C.ifp rfl (fun h12 => ?_) (fun h12 => ?_)
 ·
  have hpos : 0 < pend.length := by omega
  obtain ⟨off,rfl,hwin,hcap⟩ := hw.resolve_left (fun h => by rw [h] at hpos; exact absurd hpos (Nat.lt_irrefl _))
  obtain ⟨k,hk⟩ : ∃ k,k = Nat.min pend.length n := ⟨_,rfl⟩
  have hkl : k ≤ pend.length := by rw [hk]; exact Nat.min_le_left _ _
  have hkn : k ≤ n := by rw [hk]; exact Nat.min_le_right _ _
  have hkp : 0 < k := by rw [hk]; exact Nat.lt_min.2 ⟨hpos,hn0⟩
  have hbuf : bytesV (pend.take n) ++ cs.drop (Nat.min pend.length n) = bytesV ((R.1.drop gv).take k) ++ cs.drop k := by rw [pend_take hpi,hk]
  have hpart : ∀ o2,some (⟨hb,off,none⟩ : Addr) = some ⟨hb,o2,none⟩ → k < pend.length → pend.length ≤ ca → some (⟨hb,part off k ca 1,none⟩ : Addr) = some ⟨hb,o2 + k,none⟩ ∧ pend.length - k ≤ ca - k := fun o2 e h1 h2 => by
    cases e
    exact ⟨by rw [part,if_neg (by omega),Nat.mul_one],by omega⟩
  refine C.sr ?_
  refine E.pure (S.move rfl) rfl ?_
  refine E.pure (S.move rfl) rfl ?_
  refine E.pure (S.nilPtr rfl) rfl ?_
  refine E.pure (S.field rfl fa153_15) rfl ?_
  refine E.still (S.load 4 (k := 4) rfl rfl rfl Tryd.isAgg22) rfl ?_
  refine E.loud1 (X.copyB 7 (l := pend) rfl rfl rfl rfl (.inr ⟨hb,off,rfl,reads_win (i := 6) rfl hwin⟩) (by omega)) rfl ?_; rintro _ _ ⟨rfl,rfl⟩; refine E.relist (L2 := (_::_::_::_::_::_::_::_::_)) rfl ?_
  refine E.reslot (v := .int .i64 ((k : Nat) : Int)) (by rw [hk]) ?_
  refine E.pure (S.assign rfl) rfl ?_
  refine E.kp [(0,_),(1,_),(6,_),(12,_)] rfl ?_
  refine C.sr ?_
  refine E.pure (S.move rfl) rfl ?_
  refine E.pure (S.move rfl) rfl ?_
  refine E.pure (S.nilPtr rfl) rfl ?_
  refine E.pure (S.field rfl fa153_15) rfl ?_
  refine E.still (S.load 4 (k := 4) rfl rfl rfl Tryd.isAgg22) rfl ?_
  refine E.pure (S.move rfl) rfl ?_
  refine E.pure (S.slL rfl rfl (by omega) Tryd.underlying22 Tryd.sizeOf5) rfl ?_
  refine E.pure (S.nilPtr rfl) rfl ?_
  refine E.pure (S.field rfl fa153_15) rfl ?_
  refine E.loud0 (X.store 4 (k := 4) rfl rfl rfl rfl rfl Tryd.sizeOf22) ?_; rintro _ _ ⟨rfl,rfl⟩; refine E.relist (L2 := (_::_::_::_::_::_::_::_::_)) rfl ?_
  refine E.kp [(0,_),(1,_),(6,_),(12,_)] rfl ?_
  refine C.seq ?_
  refine C.sr ?_
  refine E.pure (S.move rfl) rfl ?_
  refine E.pure (S.nilPtr rfl) rfl ?_
  refine E.pure (S.field rfl fa153_15) rfl ?_
  refine E.still (S.load 4 (k := 4) rfl rfl rfl Tryd.isAgg22) rfl ?_
  refine E.pure (S.lenSl rfl Tryd.underlying22) rfl ?_
  refine E.pure (S.eq (b := ((0 : Nat) : Int)) rfl rfl) rfl ?_
  refine E.kp [(0,_),(1,_),(6,_),(12,_),(33,_)] rfl ?_
  refine C.ifp rfl (fun h33 => ?_) (fun h33 => ?_)
  ·
   refine C.seq ?_
   refine C.draw [0,0,2,4,8,1,63] (.pure 0 30 (.pure 1 33 (.pure 2 35 (.pure 3 39 (.pure 5 31 (.seg [(4,47),(6,63)] .done)))))) mixed (by decide +kernel) ?_
   refine D.pure rfl (S.move rfl) rfl ?_
   refine D.pure rfl (S.move rfl) rfl ?_
   refine D.pure rfl (S.nilPtr rfl) rfl ?_
   refine D.pure rfl (S.field rfl fa153_14) rfl ?_
   refine D.pure rfl (S.assign rfl) rfl ?_
   refine D.seg (by decide) ?_
   refine W.still rfl (S.load 4 (k := 3) rfl rfl rfl Tryd.isAgg59) rfl ?_
   refine W.pure rfl (S.assign rfl) rfl ?_
   refine W.nil ?_
   refine D.kp [(0,_),(1,_),(4,_),(5,_),(6,_),(12,_),(33,_)] rfl ?_
   refine C.ret ?_
   have hk : k = pend.length := by omega
   have hg := V.give k _ hkl (V.tr.drop hkl hpart)
   rw [show pend.drop k = [] from all_drop hk] at hg
   rcases V.kind with ⟨rfl,hmp,_⟩ | ⟨hne,rfl,hE,hall⟩
   · exact ⟨_,_,rfl,rfl,_,[],((same_last _ _ _ _ _ _ _ _ _).trans (Same.of_eq (List.append_nil _).symm)),k,.none,_,rfl,by omega,by omega,congrArg (fun z => _ ++ [(⟨pb,po,z⟩ : Frag)]) hbuf,.inl ⟨rfl,by omega,hb,[],m,_,_,_,_,_,_,_,_,hg,fun h => absurd hmp (by omega),rfl⟩⟩
   · have hgk : gv + k = R.1.length := by
       rcases hall with h | h
       · rw [h] at hpos; exact absurd hpos (Nat.lt_irrefl _)
       · omega
     rw [hgk] at hg
     exact ⟨_,_,rfl,rfl,_,[],((same_last _ _ _ _ _ _ _ _ _).trans (Same.of_eq (List.append_nil _).symm)),k,er,_,rfl,by omega,by omega,congrArg (fun z => _ ++ [(⟨pb,po,z⟩ : Frag)]) hbuf,.inr ⟨hne,hgk,hb,_,_,_,_,_,_,_,_,hg,hE,rfl⟩⟩
  refine C.skip ?_
  refine C.sr ?_
  refine E.pure (S.move rfl) rfl ?_
  refine E.pure (S.assign rfl) rfl ?_
  refine E.pure (S.assign (v := Er.val ea .none) rfl) rfl ?_
  refine E.kp [(0,_),(1,_),(4,_),(5,_),(6,_),(12,_),(33,_)] rfl ?_
  refine C.ret ?_
  have hg := V.give k _ hkl (V.tr.drop hkl hpart)
  exact ⟨_,_,rfl,rfl,_,[],((same_last _ _ _ _ _ _ _ _ _).trans (Same.of_eq (List.append_nil _).symm)),k,.none,_,rfl,by omega,by omega,congrArg (fun z => _ ++ [(⟨pb,po,z⟩ : Frag)]) hbuf,.inl ⟨rfl,by omega,hb,_,m,_,_,_,_,_,_,_,_,hg,fun h => by have := hall0 h; rw [List.length_drop]; omega,rfl⟩⟩
 have hp0 : pend = [] := List.eq_nil_of_length_eq_zero (by omega)
 subst hp0
 refine C.skip ?_
 refine C.seq ?_
 refine C.sr ?_
 refine E.pure (S.move rfl) rfl ?_
 refine E.pure (S.nilPtr rfl) rfl ?_
 refine E.pure (S.field rfl fa153_14) rfl ?_
 refine E.still (S.load 4 (k := 3) rfl rfl rfl Tryd.isAgg59) rfl ?_
 refine E.still (S.neErNil rfl) rfl ?_
 refine E.kp [(0,_),(1,_),(12,_),(44,_)] rfl ?_
 first | refine C.ifp rfl (fun h44 => ?_) (fun h44 => ?_) | refine C.ifNone rfl (fun h44 => ?_) (fun h44 => ?_) | refine C.ifSome rfl (fun h44 => ?_) (fun h44 => ?_) | refine C.ifSe rfl (fun h44 => ?_) (fun h44 => ?_) | refine C.ifNotSe rfl (fun h44 => ?_) (fun h44 => ?_) | refine C.cond rfl (fun h44 => ?_) (fun h44 => ?_)
 ·
  refine C.seq ?_
  refine C.draw [0,1,2,4,0,31] (.pure 0 16 (.pure 1 17 (.pure 2 19 (.pure 4 15 (.seg [(3,23),(5,31)] .done))))) mixed (by decide +kernel) ?_
  refine D.pure rfl (S.move rfl) rfl ?_
  refine D.pure rfl (S.nilPtr rfl) rfl ?_
  refine D.pure rfl (S.field rfl fa153_14) rfl ?_
  refine D.pure rfl (S.assign rfl) rfl ?_
  refine D.seg (by decide) ?_
  refine W.still rfl (S.load 4 (k := 3) rfl rfl rfl Tryd.isAgg59) rfl ?_
  refine W.pure rfl (S.assign rfl) rfl ?_
  refine W.nil ?_
  refine D.kp [(0,_),(1,_),(4,_),(5,_),(12,_),(44,_)] rfl ?_
  refine C.ret ?_
  obtain ⟨hne,rfl,hE,_⟩ := V.kind.resolve_left fun h => h44 h.1
  have hg0 := hall0 rfl
  simp only [List.length_nil,Nat.add_zero] at hg0
  have hD3 := hD
  rw [hg0] at hD3
  exact ⟨_,_,rfl,rfl,_,[],((same_last _ _ _ _ _ _ _ _ _).trans (Same.of_eq (List.append_nil _).symm)),0,er,_,rfl,Nat.zero_le _,Nat.zero_le _,rfl,.inr ⟨hne,by omega,hb,_,_,_,_,_,_,_,_,hD3,hE,rfl⟩⟩
 obtain ⟨_,hmp,kk,hfv,hkk⟩ := V.kind.resolve_right fun h => h.1 h44
 subst hfv
 have hcal : ∀ args w,(callFunc kk args).run Tryd.prog w = .ok (.enter kk args) w := by rcases hkk with rfl | rfl | rfl; exact Tryd.call67; exact Tryd.call74; exact Tryd.call79
 refine C.skip ?_
 refine C.sr ?_
 refine E.pure (S.move rfl) rfl ?_
 refine E.pure (S.nilPtr rfl) rfl ?_
 refine E.pure (S.field rfl fa153_11) rfl ?_
 refine E.still (S.load 4 (k := 0) rfl rfl rfl Tryd.isAgg150) rfl ?_
 refine E.pure (S.move rfl) rfl ?_
 refine E.loud1 (X.callv rfl rfl hcal (step_in hs hc hD hmp _)) rfl ?_; rintro _ _ ⟨rfl,pend2,m2,y1,y2,y3,A2,T2,W2,H2,TL2,hlt,hD2,rfl⟩; refine E.relist (L2 := (_::_::_::_::_::_::_::_::_)) rfl ?_
 refine E.kp [(0,_),(1,_),(12,_),(44,_)] rfl ?_
 obtain ⟨er2,fv2,c12,c22,c52,c62,c72,c82,trv2,h2,wr2,rd2,full2,V2⟩ := hD2.view
 have hT2 := V2.isT
 have hW2 := V2.isW
 have hH2 := V2.isH
 subst hT2 hW2 hH2
 obtain ⟨a2,ca2,htv2,hl322,hw2⟩ := V2.tr
 subst htv2
 have hgl2 := V2.gvLe
 have hrl2 := V2.rdLe
 have hwl2 := V2.wrLt
 refine C.sr ?_
 refine E.pure (S.move rfl) rfl ?_
 refine E.pure (S.nilPtr rfl) rfl ?_
 refine E.pure (S.field rfl fa153_14) rfl ?_
 refine E.still (S.load 4 (k := 3) rfl rfl rfl Tryd.isAgg59) rfl ?_
 refine E.still (S.neErNil rfl) rfl ?_
 refine E.pure (S.move rfl) rfl ?_
 refine E.forkB (fun g60 => ?_) (fun g60 => ?_)
 ·
  have he2 : er2 ≠ .none := fun h => by rw [h] at g60; exact absurd g60 (by decide)
  refine E.wanted 60 rfl rfl ?_
  refine E.pure (S.move rfl) rfl ?_
  refine E.wanted 60 rfl rfl ?_
  refine E.pure (S.nilPtr rfl) rfl ?_
  refine E.wanted 60 rfl rfl ?_
  refine E.pure (S.field rfl fa153_15) rfl ?_
  refine E.wanted 60 rfl rfl ?_
  refine E.still (S.load 4 (k := 4) rfl rfl rfl Tryd.isAgg22) rfl ?_
  refine E.wanted 60 rfl rfl ?_
  refine E.pure (S.lenSl rfl Tryd.underlying22) rfl ?_
  refine E.wanted 60 rfl rfl ?_
  refine E.pure (S.eq (b := ((0 : Nat) : Int)) rfl rfl) rfl ?_
  refine E.pure (S.pickT rfl rfl) rfl ?_
  refine E.kp [(0,_),(1,_),(12,_),(44,_),(67,_)] rfl ?_
  refine C.ifp rfl (fun h67 => ?_) (fun h67 => ?_)
  ·
   have hp2 : pend2 = [] := List.eq_nil_of_length_eq_zero (by omega)
   refine C.region ?_
   refine E.pure (S.move rfl) rfl ?_
   refine E.pure (S.move rfl) rfl ?_
   refine E.pure (S.nilPtr rfl) rfl ?_
   refine E.pure (S.field rfl fa153_9) rfl ?_
   refine E.loud1 (OpX.pick [5] (F := (_::_::_::_::_::_::_::_)) rfl (X.call rfl Tryd.call77 (readFlush_spec fb 1037 hb wr2 rd2 full2 hrl2 (by omega)))) rfl ?_; rintro _ _ ⟨_,⟨Aw,hfl,rfl⟩,rfl⟩; refine E.relist (L2 := (_::_::_::_::_::_::_::_::_)) rfl ?_
   refine E.perml [1,1,1,1,1,0,0,0] rfl ?_
   refine E.relist (L2 := (_::_::_::_::_::_::_::_::_)) rfl ?_
   refine E.pure (S.nilPtr rfl) rfl ?_
   refine E.pure (S.field rfl fa153_15) rfl ?_
   refine E.loud0 (X.store 4 (k := 4) rfl rfl rfl (flush_one hfl) rfl Tryd.sizeOf22) ?_; rintro _ _ ⟨rfl,rfl⟩; refine E.relist (L2 := (_::_::_::_::_::_::_::_::_)) rfl ?_
   refine E.kp [(0,_),(1,_),(12,_),(44,_),(67,_)] rfl ?_
   refine ⟨_,?_,R.1.drop gv,0,_,_,_,_,_,_,_,_,rfl,rfl,V2.flush _ _ he2 hp2 hfl,fun _ => (by rw [hrlen]; omega),rfl⟩; rw [hm0]; exact mz_step hmp (.inr hmp)
  refine C.skip ?_
  have hne2 : pend2 ≠ [] := fun h => by rw [h] at h67; exact h67 rfl
  obtain ⟨_,hm20,_,hal2⟩ := V2.kind.resolve_left fun h => he2 h.1
  refine ⟨_,?_,pend2,m2,_,_,_,_,_,_,_,_,rfl,rfl,hD2,fun _ => hal2.resolve_left hne2,rfl⟩; rw [hm0]; exact mz_step hmp hlt
 have he2 : er2 = .none := Er.isNone_iff.1 (by simpa using g60)
 refine E.guardNo 60 false rfl rfl rfl rfl ?_
 refine E.guardNo 60 false rfl rfl rfl rfl ?_
 refine E.guardNo 60 false rfl rfl rfl rfl ?_
 refine E.guardNo 60 false rfl rfl rfl rfl ?_
 refine E.guardNo 60 false rfl rfl rfl rfl ?_
 refine E.guardNo 60 false rfl rfl rfl rfl ?_
 refine E.pure (S.pickF rfl rfl) rfl ?_
 refine E.kp [(0,_),(1,_),(12,_),(44,_),(67,_)] rfl ?_
 refine C.no rfl (rfl) ?_
 refine C.skip ?_
 obtain ⟨_,hm20,_⟩ := V2.kind.resolve_right fun h => h.1 he2
 refine ⟨_,?_,pend2,m2,_,_,_,_,_,_,_,_,rfl,rfl,hD2,fun h => absurd hm20 (by omega),rfl⟩; rw [hm0]; exact mz_step hmp hlt
end Go.Eng
namespace Go.Eng
open Go Go.Proofs
set_option maxRecDepth 100000

set_option maxHeartbeats 1000000
theorem D.same {P : Program} {K : Known} {n : Nat} {ops : Array Oper} {ds : List Nat} {p : Plan} {env : Env} {L L2 : Frags} {N : Post} (s : Same L L2) (h : wpD P K n ops ds p env L2 N) : wpD P K n ops ds p env L N :=
  fun fuel listed l h0 h00 h1 h2 a w hf hw Nw k => h fuel listed l h0 h00 h1 h2 a w hf ((s.agree K _).1 hw) Nw fun e l a w h f t => k e l a w h f (t.sameL s)
theorem fill_four {place : Nat → Option (Nat × Nat)} {cells : Array Value} {i off : Nat} {a b c d : Value} {rest : List (Nat × Value)} (h1 : place i = some (off,4)) (ho : off + 4 ≤ cells.size) :
    Instr.fill place cells ((i,.agg #[a,b,c,d])::rest) = Instr.fill place ((((cells.setIfInBounds off a).setIfInBounds (off + 1) b).setIfInBounds (off + 2) c).setIfInBounds (off + 3) d) rest := by
  rw [Instr.fill,h1]
  have e : (Value.agg #[a,b,c,d]).cells = #[a,b,c,d] := rfl
  simp only [e]
  rw [if_neg (by simp; omega)]
  rfl
theorem zcSize : (Value.agg Tryd.zeroCells153).cells.size = 1054 := by kernel_rfl
theorem zcSet (ab cb : Nat) (v1 v2 v3 v4 : Value) : ((((((((((Value.agg Tryd.zeroCells153).cells.setIfInBounds 1 (.pointer none)).setIfInBounds 1035 (.pointer (some ⟨ab,0,none⟩))).setIfInBounds 1036 (.pointer (some ⟨cb,0,none⟩))).setIfInBounds 1037 v1).setIfInBounds (1037 + 1) v2).setIfInBounds (1037 + 2) v3).setIfInBounds (1037 + 3) v4).setIfInBounds 1045 (.func (.func 67) #[] #[])) : Array Value) =
    (([[.nilIface,.pointer none,.int .i64 0,.int .u32 0,.int .u64 0],[.int .i64 0],(List.replicate 512 (.int .u32 0)),[.slice none 0 0,.int .u32 0],[.int .i64 0],(List.replicate 512 (.int .u32 0)),[.slice none 0 0,.int .u32 0],[.pointer (some ⟨ab,0,none⟩),.pointer (some ⟨cb,0,none⟩)],[v1,v2,v3,v4],[.int .u8 0,.int .u8 0,.int .u8 0,.int .u8 0],[.func (.func 67) #[] #[],.int .i64 0,.bool false,.nilIface,.slice none 0 0,.pointer none,.pointer none,.int .i64 0,.int .i64 0]] : List (List Value)).flatten).toArray := by
  apply Array.ext'
  simp only [Array.toList_setIfInBounds]
  rw [zcDec]
  kernel_rfl
theorem resetBuild (ab cb hb wr rd : Nat) (full : Bool) (w : World) : (Instr.build 153 [(1,.pointer none),(7,.pointer (some ⟨ab,0,none⟩)),(8,.pointer (some ⟨cb,0,none⟩)),(9,.agg #[.slice (some ⟨hb,0,none⟩) 32768 32768,.int .i64 ((wr : Nat) : Int),.int .i64 ((rd : Nat) : Int),.bool full]),(11,.func (.func 67) #[] #[])].toArray).run Tryd.prog w = .ok (.agg (([[.nilIface,.pointer none,.int .i64 0,.int .u32 0,.int .u64 0],[.int .i64 0],(List.replicate 512 (.int .u32 0)),[.slice none 0 0,.int .u32 0],[.int .i64 0],(List.replicate 512 (.int .u32 0)),[.slice none 0 0,.int .u32 0],[.pointer (some ⟨ab,0,none⟩),.pointer (some ⟨cb,0,none⟩)],[.slice (some ⟨hb,0,none⟩) 32768 32768,.int .i64 ((wr : Nat) : Int),.int .i64 ((rd : Nat) : Int),.bool full],[.int .u8 0,.int .u8 0,.int .u8 0,.int .u8 0],[.func (.func 67) #[] #[],.int .i64 0,.bool false,.nilIface,.slice none 0 0,.pointer none,.pointer none,.int .i64 0,.int .i64 0]] : List (List Value)).flatten).toArray) w := by
  simp [Instr.build,Tryd.zeroValue153]
  rw [fill_one (off := 1) rfl rfl (by rw [zcSize]; decide),fill_one (off := 1035) rfl rfl (by simp only [Array.size_setIfInBounds,zcSize]; decide),fill_one (off := 1036) rfl rfl (by simp only [Array.size_setIfInBounds,zcSize]; decide),fill_four (off := 1037) rfl (by simp only [Array.size_setIfInBounds,zcSize]; decide),
    fill_one (off := 1045) rfl rfl (by simp only [Array.size_setIfInBounds,zcSize]; decide),fill_nil]
  rw [zcSet]
  rfl

theorem dictInit_old {K : Known} (fb o hb : Nat) (h : List UInt8) (hl : h.length = 32768) (c1 c2 c3 : Value) : Fn Tryd.prog K 68 #[.pointer (some ⟨fb,o,none⟩),.int .i64 ((32768 : Nat) : Int),.slice none 0 0] ([⟨hb,0,bytesV h⟩,⟨fb,o,[.slice (some ⟨hb,0,none⟩) 32768 32768,c1,c2,c3]⟩]) (fun r L => r = .tuple #[] ∧ L = [⟨hb,0,bytesV h⟩,⟨fb,o,[.slice (some ⟨hb,0,none⟩) 32768 32768,.int .i64 0,.int .i64 0,.bool false]⟩]) := by
 refine Fn.intro (args := [.pointer (some ⟨fb,o,none⟩),.int .i64 ((32768 : Nat) : Int),.slice none 0 0]) (RR := Ret0 _) Tryd.func68 rfl rfl Tryd.ntmps68 (res0 Tryd.results68) ?_
 refine C.reenv (env2 := [(0,.pointer (some ⟨fb,o,none⟩)),(1,.int .i64 ((32768 : Nat) : Int)),(2,.slice none 0 0)]) rfl ?_
 refine C.sr ?_
 refine E.pure (S.move rfl) rfl ?_
 refine E.pure (S.move rfl) rfl ?_
 refine E.pure (S.nilPtr rfl) rfl ?_
 refine E.pure (S.field rfl fa148_0) rfl ?_
 refine E.still (S.load 1 (k := 0) rfl rfl rfl Tryd.isAgg22) rfl ?_
 refine E.pure (S.buildV (v := .agg #[.slice (some ⟨hb,0,none⟩) 32768 32768,.int .i64 0,.int .i64 0,.bool false]) [(0,.slice (some ⟨hb,0,none⟩) 32768 32768)] rfl (fun w => by simp [Instr.build,Instr.fill,Value.cells,Tryd.zeroValue148])) rfl ?_
 refine E.pure (S.nilPtr rfl) rfl ?_
 refine E.loud0 (X.storeA 1 (k := 0) rfl rfl rfl rfl rfl rfl Tryd.sizeOf148 rfl) ?_; rintro _ _ ⟨rfl,rfl⟩; refine E.relist (L2 := [_,_]) rfl ?_
 refine E.kp [(0,_),(1,_),(2,_)] rfl ?_
 refine C.seq ?_
 refine C.sr ?_
 refine E.pure (S.move rfl) rfl ?_
 refine E.pure (S.nilPtr rfl) rfl ?_
 refine E.pure (S.field rfl fa148_0) rfl ?_
 refine E.still (S.load 1 (k := 0) rfl rfl rfl Tryd.isAgg22) rfl ?_
 refine E.pure (S.capSl rfl Tryd.underlying22) rfl ?_
 refine E.pure (S.move rfl) rfl ?_
 refine E.pure (S.lt rfl rfl) rfl ?_
 refine E.reslot (v := .bool false) (congrArg Value.bool (by decide)) ?_
 refine E.kp [(0,_),(1,_),(2,_),(19,_)] rfl ?_
 refine C.no rfl (rfl) ?_
 refine C.skip ?_
 refine C.sr ?_
 refine E.pure (S.move rfl) rfl ?_
 refine E.pure (S.move rfl) rfl ?_
 refine E.pure (S.nilPtr rfl) rfl ?_
 refine E.pure (S.field rfl fa148_0) rfl ?_
 refine E.still (S.load 1 (k := 0) rfl rfl rfl Tryd.isAgg22) rfl ?_
 refine E.pure (S.move rfl) rfl ?_
 refine E.pure (S.slH rfl rfl (by omega) Tryd.underlying22 Tryd.sizeOf5) rfl ?_
 refine E.reslot (v := .slice (some ⟨hb,0,none⟩) 32768 32768) (slice_to (by simp [part]) rfl rfl) ?_
 refine E.pure (S.nilPtr rfl) rfl ?_
 refine E.pure (S.field rfl fa148_0) rfl ?_
 refine E.loud0 (X.store 1 (k := 0) rfl rfl rfl rfl rfl Tryd.sizeOf22) ?_; rintro _ _ ⟨rfl,rfl⟩; refine E.relist (L2 := [_,_]) rfl ?_
 refine E.kp [(0,_),(1,_),(2,_),(19,_)] rfl ?_
 refine C.seq ?_
 refine C.sr ?_
 refine E.pure (S.move rfl) rfl ?_
 refine E.pure (S.lenSl rfl Tryd.underlying22) rfl ?_
 refine E.pure (S.move rfl) rfl ?_
 refine E.pure (S.nilPtr rfl) rfl ?_
 refine E.pure (S.field rfl fa148_0) rfl ?_
 refine E.still (S.load 1 (k := 0) rfl rfl rfl Tryd.isAgg22) rfl ?_
 refine E.pure (S.lenSl rfl Tryd.underlying22) rfl ?_
 refine E.pure (S.gt rfl rfl) rfl ?_
 refine E.reslot (v := .bool false) (congrArg Value.bool (by decide)) ?_
 refine E.kp [(0,_),(1,_),(2,_),(19,_),(41,_)] rfl ?_
 refine C.no rfl (rfl) ?_
 refine C.skip ?_
 refine C.sr ?_
 refine E.pure (S.move rfl) rfl ?_
 refine E.pure (S.move rfl) rfl ?_
 refine E.pure (S.nilPtr rfl) rfl ?_
 refine E.pure (S.field rfl fa148_0) rfl ?_
 refine E.still (S.load 1 (k := 0) rfl rfl rfl Tryd.isAgg22) rfl ?_
 refine E.pure (S.move rfl) rfl ?_
 refine E.loud1 (X.copyB 0 (l := []) rfl rfl rfl rfl (.inl rfl) (by rw [bytesV_length,hl]; exact Nat.le_refl _)) rfl ?_; rintro _ _ ⟨rfl,rfl⟩; refine E.relist (L2 := [_,_]) rfl ?_
 refine E.pure (S.nilPtr rfl) rfl ?_
 refine E.pure (S.field rfl fa148_1) rfl ?_
 refine E.loud0 (X.store 1 (k := 1) rfl rfl rfl rfl rfl Tryd.sizeOf3) ?_; rintro _ _ ⟨rfl,rfl⟩; refine E.relist (L2 := [_,_]) rfl ?_
 refine E.kp [(0,_),(1,_),(2,_),(19,_),(41,_)] rfl ?_
 refine C.seq ?_
 refine C.seq ?_
 refine C.draw [0,1,2,4,0,16,32,64,128,264] (.pure 0 496 (.pure 1 497 (.pure 2 499 (.pure 4 15 (.pure 5 31 (.pure 6 63 (.seg [(3,503),(7,127),(8,255),(9,511)] .done))))))) mixed (by decide +kernel) ?_
 refine D.pure rfl (S.move rfl) rfl ?_
 refine D.pure rfl (S.nilPtr rfl) rfl ?_
 refine D.pure rfl (S.field rfl fa148_1) rfl ?_
 refine D.pure rfl (S.move rfl) rfl ?_
 refine D.pure rfl (S.nilPtr rfl) rfl ?_
 refine D.pure rfl (S.field rfl fa148_0) rfl ?_
 refine D.seg (by decide) ?_
 refine W.still rfl (S.load 1 (k := 1) rfl rfl rfl Tryd.isAgg3) rfl ?_
 refine W.still rfl (S.load 1 (k := 0) rfl rfl rfl Tryd.isAgg22) rfl ?_
 refine W.pure rfl (S.lenSl rfl Tryd.underlying22) rfl ?_
 refine W.pure rfl (S.eq rfl rfl) rfl ?_
 refine W.reslot (v := .bool false) (congrArg Value.bool (by decide)) ?_
 refine W.nil ?_
 refine D.kp [(0,_),(1,_),(2,_),(19,_),(41,_),(70,_)] rfl ?_
 refine C.no rfl (rfl) ?_
 refine C.skip ?_
 refine C.region ?_
 refine E.pure (S.move rfl) rfl ?_
 refine E.pure (S.move rfl) rfl ?_
 refine E.pure (S.nilPtr rfl) rfl ?_
 refine E.pure (S.field rfl fa148_1) rfl ?_
 refine E.still (S.load 1 (k := 1) rfl rfl rfl Tryd.isAgg3) rfl ?_
 refine E.pure (S.nilPtr rfl) rfl ?_
 refine E.pure (S.field rfl fa148_2) rfl ?_
 refine E.loud0 (X.store 1 (k := 2) rfl rfl rfl rfl rfl Tryd.sizeOf3) ?_; rintro _ _ ⟨rfl,rfl⟩; refine E.relist (L2 := [_,_]) rfl ?_
 refine E.kp [(0,_),(1,_),(2,_),(19,_),(41,_),(70,_)] rfl ?_
 exact ⟨rfl,rfl⟩
/-- A decompressor that may be used anew. -/
def DecRaw (fb : Nat) (L : Frags) : Prop := ∃ ab cb hb e0 e2 e3 e4 t9 wr rd full h ws av cs c1 c2,t9.length = 9 ∧ h.length = 32768 ∧ ws.length = 4 ∧ av.length = 316 ∧ cs.length = 19 ∧ c1.length = 515 ∧ c2.length = 515 ∧
  L = [⟨fb,0,[e0,.pointer none,e2,e3,e4]⟩,⟨fb,1045,t9⟩,⟨fb,1037,[.slice (some ⟨hb,0,none⟩) 32768 32768,.int .i64 ((wr : Nat) : Int),.int .i64 ((rd : Nat) : Int),.bool full]⟩,⟨hb,0,bytesV h⟩,⟨fb,1041,ws⟩,⟨fb,1035,[.pointer (some ⟨ab,0,none⟩),.pointer (some ⟨cb,0,none⟩)]⟩,⟨ab,0,av⟩,⟨cb,0,cs⟩,⟨fb,5,c1⟩,⟨fb,520,c2⟩]
/-- One that was just made for a source. -/
def DecNew {K : Known} {ea : Fin 5 → Addr} (src : Src K ea) (fb : Nat) (L : Frags) : Prop := ∃ Af Tf Wf Hf TL,L = Af::Tf::Wf::Hf::TL ∧
  ∀ dt x1 x2 x3,src.At dt x1 x2 x3 → ∃ hb,DecSt src dt fb hb (run dt .next [] 0) 0 [] (8 * dt.length + 1) x1 x2 x3 Af Tf Wf Hf TL
/-- None,or one that may be used anew. -/
def DcIn (dcv : Value) (DL : Frags) : Prop := (dcv = .nilIface ∧ DL = []) ∨ ∃ fb,dcv = .iface 157 (.pointer (some ⟨fb,0,none⟩)) ∧ DecRaw fb DL

theorem DecSt.rawd {K : Known} {ea : Fin 5 → Addr} {src : Src K ea} {dt : List UInt8} {fb hb : Nat} {R : ResR} {gv : Nat} {pend : List UInt8} {m : Nat} {x1 x2 x3 Af Tf Wf Hf : Frag} {TL : Frags} (D : DecSt src dt fb hb R gv pend m x1 x2 x3 Af Tf Wf Hf TL) :
    ∃ DL J,DecRaw fb DL ∧ ∀ G,Same (G ++ (Af::Tf::Wf::Hf::TL)) ((G ++ DL) ++ J) := by
  have mk : ∀ {TL : Frags} {v0 v1 : List Value} {h : List UInt8} {wr rd : Nat} {full : Bool},v1.length = 9 → h.length = 32768 → (∃ e0 e2 e3 e4,v0 = [e0,.pointer none,e2,e3,e4]) → JunkTL fb TL → DecRaw fb (⟨fb,0,v0⟩::⟨fb,1045,v1⟩::⟨fb,1037,[.slice (some ⟨hb,0,none⟩) 32768 32768,.int .i64 (((wr) : Nat) : Int),.int .i64 (((rd) : Nat) : Int),.bool full]⟩::⟨hb,0,bytesV (h)⟩::TL) := by
    rintro TL v0 v1 h wr rd full h1 h2 ⟨e0,e2,e3,e4,rfl⟩ ⟨ab,cb,ws,av,cs,c1,c2,h3,h4,h5,h6,h7,rfl⟩
    exact ⟨ab,cb,hb,e0,e2,e3,e4,v1,wr,rd,full,h,ws,av,cs,c1,c2,h1,h2,h3,h4,h5,h6,h7,rfl⟩
  have one : ∀ {DL L : Frags},DecRaw fb DL → DL = L → ∃ DL J,DecRaw fb DL ∧ ∀ G,Same (G ++ L) ((G ++ DL) ++ J) := by
    rintro DL L h rfl
    exact ⟨DL,[],h,fun G => by rw [List.append_nil]; exact Same.refl _⟩
  rcases D with ⟨p,rfl,⟨q,nb,out,trv,h,wr,rd,full,ss,fin,hl,hd,cl,cd,⟨hA,b,ro,hB,rfl⟩,hn,hW,rfl,hss,hR⟩,hT⟩ | ⟨rfl,t,last,hl,hd,⟨p,q,nb,out,trv,h,wr,rd,full,ss,cl,cd,⟨hA,b,ro,hB,rfl⟩,hn,hW,rfl,hR⟩,hT⟩ | ⟨rfl,q,⟨out,trv,h,wr,rd,full,ss,last,hl,hd,cl,cd,⟨hA,b,ro,hB,rfl⟩,hW,rfl,hss,hcl,hR⟩,hT⟩ | ⟨rfl,⟨out,e,er,trv,h,wr,rd,full,hE,⟨a0,b0,c0,rfl⟩,hW,⟨a,b,c,d,f,g,i,rfl⟩,hR,hall⟩,hT⟩
  · have hWA := hW.isA
    have hWB := hW.isB
    subst hWA hWB
    exact one (mk rfl hW.hist.len ⟨_,_,_,_,rfl⟩ hT.junk) rfl
  · have hWA := hW.isA
    have hWB := hW.isB
    subst hWA hWB
    obtain ⟨TL2,J,h2,_⟩ := hT.raw []
    have hs := fun G => hT.raw G
    obtain ⟨ab,cb,ws,av,cs,lb,lo,hp,HL,HD,RT,h1,h2,h3,rfl,rfl,h6,h7,rfl,c1,c2,J,h8,h9,hS⟩ := hT
    refine ⟨_,J,mk (TL := [⟨fb,1041,ws⟩,⟨fb,1035,[.pointer (some ⟨ab,0,none⟩),.pointer (some ⟨cb,0,none⟩)]⟩,⟨ab,0,av⟩,⟨cb,0,cs⟩,⟨fb,5,c1⟩,⟨fb,520,c2⟩]) (v0 := [.iface src.t src.v,.pointer none,.int .i64 ro,.int .u32 ((b : Nat) : Int),.int .u64 ((nb : Nat) : Int)]) (v1 := [.func (.func 74) #[] #[],.int .i64 ((ss : Nat) : Int),.bool last,.nilIface,trv,.pointer (some ⟨lb,lo,none⟩),.pointer hp,.int .i64 ((cl : Nat) : Int),.int .i64 ((cd : Nat) : Int)]) (wr := wr) (rd := rd) (full := full) rfl hW.hist.len ⟨_,_,_,_,rfl⟩ ⟨ab,cb,ws,av,cs,c1,c2,h1,h2,h3,raw_len h8,raw_len h9,rfl⟩,fun G => ?_⟩
    have := hS (G ++ [⟨fb,0,[.iface src.t src.v,.pointer none,.int .i64 (ro),.int .u32 (((b) : Nat) : Int),.int .u64 (((nb) : Nat) : Int)]⟩,⟨fb,1045,[.func (.func 74) #[] #[],.int .i64 (((ss) : Nat) : Int),.bool last,.nilIface,trv,(.pointer (some ⟨lb,lo,none⟩)),(.pointer hp),.int .i64 (((cl) : Nat) : Int),.int .i64 (((cd) : Nat) : Int)]⟩,⟨fb,1037,[.slice (some ⟨hb,0,none⟩) 32768 32768,.int .i64 (((wr) : Nat) : Int),.int .i64 (((rd) : Nat) : Int),.bool full]⟩,⟨hb,0,bytesV (h)⟩,⟨fb,1041,ws⟩,⟨fb,1035,[.pointer (some ⟨ab,0,none⟩),.pointer (some ⟨cb,0,none⟩)]⟩,⟨ab,0,av⟩,⟨cb,0,cs⟩])
    simp only [List.append_assoc,List.cons_append,List.nil_append] at this ⊢
    exact this
  · have hWA := hW.isA
    have hWB := hW.isB
    subst hWA hWB
    exact one (mk rfl hW.hist.len ⟨_,_,_,_,rfl⟩ hT.junk) rfl
  · have hWA := hW.isA
    have hWB := hW.isB
    subst hWA hWB
    exact one (mk rfl hW.hist.len ⟨_,_,_,_,rfl⟩ hT) rfl

theorem z515 (fb o : Nat) (F : Frags) : Same ([⟨fb,o,[.int .i64 0]⟩,⟨fb,o + 1,(List.replicate 512 (.int .u32 0))⟩,⟨fb,o + 513,[.slice none 0 0,.int .u32 0]⟩] ++ F) (⟨fb,o,hufZ⟩::F) := by
  have e : hufZ = (([(o,[.int .i64 0]),(o + 1,(List.replicate 512 (.int .u32 0))),(o + 513,[.slice none 0 0,.int .u32 0])] : List (Nat × List Value)).map (·.2)).flatten := by kernel_rfl
  rw [e]
  exact (Same.chunks fb F [(o,[.int .i64 0]),(o + 1,(List.replicate 512 (.int .u32 0))),(o + 513,[.slice none 0 0,.int .u32 0])] o (by simp [chunksOk])).symm
/-- What is made,in the parts that the code goes on with. -/
theorem decNew {K : Known} {ea : Fin 5 → Addr} (src : Src K ea) (fb ab cb hb : Nat) (h : List UInt8) (av cs : List Value) (hl : h.length = 32768) (ha : av.length = 316) (hc : cs.length = 19) (G : Frags) :
    ∃ DN,DecNew src fb DN ∧ Same (G ++ (decParts fb [.iface src.t src.v,.pointer none,.int .i64 0,.int .u32 0,.int .u64 0] [.int .i64 0] (List.replicate 512 (.int .u32 0)) [.slice none 0 0,.int .u32 0] [.int .i64 0] (List.replicate 512 (.int .u32 0)) [.slice none 0 0,.int .u32 0] [.pointer (some ⟨ab,0,none⟩),.pointer (some ⟨cb,0,none⟩)] [.slice (some ⟨hb,0,none⟩) 32768 32768,.int .i64 0,.int .i64 0,.bool false] [.int .u8 0,.int .u8 0,.int .u8 0,.int .u8 0] [.func (.func 67) #[] #[],.int .i64 0,.bool false,.nilIface,.slice none 0 0,.pointer none,.pointer none,.int .i64 0,.int .i64 0] ++ [⟨ab,0,av⟩,⟨cb,0,cs⟩,⟨hb,0,bytesV h⟩])) (G ++ DN) := by
  refine ⟨[⟨fb,0,[.iface src.t src.v,.pointer none,.int .i64 0,.int .u32 0,.int .u64 0]⟩,⟨fb,1045,[.func (.func 67) #[] #[],.int .i64 0,.bool false,.nilIface,.slice none 0 0,.pointer none,.pointer none,.int .i64 0,.int .i64 0]⟩,⟨fb,1037,[.slice (some ⟨hb,0,none⟩) 32768 32768,.int .i64 0,.int .i64 0,.bool false]⟩,⟨hb,0,bytesV (h)⟩,⟨fb,1041,[.int .u8 0,.int .u8 0,.int .u8 0,.int .u8 0]⟩,⟨fb,1035,[.pointer (some ⟨ab,0,none⟩),.pointer (some ⟨cb,0,none⟩)]⟩,⟨ab,0,av⟩,⟨cb,0,cs⟩,⟨fb,5,hufZ⟩,⟨fb,520,hufZ⟩],⟨_,_,_,_,_,rfl,fun dt x1 x2 x3 hA => ⟨hb,.inl ⟨0,rfl,⟨0,0,[],.slice none 0 0,h,0,0,false,0,false,.pointer none,.pointer none,0,0,⟨hA,0,0,BitsIn.start dt (Nat.zero_le _),rfl⟩,by decide,⟨Hist.start h hl,Nat.le_refl _,by decide,rfl,rfl,TR.nil _ _ _ _,rfl,rfl⟩,rfl,.inl rfl,rfl⟩,⟨ab,cb,_,av,cs,hufZ,hufZ,rfl,ha,hc,rawZ,rawZ,rfl⟩⟩⟩⟩,Same.appendL G ?_⟩
  have e1 := z515 fb 5 [⟨fb,520,[.int .i64 0]⟩,⟨fb,520 + 1,(List.replicate 512 (.int .u32 0))⟩,⟨fb,520 + 513,[.slice none 0 0,.int .u32 0]⟩,⟨fb,0,[.iface src.t src.v,.pointer none,.int .i64 0,.int .u32 0,.int .u64 0]⟩,⟨fb,1045,[.func (.func 67) #[] #[],.int .i64 0,.bool false,.nilIface,.slice none 0 0,.pointer none,.pointer none,.int .i64 0,.int .i64 0]⟩,⟨fb,1037,[.slice (some ⟨hb,0,none⟩) 32768 32768,.int .i64 0,.int .i64 0,.bool false]⟩,⟨hb,0,bytesV (h)⟩,⟨fb,1041,[.int .u8 0,.int .u8 0,.int .u8 0,.int .u8 0]⟩,⟨fb,1035,[.pointer (some ⟨ab,0,none⟩),.pointer (some ⟨cb,0,none⟩)]⟩,⟨ab,0,av⟩,⟨cb,0,cs⟩]
  have e2 := z515 fb 520 [⟨fb,5,hufZ⟩,⟨fb,0,[.iface src.t src.v,.pointer none,.int .i64 0,.int .u32 0,.int .u64 0]⟩,⟨fb,1045,[.func (.func 67) #[] #[],.int .i64 0,.bool false,.nilIface,.slice none 0 0,.pointer none,.pointer none,.int .i64 0,.int .i64 0]⟩,⟨fb,1037,[.slice (some ⟨hb,0,none⟩) 32768 32768,.int .i64 0,.int .i64 0,.bool false]⟩,⟨hb,0,bytesV (h)⟩,⟨fb,1041,[.int .u8 0,.int .u8 0,.int .u8 0,.int .u8 0]⟩,⟨fb,1035,[.pointer (some ⟨ab,0,none⟩),.pointer (some ⟨cb,0,none⟩)]⟩,⟨ab,0,av⟩,⟨cb,0,cs⟩]
  refine Same.trans (Same.perm (picks_perm (is := [1,1,1,1,1,1,0,3,1,4,1,0,0,0]) (A := [_,_,_,_,_,_,_,_,_,_,_,_,_,_]) (F := []) rfl)) ?_
  refine Same.trans (Same.of_eq (List.append_nil _)) (Same.trans e1 ?_)
  refine Same.trans (Same.perm (picks_perm (is := [1,1,1]) (A := [_,_,_]) (F := _::_) rfl)) (Same.trans e2 ?_)
  exact (Same.perm (picks_perm (is := [2,2,2,2,2,2,2,2,1,0]) rfl)).trans (Same.of_eq (List.append_nil _))

theorem allOneR (ab cb hb wr rd : Nat) (full : Bool) : (([[.nilIface,.pointer none,.int .i64 0,.int .u32 0,.int .u64 0],[.int .i64 0],(List.replicate 512 (.int .u32 0)),[.slice none 0 0,.int .u32 0],[.int .i64 0],(List.replicate 512 (.int .u32 0)),[.slice none 0 0,.int .u32 0],[.pointer (some ⟨ab,0,none⟩),.pointer (some ⟨cb,0,none⟩)],[.slice (some ⟨hb,0,none⟩) 32768 32768,.int .i64 ((wr : Nat) : Int),.int .i64 ((rd : Nat) : Int),.bool full],[.int .u8 0,.int .u8 0,.int .u8 0,.int .u8 0],[.func (.func 67) #[] #[],.int .i64 0,.bool false,.nilIface,.slice none 0 0,.pointer none,.pointer none,.int .i64 0,.int .i64 0]] : List (List Value)).flatten).all one = true := by kernel_rfl
theorem lenR (ab cb hb wr rd : Nat) (full : Bool) : (([[.nilIface,.pointer none,.int .i64 0,.int .u32 0,.int .u64 0],[.int .i64 0],(List.replicate 512 (.int .u32 0)),[.slice none 0 0,.int .u32 0],[.int .i64 0],(List.replicate 512 (.int .u32 0)),[.slice none 0 0,.int .u32 0],[.pointer (some ⟨ab,0,none⟩),.pointer (some ⟨cb,0,none⟩)],[.slice (some ⟨hb,0,none⟩) 32768 32768,.int .i64 ((wr : Nat) : Int),.int .i64 ((rd : Nat) : Int),.bool full],[.int .u8 0,.int .u8 0,.int .u8 0,.int .u8 0],[.func (.func 67) #[] #[],.int .i64 0,.bool false,.nilIface,.slice none 0 0,.pointer none,.pointer none,.int .i64 0,.int .i64 0]] : List (List Value)).flatten).length = 1054 := by kernel_rfl
theorem decReset_walk {K : Known} {ea : Fin 5 → Addr} (src : Src K ea) (fb ab cb hb : Nat) (e0 e2 e3 e4 : Value) (t9 : List Value) (wr rd : Nat) (full : Bool) (h : List UInt8) (ws av cs c1 c2 : List Value) (h9 : t9.length = 9) (hl : h.length = 32768) (hws : ws.length = 4) (hav : av.length = 316) (hcs : cs.length = 19) (h1 : c1.length = 515) (h2 : c2.length = 515) : Fn Tryd.prog K 120 #[.pointer (some ⟨fb,0,none⟩),.iface src.t src.v,.slice none 0 0] ([⟨fb,0,[e0,.pointer none,e2,e3,e4]⟩,⟨fb,1045,t9⟩,⟨fb,1037,[.slice (some ⟨hb,0,none⟩) 32768 32768,.int .i64 ((wr : Nat) : Int),.int .i64 ((rd : Nat) : Int),.bool full]⟩,⟨hb,0,bytesV (h)⟩,⟨fb,1041,ws⟩,⟨fb,1035,[.pointer (some ⟨ab,0,none⟩),.pointer (some ⟨cb,0,none⟩)]⟩,⟨ab,0,av⟩,⟨cb,0,cs⟩,⟨fb,5,c1⟩,⟨fb,520,c2⟩]) (fun r L => r = Er.val ea .none ∧ ∃ DN,DecNew src fb DN ∧ Same L DN) := by
 refine Fn.intro (args := [.pointer (some ⟨fb,0,none⟩),.iface src.t src.v,.slice none 0 0]) (RR := Ret1 6 _) Tryd.func120 rfl rfl Tryd.ntmps120 (res1 Tryd.results120) ?_
 refine C.reenv (env2 := [(0,.pointer (some ⟨fb,0,none⟩)),(1,.iface src.t src.v),(2,.slice none 0 0)]) rfl ?_
 refine C.sr ?_
 refine E.pure (S.assign (v := Er.val ea .none) rfl) rfl ?_
 refine E.kp [(0,_),(1,_),(2,_),(6,_)] rfl ?_
 refine C.seq ?_
 refine C.draw [0,0,2,4,8,0,32,64,128,0,512,1024,2048,0,8192,16384,32768,69904,262143,524287] (.pure 0 262142 (.pure 1 131041 (.pure 2 131043 (.pure 3 131047 (.pure 5 130591 (.pure 6 130623 (.pure 7 130687 (.pure 9 123391 (.pure 10 123903 (.pure 11 124927 (.pure 13 8191 (.pure 14 16383 (.pure 15 32767 (.seg [(4,131055),(8,130815),(12,126975),(16,65535),(17,131071),(18,262143)] (.alt 19 .done .stop))))))))))))))) mixed (by decide +kernel) ?_
 refine D.pure rfl (S.move rfl) rfl ?_
 refine D.pure rfl (S.move rfl) rfl ?_
 refine D.pure rfl (S.nilPtr rfl) rfl ?_
 refine D.pure rfl (S.field rfl fa153_1) rfl ?_
 refine D.pure rfl (S.move rfl) rfl ?_
 refine D.pure rfl (S.nilPtr rfl) rfl ?_
 refine D.pure rfl (S.field rfl fa153_7) rfl ?_
 refine D.pure rfl (S.move rfl) rfl ?_
 refine D.pure rfl (S.nilPtr rfl) rfl ?_
 refine D.pure rfl (S.field rfl fa153_8) rfl ?_
 refine D.pure rfl (S.move rfl) rfl ?_
 refine D.pure rfl (S.nilPtr rfl) rfl ?_
 refine D.pure rfl (S.field rfl fa153_9) rfl ?_
 refine D.seg (by decide) ?_
 refine W.still rfl (S.load 0 (k := 1) rfl rfl rfl Tryd.isAgg112) rfl ?_
 refine W.still rfl (S.load 5 (k := 0) rfl rfl rfl Tryd.isAgg145) rfl ?_
 refine W.still rfl (S.load 5 (k := 1) rfl rfl rfl Tryd.isAgg146) rfl ?_
 refine W.still rfl (S.loadA 2 (k := 0) rfl rfl rfl rfl Tryd.isAgg148 Tryd.sizeOf148) rfl ?_
 refine W.pure rfl (S.buildV [(1,.pointer none),(7,.pointer (some ⟨ab,0,none⟩)),(8,.pointer (some ⟨cb,0,none⟩)),(9,.agg #[.slice (some ⟨hb,0,none⟩) 32768 32768,.int .i64 ((wr : Nat) : Int),.int .i64 ((rd : Nat) : Int),.bool full]),(11,.func (.func 67) #[] #[])] rfl (resetBuild ab cb hb wr rd full)) rfl ?_
 refine W.pure rfl (S.nilPtr rfl) rfl ?_
 refine W.nil ?_
 refine D.perml [0,7,7,4,1,2,0,0,0,0] (A := [_,_,_,_,_,_,_,_,_,_]) (F := []) rfl ?_
 refine D.same (Same.chunks fb [⟨hb,0,bytesV (h)⟩,⟨ab,0,av⟩,⟨cb,0,cs⟩] ([(0,[e0,.pointer none,e2,e3,e4]),(5,c1),(520,c2),(1035,[.pointer (some ⟨ab,0,none⟩),.pointer (some ⟨cb,0,none⟩)]),(1037,[.slice (some ⟨hb,0,none⟩) 32768 32768,.int .i64 ((wr : Nat) : Int),.int .i64 ((rd : Nat) : Int),.bool full]),(1041,ws),(1045,t9)] : List (Nat × List Value)) 0 (by simp [chunksOk,h1,h2,hws])).symm ?_
 refine D.relist (L2 := [⟨fb,0,_⟩,_,_,_]) rfl ?_
 refine D.one ?_
 refine O.loud0 rfl (X.storeA 0 (k := 0) rfl rfl rfl (allOneR ab cb hb wr rd full) (lenR ab cb hb wr rd full) (by rw [Nat.ble_eq]; simp [h1,h2,hws,h9]) Tryd.sizeOf153 rfl) ?_
 rintro _ _ ⟨rfl,rfl⟩
 refine D.relist (L2 := [⟨fb,0,([[.nilIface,.pointer none,.int .i64 0,.int .u32 0,.int .u64 0],[.int .i64 0],(List.replicate 512 (.int .u32 0)),[.slice none 0 0,.int .u32 0],[.int .i64 0],(List.replicate 512 (.int .u32 0)),[.slice none 0 0,.int .u32 0],[.pointer (some ⟨ab,0,none⟩),.pointer (some ⟨cb,0,none⟩)],[.slice (some ⟨hb,0,none⟩) 32768 32768,.int .i64 ((wr : Nat) : Int),.int .i64 ((rd : Nat) : Int),.bool full],[.int .u8 0,.int .u8 0,.int .u8 0,.int .u8 0],[.func (.func 67) #[] #[],.int .i64 0,.bool false,.nilIface,.slice none 0 0,.pointer none,.pointer none,.int .i64 0,.int .i64 0]] : List (List Value)).flatten⟩,⟨hb,0,bytesV (h)⟩,⟨ab,0,av⟩,⟨cb,0,cs⟩]) (congrArg (fun z => [(⟨fb,0,z⟩ : Frag),⟨hb,0,bytesV (h)⟩,⟨ab,0,av⟩,⟨cb,0,cs⟩]) (by rw [List.take_zero,List.nil_append,List.drop_eq_nil_of_le (by simp [h1,h2,hws,h9]),List.append_nil])) ?_
 refine D.same (decSame fb [⟨hb,0,bytesV (h)⟩,⟨ab,0,av⟩,⟨cb,0,cs⟩] [.nilIface,.pointer none,.int .i64 0,.int .u32 0,.int .u64 0] [.int .i64 0] (List.replicate 512 (.int .u32 0)) [.slice none 0 0,.int .u32 0] [.int .i64 0] (List.replicate 512 (.int .u32 0)) [.slice none 0 0,.int .u32 0] [.pointer (some ⟨ab,0,none⟩),.pointer (some ⟨cb,0,none⟩)] [.slice (some ⟨hb,0,none⟩) 32768 32768,.int .i64 ((wr : Nat) : Int),.int .i64 ((rd : Nat) : Int),.bool full] [.int .u8 0,.int .u8 0,.int .u8 0,.int .u8 0] [.func (.func 67) #[] #[],.int .i64 0,.bool false,.nilIface,.slice none 0 0,.pointer none,.pointer none,.int .i64 0,.int .i64 0] rfl rfl List.length_replicate rfl rfl List.length_replicate rfl rfl rfl rfl) ?_
 refine D.relist (L2 := [⟨fb,0,_⟩,⟨fb,5,_⟩,⟨fb,6,_⟩,⟨fb,518,_⟩,⟨fb,520,_⟩,⟨fb,521,_⟩,⟨fb,1033,_⟩,⟨fb,1035,_⟩,⟨fb,1037,_⟩,⟨fb,1041,_⟩,⟨fb,1045,_⟩,_,_,_]) rfl ?_
 refine D.kp [(0,_),(1,_),(2,_),(6,_)] rfl ?_
 refine C.sr ?_
 refine E.pure (S.move rfl) rfl ?_
 refine E.pure (S.move rfl) rfl ?_
 refine E.loud1 (OpX.pick [0] (F := [_,_,_,_,_,_,_,_,_,_,_,_,_]) rfl (X.call rfl Tryd.call66 (makeReader_spec src fb _ _ _ _ _))) rfl ?_; rintro _ _ ⟨_,⟨rfl,rfl⟩,rfl⟩; refine E.relist (L2 := [_,_,_,_,_,_,_,_,_,_,_,_,_,_]) rfl ?_
 refine E.perml [0,0,0,0,0,0,0,0,0,0,0,0,0,0] rfl ?_
 refine E.relist (L2 := [_,_,_,_,_,_,_,_,_,_,_,_,_,_]) rfl ?_
 refine E.kp [(0,_),(2,_),(6,_)] rfl ?_
 refine C.sr ?_
 refine E.pure (S.move rfl) rfl ?_
 refine E.pure (S.nilPtr rfl) rfl ?_
 refine E.pure (S.field rfl fa153_9) rfl ?_
 refine E.pure (S.move rfl) rfl ?_
 refine E.loud1 (OpX.pick [11,8] (F := [_,_,_,_,_,_,_,_,_,_,_,_]) rfl (X.call rfl Tryd.call68 (dictInit_old fb 1037 hb h hl _ _ _))) rfl ?_; rintro _ _ ⟨_,⟨rfl,rfl⟩,rfl⟩; refine E.relist (L2 := [_,_,_,_,_,_,_,_,_,_,_,_,_,_]) rfl ?_
 refine E.perml [2,2,2,2,2,2,2,2,1,1,1,0,0,0] rfl ?_
 refine E.relist (L2 := [_,_,_,_,_,_,_,_,_,_,_,_,_,_]) rfl ?_
 refine E.kp [(0,_),(6,_)] rfl ?_
 refine C.sr ?_
 refine E.pure (S.assign (v := Er.val ea .none) rfl) rfl ?_
 refine E.kp [(0,_),(6,_)] rfl ?_
 refine C.ret ?_
 obtain ⟨DN,hDN,hS⟩ := decNew src fb ab cb hb h av cs hl hav hcs []
 refine ⟨_,rfl,rfl,DN,hDN,Same.trans ?_ hS⟩
 exact (Same.perm (picks_perm (is := [0,0,0,0,0,0,0,0,0,0,0,1,1,0]) rfl)).trans (Same.of_eq (List.append_nil _))
theorem decReset_in {K : Known} {ea : Fin 5 → Addr} (src : Src K ea) {fb : Nat} {DL : Frags} (hD : DecRaw fb DL) (G : Frags) :
    Fn Tryd.prog K 120 #[.pointer (some ⟨fb,0,none⟩),.iface src.t src.v,.slice none 0 0] (G ++ DL) fun r L => r = Er.val ea .none ∧ ∃ DN,DecNew src fb DN ∧ L = G ++ DN := by
  obtain ⟨ab,cb,hb,e0,e2,e3,e4,t9,wr,rd,full,h,ws,av,cs,c1,c2,h1,h2,h3,h4,h5,h6,h7,rfl⟩ := hD
  refine Fn.sameR (Fn.perm List.perm_append_comm (Fn.frame (F := G) (decReset_walk src fb ab cb hb e0 e2 e3 e4 t9 wr rd full h ws av cs c1 c2 h1 h2 h3 h4 h5 h6 h7))) ?_
  rintro v L ⟨L1,⟨rfl,DN,hDN,hS⟩,rfl⟩
  exact ⟨G ++ DN,(Same.perm List.perm_append_comm).trans (Same.appendL G hS),rfl,DN,hDN,rfl⟩
theorem flateNew_in {K : Known} {ea : Fin 5 → Addr} (src : Src K ea) (G : Frags) :
    Fn Tryd.prog K 59 #[.iface src.t src.v] G fun r L => ∃ fb DN,r = .iface 157 (.pointer (some ⟨fb,0,none⟩)) ∧ DecNew src fb DN ∧ L = G ++ DN := by
  refine Fn.sameR (Fn.frame (L := []) (F := G) (flateNew_spec src)) ?_
  rintro v L ⟨L1,⟨fb,ab,cb,hb,rfl,rfl⟩,rfl⟩
  obtain ⟨DN,hDN,hS⟩ := decNew src fb ab cb hb (List.replicate 32768 0) (List.replicate 316 (.int .i64 0)) (List.replicate 19 (.int .i64 0)) List.length_replicate List.length_replicate List.length_replicate G
  refine ⟨G ++ DN,(Same.perm List.perm_append_comm).trans (Same.trans (Same.of_eq ?_) hS),fb,DN,rfl,hDN,rfl⟩
  have e : bytesV (List.replicate 32768 0) = List.replicate 32768 (.int .u8 0) := by unfold bytesV; rw [List.map_replicate]; rfl
  rw [e]; rfl
/-- A decompressor is read. -/
theorem decRead_spec {K : Known} {ea : Fin 5 → Addr} (hs : Sents K ea) (hc : Codes K) {src : Src K ea} {dt : List UInt8} {fb : Nat} {R : ResR} {gv : Nat} {L0 : Frags} (hD : DecOk src dt fb R gv L0) (pb po n c : Nat) (cs : List Value) (hn : n = cs.length) (hn0 : 0 < n) :
    Fn Tryd.prog K 119 #[.pointer (some ⟨fb,0,none⟩),.slice (some ⟨pb,po,none⟩) (n) (c)] (L0 ++ [⟨pb,po,cs⟩]) (ReadEnd src dt fb R gv pb po n cs) := by
  obtain ⟨hb,pend,m,x1,x2,x3,Af,Tf,Wf,Hf,TL,hd,hall,rfl⟩ := hD
  refine Fn.lose (Fn.sameL (same_last x1 x2 x3 Af Tf Wf Hf _ TL).symm (decRead_walk hs hc src dt fb hb R gv pb po n c cs hn hn0 pend m x1 x2 x3 Af Tf Wf Hf TL hd hall)) ?_
  exact fun v L h => h
theorem DecNew.ok {K : Known} {ea : Fin 5 → Addr} {src : Src K ea} {fb : Nat} {DN : Frags} (h : DecNew src fb DN) {dt : List UInt8} {x1 x2 x3 : Frag} (hA : src.At dt x1 x2 x3) : DecOk src dt fb (run dt .next [] 0) 0 (x1::x2::x3::DN) := by
  obtain ⟨Af,Tf,Wf,Hf,TL,rfl,h⟩ := h
  obtain ⟨hb,h⟩ := h dt x1 x2 x3 hA
  exact ⟨hb,[],_,x1,x2,x3,Af,Tf,Wf,Hf,TL,h,fun h => by omega,rfl⟩

end Go.Eng
namespace Go.Eng
open Go Go.Proofs
set_option maxRecDepth 100000

theorem dmRead (b : Nat) (w : World) : (method (Tryd.prog.types.size + Made.depth) 157 (.pointer (some ⟨b,0,none⟩)) "Read").run Tryd.prog w = .ok (119,.pointer (some ⟨b,0,none⟩)) w := by
  obtain ⟨d,hd⟩ := depthS
  rw [hd]
  simp [method,Tryd.typeInfo157,Tryd.t157,Tryd.runUnderlying157,follow,receiverAt,Place.get]
theorem dmReset (b : Nat) (w : World) : (method (Tryd.prog.types.size + Made.depth) 157 (.pointer (some ⟨b,0,none⟩)) "Reset").run Tryd.prog w = .ok (120,.pointer (some ⟨b,0,none⟩)) w := by
  obtain ⟨d,hd⟩ := depthS
  rw [hd]
  simp [method,Tryd.typeInfo157,Tryd.t157,Tryd.runUnderlying157,follow,receiverAt,Place.get]

theorem dmBoth0 : (Tryd.prog.info? 157).map (fun i => (lacking #[("Reset",127)] i.methods).isEmpty) = some true := by kernel_rfl
theorem dmBoth (want : Array (String × TypeId)) (h : Tryd.prog.underlying 126 = some (.interface want)) : (Tryd.prog.info? 157).map (fun i => (lacking want i.methods).isEmpty) = some true := by
  have h2 := (Tryd.underlying126).symm.trans h
  simp only [Option.some.injEq,TypeDesc.interface.injEq] at h2
  rw [← h2]
  exact dmBoth0
def isNilV : Value → Bool
  | .nilIface => true
  | _ => false
theorem DcIn.nil {dcv : Value} {DL : Frags} (h : DcIn dcv DL) (hn : isNilV dcv = true) : dcv = .nilIface ∧ DL = [] := by
  rcases h with h | ⟨fb,rfl,_⟩
  · exact h
  · exact absurd hn (by simp [isNilV])
theorem DcIn.dec {dcv : Value} {DL : Frags} (h : DcIn dcv DL) (hn : isNilV dcv = false) : ∃ fb,dcv = .iface 157 (.pointer (some ⟨fb,0,none⟩)) ∧ DecRaw fb DL := by
  rcases h with ⟨rfl,_⟩ | h
  · exact absurd hn (by simp [isNilV])
  · exact h
theorem S.eqDc {K : Known} {n : Nat} {env : Env} {L : Frags} {ty t yT : TypeId} {x : Operand} {dcv : Value} {DL : Frags} {want : Array (String × TypeId)} (h : DcIn dcv DL) (hx : ev? env x = some dcv) (hu : Tryd.prog.underlying t = some (.interface want)) :
    OpS Tryd.prog K n (.binOp .eql t x (.const .nilIface) yT) ty env L (.bool (isNilV dcv)) := by
  rcases h with ⟨rfl,_⟩ | ⟨fb,rfl,_⟩
  · exact S.eqNilN hx hu
  · exact S.eqNilI hx hu


theorem E.shed {P : Program} {H0 : Known} {n : Nat} {ops : Array Oper} {l : List Oper} {env : Env} {L A F : Frags} {N : Post} (is : List Nat) (hp : picks is L = some (A,F)) (h : wpE P H0 n ops l env F N) : wpE P H0 n ops l env L N := by
  intro a w hf hw Q s
  have p := (picks_perm hp).trans List.perm_append_comm
  have hA : Agree H0 (F ++ A) w.heap := hw.perm p
  exact h a w hf hA.drop Q fun e l a' w' h f t => s e l a' w' h f ((To.frame hA t).drop.permL p)
/-- How readHeader ends. -/
def HeadEnd {K : Known} {ea : Fin 5 → Addr} (src : Src K ea) (l : List UInt8) (zb : Nat) (c0 c1 c2 c3 c4 c5 c9 dcv : Value) (DL : Frags) (r : Value) (L : Frags) : Prop :=
  ∃ hs f1 f2 f3 d2 bs2 hb,hs.length = 6 ∧ hs.all one = true ∧ r = .tuple #[.agg hs.toArray,Er.val ea (readHead l).1] ∧ src.At (readHead l).2.1 f1 f2 f3 ∧ bs2.length = 512 ∧ d2 < 4294967296 ∧
    (((readHead l).1 ≠ .none ∧ ∃ T,L = [f1,f2,f3,⟨zb,0,[c0,c1,c2,c3,c4,c5,.iface src.t src.v,dcv,.int .u32 ((d2 : Nat) : Int),c9]⟩,⟨zb,10,bs2⟩,⟨hb,0,hs⟩] ++ (T ++ DL)) ∨
     ((readHead l).1 = .none ∧ ∃ xa xn X fb DN,ExAt (readHead l).2.2.extra xa xn X ∧ hs = headV (readHead l).2.2 xa xn ∧ d2 = 0 ∧ DecNew src fb DN ∧
        L = [f1,f2,f3,⟨zb,0,[c0,c1,c2,c3,c4,c5,.iface src.t src.v,.iface 157 (.pointer (some ⟨fb,0,none⟩)),.int .u32 ((d2 : Nat) : Int),c9]⟩,⟨zb,10,bs2⟩,⟨hb,0,hs⟩,X] ++ DN))

theorem readHeader_first {K : Known} {ea : Fin 5 → Addr} (hs : Sents K ea) (src : Src K ea) (l : List UInt8) (x1 x2 x3 : Frag) (zb d0 : Nat) (c0 c1 c2 c3 c4 c5 c9 dcv : Value) (bs0 : List Value) (DL : Frags) (hDL : DcIn dcv DL) (hA : src.At l x1 x2 x3) (hbs0 : bs0.length = 512) (hd0 : d0 < 4294967296) : Fn Tryd.prog K 48 #[.pointer (some ⟨zb,0,none⟩)] ([x1,x2,x3,⟨zb,0,[c0,c1,c2,c3,c4,c5,.iface src.t src.v,dcv,.int .u32 ((d0 : Nat) : Int),c9]⟩,⟨zb,10,bs0⟩] ++ DL) (HeadEnd src l zb c0 c1 c2 c3 c4 c5 c9 dcv DL) := by
 refine Fn.intro (args := [.pointer (some ⟨zb,0,none⟩)]) (RR := RetC1 2 6 3 _) Tryd.func48 rfl rfl Tryd.ntmps48 (resC1 Tryd.results48 Tryd.isAgg69 Tryd.sizeOf69) ?_
 refine C.reenv (env2 := [(0,.pointer (some ⟨zb,0,none⟩))]) rfl ?_
 refine C.sr ?_
 refine E.loud1 (X.alloc Tryd.zeroValue69) rfl ?_; rintro _ _ ⟨b2,rfl,rfl⟩; refine E.relist (L2 := (_::_::_::_::_::_::_)) rfl ?_
 refine E.pure (S.assign (v := Er.val ea .none) rfl) rfl ?_
 refine E.same (Same.addEmpty (f := ⟨zb,10,bs0⟩) (by simp) 0) ?_
 refine E.perml [2,2,2,2,2,1,0] (A := [_,_,_,_,_,_,_]) (F := DL) rfl ?_
 refine E.relist (L2 := [x1,x2,x3,⟨zb,0,[c0,c1,c2,c3,c4,c5,.iface src.t src.v,dcv,.int .u32 ((d0 : Nat) : Int),c9]⟩,⟨zb,10,bs0⟩,⟨b2,0,[.string ⟨#[]⟩,.slice none 0 0,.int .u64 0,.int .i64 (0),.string ⟨#[]⟩,.int .u8 0]⟩,⟨zb,0,[]⟩] ++ DL) rfl ?_
 refine E.kp [(0,_),(2,_),(3,_)] rfl ?_
 refine C.seq ?_
 refine C.seq ?_
 refine C.same (Same.splitAt (k := 10) 4 rfl rfl (List.take_append_drop 10 _).symm (by rw [List.length_take]; omega) rfl) ?_
 refine C.relist (L2 := [_,_,_,_,_,_,_,_] ++ DL) rfl ?_
 refine C.draw [0,1,2,4,0,16,32,64,136,256,512,512,4095] (.pure 0 240 (.pure 1 241 (.pure 2 243 (.pure 4 15 (.pure 5 31 (.pure 6 63 (.pure 7 127 (.seg [(3,247)] (.alt 8 (.pure 9 511 (.pure 10 3071 (.pure 11 2047 (.pure 12 4095 .done)))) .stop))))))))) mixed (by decide +kernel) ?_
 refine D.pure rfl (S.move rfl) rfl ?_
 refine D.pure rfl (S.nilPtr rfl) rfl ?_
 refine D.pure rfl (S.field rfl fa76_1) rfl ?_
 refine D.pure rfl (S.move rfl) rfl ?_
 refine D.pure rfl (S.nilPtr rfl) rfl ?_
 refine D.pure rfl (S.field rfl fa76_5) rfl ?_
 refine D.pure rfl (S.slArr (l := 0) (k := .i64) (h := 10) rfl rfl rfl (by omega) (by omega) Tryd.underlying74 Tryd.sizeOf5) rfl ?_
 refine D.reslot (v := .slice (some ⟨zb,10,none⟩) (10) (512)) (slice_to (by simp [part]) rfl rfl) ?_
 refine D.seg (by decide) ?_
 refine W.still rfl (S.load 5 (k := 6) rfl rfl rfl Tryd.isAgg71) rfl ?_
 refine W.nil ?_
 refine D.one ?_
 refine O.loud1 rfl (OpX.pick [2,2,2,0] (F := (_::_::_::_::_)) rfl (X.call rfl Tryd.call45 (readFull_spec hs src l x1 x2 x3 zb 10 10 512 (List.take 10 _) hA (by rw [List.length_take]; omega) (by omega) (by omega)))) rfl ?_; rintro _ _ ⟨_,⟨f1,f2,f3,hF,rfl,rfl⟩,rfl⟩; refine D.relist (L2 := (_::_::_::_::_::_::_::_::_)) rfl ?_
 refine D.pure rfl (S.move rfl) rfl ?_
 refine D.pure rfl (S.extract rfl rfl) rfl ?_
 refine D.pure rfl (S.extract rfl rfl) rfl ?_
 refine D.pure rfl (S.assign rfl) rfl ?_
 refine D.kp [(0,_),(2,_),(3,_)] rfl ?_
 refine C.same (Same.joinAt 3 3 rfl rfl (by rw [show 10 + 10 = 10 + (10 : Nat) from rfl]; congr 1; simp only [List.length_append,bytesV_length,List.length_take,List.length_drop,min_i]; omega)) ?_
 refine C.perml [1,1,1,1,0,0,0] (A := [_,_,_,_,_,_,_]) (F := DL) rfl ?_
 refine C.relist (L2 := [_,_,_,_,_,_,_] ++ DL) rfl ?_
 refine C.sr ?_
 refine E.pure (S.move rfl) rfl ?_
 refine E.still (S.neErNil rfl) rfl ?_
 refine E.kp [(0,_),(2,_),(3,_),(22,_)] rfl ?_
 first | refine C.ifp rfl (fun h22 => ?_) (fun h22 => ?_) | refine C.ifNone rfl (fun h22 => ?_) (fun h22 => ?_) | refine C.ifSome rfl (fun h22 => ?_) (fun h22 => ?_) | refine C.ifSe rfl (fun h22 => ?_) (fun h22 => ?_) | refine C.ifNotSe rfl (fun h22 => ?_) (fun h22 => ?_) | refine C.cond rfl (fun h22 => ?_) (fun h22 => ?_)
 ·
  refine C.sr ?_
  refine E.still (S.loadA 5 (k := 0) rfl rfl rfl rfl Tryd.isAgg69 Tryd.sizeOf69) rfl ?_
  refine E.pure (S.move rfl) rfl ?_
  refine E.loud0 (X.storeA 5 (k := 0) rfl rfl rfl rfl rfl rfl Tryd.sizeOf69 rfl) ?_; rintro _ _ ⟨rfl,rfl⟩; refine E.relist (L2 := (_::_::_::_::_::_::_::_)) rfl ?_
  refine E.pure (S.assign rfl) rfl ?_
  refine E.kp [(0,_),(2,_),(3,_),(22,_)] rfl ?_
  refine C.ret ?_
  have hRR := readHead_bad h22
  refine ⟨_,_,⟨_,_,5,rfl,rfl,rfl⟩,rfl,_,_,_,_,_,_,_,rfl,rfl,?_,?_,?_,?_,.inl ⟨?_,[_],rfl⟩⟩
  · first | (rw [hRR]; done) | (rw [hRR]; rfl)
  · rw [hRR]; exact hF
  · rw [buf_join (by omega)]; exact hbs0
  · assumption
  · rw [hRR]; first | assumption | (exact noEof_ne (by assumption)) | simp
 rw [h22]
 obtain ⟨v0,v1,v2,v3,v4,v5,v6,v7,v8,v9,r,hl⟩ := ten h22
 have hv0 := v0.toNat_lt
 have hv1 := v1.toNat_lt
 have hv2 := v2.toNat_lt
 have hv3 := v3.toNat_lt
 have hv4 := v4.toNat_lt
 have hv5 := v5.toNat_lt
 have hv6 := v6.toNat_lt
 have hv7 := v7.toNat_lt
 have hv8 := v8.toNat_lt
 have hv9 := v9.toNat_lt
 have hle := le32_lt hv4 hv5 hv6 hv7
 refine C.relist (L2 := [f1,f2,f3,⟨zb,0,[c0,c1,c2,c3,c4,c5,.iface src.t src.v,dcv,.int .u32 ((d0 : Nat) : Int),c9]⟩,⟨zb,10,u8 v0::u8 v1::u8 v2::u8 v3::u8 v4::u8 v5::u8 v6::u8 v7::u8 v8::u8 v9::bs0.drop 10⟩,⟨b2,0,[.string ⟨#[]⟩,.slice none 0 0,.int .u64 0,.int .i64 (0),.string ⟨#[]⟩,.int .u8 0]⟩,⟨zb,0,[]⟩] ++ DL) (by rw [buf_full (full_len h22),hl]; rfl) ?_
 rw [show l.drop 10 = r by rw [hl]; rfl] at hF
 refine C.skip ?_
 refine C.seq ?_
 refine C.sr ?_
 refine E.pure (S.move rfl) rfl ?_
 refine E.pure (S.nilPtr rfl) rfl ?_
 refine E.pure (S.field rfl fa76_5) rfl ?_
 refine E.pure (S.ixArr (i := 0) rfl rfl (by omega) Tryd.underlying74 Tryd.sizeOf5) rfl ?_
 refine E.still (S.load 4 (k := 0) rfl rfl rfl Tryd.isAgg5) rfl ?_
 refine E.pure (S.ne (b := ((31 : Nat) : Int)) rfl rfl) rfl ?_
 refine E.pure (S.move rfl) rfl ?_
 refine E.fork (fun g31 => ?_) (fun g31 => ?_)
 ·
  refine E.guardNo 31 true rfl rfl rfl rfl ?_
  refine E.guardNo 31 true rfl rfl rfl rfl ?_
  refine E.guardNo 31 true rfl rfl rfl rfl ?_
  refine E.guardNo 31 true rfl rfl rfl rfl ?_
  refine E.guardNo 31 true rfl rfl rfl rfl ?_
  refine E.guardNo 31 true rfl rfl rfl rfl ?_
  refine E.pure (S.pickT rfl rfl) rfl ?_
  refine E.pure (S.move rfl) rfl ?_
  refine E.guardNo 39 true rfl rfl rfl rfl ?_
  refine E.guardNo 39 true rfl rfl rfl rfl ?_
  refine E.guardNo 39 true rfl rfl rfl rfl ?_
  refine E.guardNo 39 true rfl rfl rfl rfl ?_
  refine E.guardNo 39 true rfl rfl rfl rfl ?_
  refine E.guardNo 39 true rfl rfl rfl rfl ?_
  refine E.pure (S.pickT rfl rfl) rfl ?_
  refine E.kp [(0,_),(2,_),(3,_),(22,_),(46,_)] rfl ?_
  refine C.yes rfl (rfl) ?_
  refine C.seq ?_
  refine C.draw [0,0,1,7] (.alt 0 (.alt 1 (.alt 2 (.pure 3 7 .done) .stop) (.alt 2 (.seg [(1,5),(3,7)] .done) .stop)) (.alt 1 (.seg [(0,2)] (.alt 2 (.pure 3 7 .done) .stop)) .stop)) mixed (by decide +kernel) ?_
  refine D.alt ?_ ⟨?_,trivial⟩
  ·
   refine O.still rfl (S.loadA 5 (k := 0) rfl rfl rfl rfl Tryd.isAgg69 Tryd.sizeOf69) rfl ?_
   refine D.alt ?_ ⟨?_,trivial⟩
   ·
    refine O.still rfl (S.loadBase rfl hs.g1 Tryd.isAgg59) rfl ?_
    refine D.one ?_
    refine O.loud0 rfl (X.storeA 5 (k := 0) rfl rfl rfl rfl rfl rfl Tryd.sizeOf69 rfl) ?_; rintro _ _ ⟨rfl,rfl⟩; refine D.relist (L2 := (_::_::_::_::_::_::_::_)) rfl ?_
    refine D.pure rfl (S.assign rfl) rfl ?_
    refine D.kp [(0,_),(2,_),(3,_),(22,_),(46,_)] rfl ?_
    refine C.ret ?_
    have hRR : readHead l = (.header,r,noHd) := by rw [hl,readHead_cons,if_neg (by omega)]
    refine ⟨_,_,⟨_,_,5,rfl,rfl,rfl⟩,rfl,_,_,_,_,_,_,_,rfl,rfl,?_,?_,?_,?_,.inl ⟨?_,[_],rfl⟩⟩
    · rw [hRR]; done
    · rw [hRR]; exact hF
    · simp only [List.length_cons,List.length_drop]; omega
    · assumption
    · rw [hRR]; first | assumption | (exact noEof_ne (by assumption)) | simp
   refine O.loud0 rfl (X.storeA 5 (k := 0) rfl rfl rfl rfl rfl rfl Tryd.sizeOf69 rfl) ?_; rintro _ _ ⟨rfl,rfl⟩; refine D.relist (L2 := (_::_::_::_::_::_::_::_)) rfl ?_
   refine D.seg (by decide) ?_
   refine W.still rfl (S.loadBase rfl hs.g1 Tryd.isAgg59) rfl ?_
   refine W.pure rfl (S.assign rfl) rfl ?_
   refine W.nil ?_
   refine D.kp [(0,_),(2,_),(3,_),(22,_),(46,_)] rfl ?_
   refine C.ret ?_
   have hRR : readHead l = (.header,r,noHd) := by rw [hl,readHead_cons,if_neg (by omega)]
   refine ⟨_,_,⟨_,_,5,rfl,rfl,rfl⟩,rfl,_,_,_,_,_,_,_,rfl,rfl,?_,?_,?_,?_,.inl ⟨?_,[_],rfl⟩⟩
   · rw [hRR]; done
   · rw [hRR]; exact hF
   · simp only [List.length_cons,List.length_drop]; omega
   · assumption
   · rw [hRR]; first | assumption | (exact noEof_ne (by assumption)) | simp
  refine O.still rfl (S.loadBase rfl hs.g1 Tryd.isAgg59) rfl ?_
  refine D.seg (by decide) ?_
  refine W.still rfl (S.loadA 5 (k := 0) rfl rfl rfl rfl Tryd.isAgg69 Tryd.sizeOf69) rfl ?_
  refine W.nil ?_
  refine D.one ?_
  refine O.loud0 rfl (X.storeA 5 (k := 0) rfl rfl rfl rfl rfl rfl Tryd.sizeOf69 rfl) ?_; rintro _ _ ⟨rfl,rfl⟩; refine D.relist (L2 := (_::_::_::_::_::_::_::_)) rfl ?_
  refine D.pure rfl (S.assign rfl) rfl ?_
  refine D.kp [(0,_),(2,_),(3,_),(22,_),(46,_)] rfl ?_
  refine C.ret ?_
  have hRR : readHead l = (.header,r,noHd) := by rw [hl,readHead_cons,if_neg (by omega)]
  refine ⟨_,_,⟨_,_,5,rfl,rfl,rfl⟩,rfl,_,_,_,_,_,_,_,rfl,rfl,?_,?_,?_,?_,.inl ⟨?_,[_],rfl⟩⟩
  · rw [hRR]; done
  · rw [hRR]; exact hF
  · simp only [List.length_cons,List.length_drop]; omega
  · assumption
  · rw [hRR]; first | assumption | (exact noEof_ne (by assumption)) | simp
 refine E.wanted 31 rfl rfl ?_
 refine E.pure (S.move rfl) rfl ?_
 refine E.wanted 31 rfl rfl ?_
 refine E.pure (S.nilPtr rfl) rfl ?_
 refine E.wanted 31 rfl rfl ?_
 refine E.pure (S.field rfl fa76_5) rfl ?_
 refine E.wanted 31 rfl rfl ?_
 refine E.pure (S.ixArr (i := 1) rfl rfl (by omega) Tryd.underlying74 Tryd.sizeOf5) rfl ?_
 refine E.wanted 31 rfl rfl ?_
 refine E.still (S.load 4 (k := 1) rfl rfl rfl Tryd.isAgg5) rfl ?_
 refine E.wanted 31 rfl rfl ?_
 refine E.pure (S.ne (b := ((139 : Nat) : Int)) rfl rfl) rfl ?_
 refine E.pure (S.pickF rfl rfl) rfl ?_
 refine E.pure (S.move rfl) rfl ?_
 refine E.fork (fun g39 => ?_) (fun g39 => ?_)
 ·
  refine E.guardNo 39 true rfl rfl rfl rfl ?_
  refine E.guardNo 39 true rfl rfl rfl rfl ?_
  refine E.guardNo 39 true rfl rfl rfl rfl ?_
  refine E.guardNo 39 true rfl rfl rfl rfl ?_
  refine E.guardNo 39 true rfl rfl rfl rfl ?_
  refine E.guardNo 39 true rfl rfl rfl rfl ?_
  refine E.pure (S.pickT rfl rfl) rfl ?_
  refine E.kp [(0,_),(2,_),(3,_),(22,_),(46,_)] rfl ?_
  refine C.yes rfl (rfl) ?_
  refine C.seq ?_
  refine C.draw [0,0,1,7] (.alt 0 (.alt 1 (.alt 2 (.pure 3 7 .done) .stop) (.alt 2 (.seg [(1,5),(3,7)] .done) .stop)) (.alt 1 (.seg [(0,2)] (.alt 2 (.pure 3 7 .done) .stop)) .stop)) mixed (by decide +kernel) ?_
  refine D.alt ?_ ⟨?_,trivial⟩
  ·
   refine O.still rfl (S.loadA 5 (k := 0) rfl rfl rfl rfl Tryd.isAgg69 Tryd.sizeOf69) rfl ?_
   refine D.alt ?_ ⟨?_,trivial⟩
   ·
    refine O.still rfl (S.loadBase rfl hs.g1 Tryd.isAgg59) rfl ?_
    refine D.one ?_
    refine O.loud0 rfl (X.storeA 5 (k := 0) rfl rfl rfl rfl rfl rfl Tryd.sizeOf69 rfl) ?_; rintro _ _ ⟨rfl,rfl⟩; refine D.relist (L2 := (_::_::_::_::_::_::_::_)) rfl ?_
    refine D.pure rfl (S.assign rfl) rfl ?_
    refine D.kp [(0,_),(2,_),(3,_),(22,_),(46,_)] rfl ?_
    refine C.ret ?_
    have hRR : readHead l = (.header,r,noHd) := by rw [hl,readHead_cons,if_neg (by omega)]
    refine ⟨_,_,⟨_,_,5,rfl,rfl,rfl⟩,rfl,_,_,_,_,_,_,_,rfl,rfl,?_,?_,?_,?_,.inl ⟨?_,[_],rfl⟩⟩
    · rw [hRR]; done
    · rw [hRR]; exact hF
    · simp only [List.length_cons,List.length_drop]; omega
    · assumption
    · rw [hRR]; first | assumption | (exact noEof_ne (by assumption)) | simp
   refine O.loud0 rfl (X.storeA 5 (k := 0) rfl rfl rfl rfl rfl rfl Tryd.sizeOf69 rfl) ?_; rintro _ _ ⟨rfl,rfl⟩; refine D.relist (L2 := (_::_::_::_::_::_::_::_)) rfl ?_
   refine D.seg (by decide) ?_
   refine W.still rfl (S.loadBase rfl hs.g1 Tryd.isAgg59) rfl ?_
   refine W.pure rfl (S.assign rfl) rfl ?_
   refine W.nil ?_
   refine D.kp [(0,_),(2,_),(3,_),(22,_),(46,_)] rfl ?_
   refine C.ret ?_
   have hRR : readHead l = (.header,r,noHd) := by rw [hl,readHead_cons,if_neg (by omega)]
   refine ⟨_,_,⟨_,_,5,rfl,rfl,rfl⟩,rfl,_,_,_,_,_,_,_,rfl,rfl,?_,?_,?_,?_,.inl ⟨?_,[_],rfl⟩⟩
   · rw [hRR]; done
   · rw [hRR]; exact hF
   · simp only [List.length_cons,List.length_drop]; omega
   · assumption
   · rw [hRR]; first | assumption | (exact noEof_ne (by assumption)) | simp
  refine O.still rfl (S.loadBase rfl hs.g1 Tryd.isAgg59) rfl ?_
  refine D.seg (by decide) ?_
  refine W.still rfl (S.loadA 5 (k := 0) rfl rfl rfl rfl Tryd.isAgg69 Tryd.sizeOf69) rfl ?_
  refine W.nil ?_
  refine D.one ?_
  refine O.loud0 rfl (X.storeA 5 (k := 0) rfl rfl rfl rfl rfl rfl Tryd.sizeOf69 rfl) ?_; rintro _ _ ⟨rfl,rfl⟩; refine D.relist (L2 := (_::_::_::_::_::_::_::_)) rfl ?_
  refine D.pure rfl (S.assign rfl) rfl ?_
  refine D.kp [(0,_),(2,_),(3,_),(22,_),(46,_)] rfl ?_
  refine C.ret ?_
  have hRR : readHead l = (.header,r,noHd) := by rw [hl,readHead_cons,if_neg (by omega)]
  refine ⟨_,_,⟨_,_,5,rfl,rfl,rfl⟩,rfl,_,_,_,_,_,_,_,rfl,rfl,?_,?_,?_,?_,.inl ⟨?_,[_],rfl⟩⟩
  · rw [hRR]; done
  · rw [hRR]; exact hF
  · simp only [List.length_cons,List.length_drop]; omega
  · assumption
  · rw [hRR]; first | assumption | (exact noEof_ne (by assumption)) | simp
 refine E.wanted 39 rfl rfl ?_
 refine E.pure (S.move rfl) rfl ?_
 refine E.wanted 39 rfl rfl ?_
 refine E.pure (S.nilPtr rfl) rfl ?_
 refine E.wanted 39 rfl rfl ?_
 refine E.pure (S.field rfl fa76_5) rfl ?_
 refine E.wanted 39 rfl rfl ?_
 refine E.pure (S.ixArr (i := 2) rfl rfl (by omega) Tryd.underlying74 Tryd.sizeOf5) rfl ?_
 refine E.wanted 39 rfl rfl ?_
 refine E.still (S.load 4 (k := 2) rfl rfl rfl Tryd.isAgg5) rfl ?_
 refine E.wanted 39 rfl rfl ?_
 refine E.pure (S.ne (b := ((8 : Nat) : Int)) rfl rfl) rfl ?_
 refine E.pure (S.pickF rfl rfl) rfl ?_
 refine E.kp [(0,_),(2,_),(3,_),(22,_),(46,_)] rfl ?_
 refine C.ifp rfl (fun h46 => ?_) (fun h46 => ?_)
 ·
  refine C.seq ?_
  refine C.draw [0,0,1,7] (.alt 0 (.alt 1 (.alt 2 (.pure 3 7 .done) .stop) (.alt 2 (.seg [(1,5),(3,7)] .done) .stop)) (.alt 1 (.seg [(0,2)] (.alt 2 (.pure 3 7 .done) .stop)) .stop)) mixed (by decide +kernel) ?_
  refine D.alt ?_ ⟨?_,trivial⟩
  ·
   refine O.still rfl (S.loadA 5 (k := 0) rfl rfl rfl rfl Tryd.isAgg69 Tryd.sizeOf69) rfl ?_
   refine D.alt ?_ ⟨?_,trivial⟩
   ·
    refine O.still rfl (S.loadBase rfl hs.g1 Tryd.isAgg59) rfl ?_
    refine D.one ?_
    refine O.loud0 rfl (X.storeA 5 (k := 0) rfl rfl rfl rfl rfl rfl Tryd.sizeOf69 rfl) ?_; rintro _ _ ⟨rfl,rfl⟩; refine D.relist (L2 := (_::_::_::_::_::_::_::_)) rfl ?_
    refine D.pure rfl (S.assign rfl) rfl ?_
    refine D.kp [(0,_),(2,_),(3,_),(22,_),(46,_)] rfl ?_
    refine C.ret ?_
    have hRR : readHead l = (.header,r,noHd) := by rw [hl,readHead_cons,if_neg (by omega)]
    refine ⟨_,_,⟨_,_,5,rfl,rfl,rfl⟩,rfl,_,_,_,_,_,_,_,rfl,rfl,?_,?_,?_,?_,.inl ⟨?_,[_],rfl⟩⟩
    · rw [hRR]; done
    · rw [hRR]; exact hF
    · simp only [List.length_cons,List.length_drop]; omega
    · assumption
    · rw [hRR]; first | assumption | (exact noEof_ne (by assumption)) | simp
   refine O.loud0 rfl (X.storeA 5 (k := 0) rfl rfl rfl rfl rfl rfl Tryd.sizeOf69 rfl) ?_; rintro _ _ ⟨rfl,rfl⟩; refine D.relist (L2 := (_::_::_::_::_::_::_::_)) rfl ?_
   refine D.seg (by decide) ?_
   refine W.still rfl (S.loadBase rfl hs.g1 Tryd.isAgg59) rfl ?_
   refine W.pure rfl (S.assign rfl) rfl ?_
   refine W.nil ?_
   refine D.kp [(0,_),(2,_),(3,_),(22,_),(46,_)] rfl ?_
   refine C.ret ?_
   have hRR : readHead l = (.header,r,noHd) := by rw [hl,readHead_cons,if_neg (by omega)]
   refine ⟨_,_,⟨_,_,5,rfl,rfl,rfl⟩,rfl,_,_,_,_,_,_,_,rfl,rfl,?_,?_,?_,?_,.inl ⟨?_,[_],rfl⟩⟩
   · rw [hRR]; done
   · rw [hRR]; exact hF
   · simp only [List.length_cons,List.length_drop]; omega
   · assumption
   · rw [hRR]; first | assumption | (exact noEof_ne (by assumption)) | simp
  refine O.still rfl (S.loadBase rfl hs.g1 Tryd.isAgg59) rfl ?_
  refine D.seg (by decide) ?_
  refine W.still rfl (S.loadA 5 (k := 0) rfl rfl rfl rfl Tryd.isAgg69 Tryd.sizeOf69) rfl ?_
  refine W.nil ?_
  refine D.one ?_
  refine O.loud0 rfl (X.storeA 5 (k := 0) rfl rfl rfl rfl rfl rfl Tryd.sizeOf69 rfl) ?_; rintro _ _ ⟨rfl,rfl⟩; refine D.relist (L2 := (_::_::_::_::_::_::_::_)) rfl ?_
  refine D.pure rfl (S.assign rfl) rfl ?_
  refine D.kp [(0,_),(2,_),(3,_),(22,_),(46,_)] rfl ?_
  refine C.ret ?_
  have hRR : readHead l = (.header,r,noHd) := by rw [hl,readHead_cons,if_neg (by omega)]
  refine ⟨_,_,⟨_,_,5,rfl,rfl,rfl⟩,rfl,_,_,_,_,_,_,_,rfl,rfl,?_,?_,?_,?_,.inl ⟨?_,[_],rfl⟩⟩
  · rw [hRR]; done
  · rw [hRR]; exact hF
  · simp only [List.length_cons,List.length_drop]; omega
  · assumption
  · rw [hRR]; first | assumption | (exact noEof_ne (by assumption)) | simp
 refine C.skip ?_
 refine C.sr ?_
 refine E.pure (S.move rfl) rfl ?_
 refine E.pure (S.nilPtr rfl) rfl ?_
 refine E.pure (S.field rfl fa76_5) rfl ?_
 refine E.pure (S.ixArr (i := 3) rfl rfl (by omega) Tryd.underlying74 Tryd.sizeOf5) rfl ?_
 refine E.still (S.load 4 (k := 3) rfl rfl rfl Tryd.isAgg5) rfl ?_
 refine E.pure (S.assign rfl) rfl ?_
 refine E.kp [(0,_),(2,_),(3,_),(4,_),(22,_),(46,_)] rfl ?_
 refine C.cut (M := fun ee ll => keeps ee [0,2,3,4] = some [(0,.pointer (some ⟨zb,0,none⟩)),(2,.pointer (some ⟨b2,0,none⟩)),(3,Er.val ea .none),(4,.int .u8 ((v3.toNat : Nat) : Int))] ∧ ll = [f1,f2,f3,⟨zb,0,[c0,c1,c2,c3,c4,c5,.iface src.t src.v,dcv,.int .u32 ((d0 : Nat) : Int),c9]⟩,⟨zb,10,u8 v0::u8 v1::u8 v2::u8 v3::u8 v4::u8 v5::u8 v6::u8 v7::u8 v8::u8 v9::bs0.drop 10⟩,⟨b2,0,[.string ⟨#[]⟩,.slice none 0 0,.int .u64 0,.int .i64 (timeV (le32 v4.toNat v5.toNat v6.toNat v7.toNat)),.string ⟨#[]⟩,.int .u8 0]⟩,⟨zb,0,[]⟩] ++ DL) ?_ ?_
 ·
  refine C.sr ?_
  refine E.pure (S.move rfl) rfl ?_
  refine E.pure (S.nilPtr rfl) rfl ?_
  refine E.pure (S.field rfl fa76_5) rfl ?_
  refine E.pure (S.slArr (l := 4) (h := 8) rfl rfl rfl (by omega) (by omega) Tryd.underlying74 Tryd.sizeOf5) rfl ?_
  refine E.reslot (v := .slice (some ⟨zb,14,none⟩) (4) (508)) (slice_to (by simp [part]) rfl rfl) ?_
  refine E.loud1 (X.call rfl Tryd.call47 (le32_spec zb 14 4 508 v4 v5 v6 v7 [] (by omega) (Reads.frag (i := 4) (k := 4) rfl rfl))) rfl ?_; rintro _ _ ⟨rfl,rfl⟩; refine E.relist (L2 := (_::_::_::_::_::_::_::_)) rfl ?_
  refine E.pure (S.conv rfl Tryd.underlying52 Tryd.underlying2 (N.i64n (by omega))) rfl ?_
  refine E.pure (S.assign rfl) rfl ?_
  refine E.kp [(0,_),(2,_),(3,_),(4,_),(5,_),(22,_),(46,_)] rfl ?_
  refine C.sr ?_
  refine E.pure (S.move rfl) rfl ?_
  refine E.pure (S.gt (b := ((0 : Nat) : Int)) rfl rfl) rfl ?_
  refine E.kp [(0,_),(2,_),(3,_),(4,_),(5,_),(22,_),(46,_),(61,_)] rfl ?_
  refine C.ifp rfl (fun h61 => ?_) (fun h61 => ?_)
  ·
   refine C.region ?_
   refine E.pure (S.move rfl) rfl ?_
   refine E.loud1 (OpX.pick [] (F := (_::_::_::_::_::_::_::_)) rfl (X.call rfl Tryd.call55 (unix_spec (le32 v4.toNat v5.toNat v6.toNat v7.toNat) (by omega)))) rfl ?_; rintro _ _ ⟨_,⟨q1,q2,rfl,rfl⟩,rfl⟩; refine E.relist (L2 := (_::_::_::_::_::_::_::_::_::_)) rfl ?_
   refine E.perml [2,2,2,2,2,2,2] (A := [_,_,_,_,_,_,_]) (F := [_,_] ++ DL) rfl ?_
   refine E.shed [7,7] (A := [_,_]) (F := [_,_,_,_,_,_,_] ++ DL) rfl ?_
   refine E.pure (S.field rfl fa69_2) rfl ?_
   refine E.loud0 (X.storeA 5 (k := 2) rfl rfl rfl rfl rfl rfl Tryd.sizeOf67 rfl) ?_; rintro _ _ ⟨rfl,rfl⟩; refine E.relist (L2 := (_::_::_::_::_::_::_::_)) rfl ?_
   refine E.kp [(0,_),(2,_),(3,_),(4,_),(5,_),(22,_),(46,_),(61,_)] rfl ?_
   exact ⟨rfl,congrArg (fun x : Int => [f1,f2,f3,⟨zb,0,[c0,c1,c2,c3,c4,c5,.iface src.t src.v,dcv,.int .u32 ((d0 : Nat) : Int),c9]⟩,⟨zb,10,u8 v0::u8 v1::u8 v2::u8 v3::u8 v4::u8 v5::u8 v6::u8 v7::u8 v8::u8 v9::bs0.drop 10⟩,(⟨b2,0,[.string ⟨#[]⟩,.slice none 0 0,.int .u64 0,.int .i64 (x),.string ⟨#[]⟩,.int .u8 0]⟩ : Frag),⟨zb,0,[]⟩] ++ DL) (timeV_pos h61)⟩
  refine C.skip ?_
  first | exact ⟨rfl,congrArg (fun x : Int => [f1,f2,f3,⟨zb,0,[c0,c1,c2,c3,c4,c5,.iface src.t src.v,dcv,.int .u32 ((d0 : Nat) : Int),c9]⟩,⟨zb,10,u8 v0::u8 v1::u8 v2::u8 v3::u8 v4::u8 v5::u8 v6::u8 v7::u8 v8::u8 v9::bs0.drop 10⟩,(⟨b2,0,[.string ⟨#[]⟩,.slice none 0 0,.int .u64 0,.int .i64 (x),.string ⟨#[]⟩,.int .u8 0]⟩ : Frag),⟨zb,0,[]⟩] ++ DL) (timeV_pos h61)⟩ | exact ⟨rfl,congrArg (fun x : Int => [f1,f2,f3,⟨zb,0,[c0,c1,c2,c3,c4,c5,.iface src.t src.v,dcv,.int .u32 ((d0 : Nat) : Int),c9]⟩,⟨zb,10,u8 v0::u8 v1::u8 v2::u8 v3::u8 v4::u8 v5::u8 v6::u8 v7::u8 v8::u8 v9::bs0.drop 10⟩,(⟨b2,0,[.string ⟨#[]⟩,.slice none 0 0,.int .u64 0,.int .i64 (x),.string ⟨#[]⟩,.int .u8 0]⟩ : Frag),⟨zb,0,[]⟩] ++ DL) (timeV_zero h61)⟩
 rintro _ _ ⟨hq10,rfl⟩
 refine C.weaken _ hq10 ?_
 refine C.sr ?_
 refine E.pure (S.move rfl) rfl ?_
 refine E.pure (S.nilPtr rfl) rfl ?_
 refine E.pure (S.field rfl fa76_5) rfl ?_
 refine E.pure (S.ixArr (i := 9) rfl rfl (by omega) Tryd.underlying74 Tryd.sizeOf5) rfl ?_
 refine E.still (S.load 4 (k := 9) rfl rfl rfl Tryd.isAgg5) rfl ?_
 refine E.pure (S.field rfl fa69_4) rfl ?_
 refine E.loud0 (X.store 5 (k := 5) rfl rfl rfl rfl rfl Tryd.sizeOf5) ?_; rintro _ _ ⟨rfl,rfl⟩; refine E.relist (L2 := (_::_::_::_::_::_::_::_)) rfl ?_
 refine E.kp [(0,_),(2,_),(3,_),(4,_)] rfl ?_
 refine C.cut (M := fun ee ll => ∃ (l2 : List UInt8),∃ (d : Nat),∃ (h : Hd),∃ (bs : List Value),∃ (hb : Nat),∃ (xa : Option Addr),∃ (xn : Nat),∃ (xf : Frag),∃ (f1 : Frag),∃ (f2 : Frag),∃ (f3 : Frag),keeps ee [0,2,3,4] = some [(0,.pointer (some ⟨zb,0,none⟩)),(2,.pointer (some ⟨hb,0,none⟩)),(3,Er.val ea .none),(4,.int .u8 ((v3.toNat : Nat) : Int))] ∧ ll = [f1,f2,f3,⟨zb,0,[c0,c1,c2,c3,c4,c5,.iface src.t src.v,dcv,.int .u32 ((d : Nat) : Int),c9]⟩,⟨zb,10,bs⟩,⟨hb,0,[.string h.comment,.slice xa xn xn,.int .u64 0,.int .i64 (timeV h.mod),.string h.name,.int .u8 ((h.os : Nat) : Int)]⟩,xf] ++ DL ∧ (readHead l = rd1 l2 v3.toNat d h) ∧ (src.At l2 f1 f2 f3) ∧ (bs.length = 512) ∧ (d < 4294967296) ∧ (ExAt h.extra xa xn xf)) ?_ ?_
 ·
  refine C.region ?_
  refine E.pure (S.move rfl) rfl ?_
  refine E.pure (S.move rfl) rfl ?_
  refine E.pure (S.nilPtr rfl) rfl ?_
  refine E.pure (S.field rfl fa76_5) rfl ?_
  refine E.pure (S.slArr (l := 0) (k := .i64) (h := 10) rfl rfl rfl (by omega) (by omega) Tryd.underlying74 Tryd.sizeOf5) rfl ?_
  refine E.reslot (v := .slice (some ⟨zb,10,none⟩) (10) (512)) (slice_to (by simp [part]) rfl rfl) ?_
  refine E.loud1 (X.call rfl Tryd.call56 (ChecksumIEEE_spec zb 10 512 [v0,v1,v2,v3,v4,v5,v6,v7,v8,v9] (Reads.frag (i := 4) (k := 0) rfl rfl) (by simp) (by simp))) rfl ?_; rintro _ _ ⟨rfl,rfl⟩; refine E.relist (L2 := (_::_::_::_::_::_::_::_)) rfl ?_
  refine E.pure (S.nilPtr rfl) rfl ?_
  refine E.pure (S.field rfl fa76_3) rfl ?_
  refine E.loud0 (X.store 3 (k := 8) rfl rfl rfl rfl rfl Tryd.sizeOf52) ?_; rintro _ _ ⟨rfl,rfl⟩; refine E.relist (L2 := (_::_::_::_::_::_::_::_)) rfl ?_
  refine E.kp [(0,_),(2,_),(3,_),(4,_)] rfl ?_
  exact ⟨r,crcOn IEEE 0 [v0,v1,v2,v3,v4,v5,v6,v7,v8,v9],{ noHd with mod := le32 v4.toNat v5.toNat v6.toNat v7.toNat,os := v9.toNat },_,b2,none,0,⟨zb,0,[]⟩,f1,f2,f3,rfl,rfl,by rw [hl,readHead_cons,if_pos (by omega)],hF,by simp only [List.length_cons,List.length_drop]; omega,crcOn_lt (by decide) (by decide) _,⟨rfl,rfl,rfl⟩⟩
 rintro _ _ ⟨l2,d,h,bs,hb,xa,xn,xf,f1,f2,f3,hq12,rfl,hR,hG,hbs,hd,hX⟩
 refine C.weaken _ hq12 ?_
 refine C.cut (M := fun ee ll => ∃ (l2 : List UInt8),∃ (d : Nat),∃ (h : Hd),∃ (bs : List Value),∃ (hb : Nat),∃ (xa : Option Addr),∃ (xn : Nat),∃ (xf : Frag),∃ (f1 : Frag),∃ (f2 : Frag),∃ (f3 : Frag),keeps ee [0,2,3,4] = some [(0,.pointer (some ⟨zb,0,none⟩)),(2,.pointer (some ⟨hb,0,none⟩)),(3,Er.val ea .none),(4,.int .u8 ((v3.toNat : Nat) : Int))] ∧ ll = [f1,f2,f3,⟨zb,0,[c0,c1,c2,c3,c4,c5,.iface src.t src.v,dcv,.int .u32 ((d : Nat) : Int),c9]⟩,⟨zb,10,bs⟩,⟨hb,0,[.string h.comment,.slice xa xn xn,.int .u64 0,.int .i64 (timeV h.mod),.string h.name,.int .u8 ((h.os : Nat) : Int)]⟩,xf] ++ DL ∧ (readHead l = rd2 l2 v3.toNat d h) ∧ (src.At l2 f1 f2 f3) ∧ (bs.length = 512) ∧ (d < 4294967296) ∧ (ExAt h.extra xa xn xf)) ?_ ?_
 ·
  refine C.sr ?_
  refine E.pure (S.move rfl) rfl ?_
  refine E.pure (S.and (b := ((4 : Nat) : Int)) rfl rfl (N.and_u8 (by omega) (by omega))) rfl ?_
  refine E.pure (S.ne (b := ((0 : Nat) : Int)) rfl rfl) rfl ?_
  refine E.kp [(0,_),(2,_),(3,_),(4,_),(81,_)] rfl ?_
  refine C.ifp rfl (fun h81 => ?_) (fun h81 => ?_)
  ·
   refine C.seq ?_
   refine C.seq ?_
   refine C.same (Same.splitAt (k := 2) 4 rfl rfl (List.take_append_drop 2 _).symm (by rw [List.length_take]; omega) rfl) ?_
   refine C.relist (L2 := [_,_,_,_,_,_,_,_] ++ DL) rfl ?_
   refine C.draw [0,1,2,4,0,16,32,64,136,256,512,512,4095] (.pure 0 240 (.pure 1 241 (.pure 2 243 (.pure 4 15 (.pure 5 31 (.pure 6 63 (.pure 7 127 (.seg [(3,247)] (.alt 8 (.pure 9 511 (.pure 10 3071 (.pure 11 2047 (.pure 12 4095 .done)))) .stop))))))))) mixed (by decide +kernel) ?_
   refine D.pure rfl (S.move rfl) rfl ?_
   refine D.pure rfl (S.nilPtr rfl) rfl ?_
   refine D.pure rfl (S.field rfl fa76_1) rfl ?_
   refine D.pure rfl (S.move rfl) rfl ?_
   refine D.pure rfl (S.nilPtr rfl) rfl ?_
   refine D.pure rfl (S.field rfl fa76_5) rfl ?_
   refine D.pure rfl (S.slArr (l := 0) (k := .i64) (h := 2) rfl rfl rfl (by omega) (by omega) Tryd.underlying74 Tryd.sizeOf5) rfl ?_
   refine D.reslot (v := .slice (some ⟨zb,10,none⟩) (2) (512)) (slice_to (by simp [part]) rfl rfl) ?_
   refine D.seg (by decide) ?_
   refine W.still rfl (S.load 5 (k := 6) rfl rfl rfl Tryd.isAgg71) rfl ?_
   refine W.nil ?_
   refine D.one ?_
   refine O.loud1 rfl (OpX.pick [2,2,2,0] (F := (_::_::_::_::_)) rfl (X.call rfl Tryd.call45 (readFull_spec hs src l2 f1 f2 f3 zb 10 2 512 (List.take 2 _) hG (by rw [List.length_take]; omega) (by omega) (by omega)))) rfl ?_; rintro _ _ ⟨_,⟨k1,k2,k3,hF,rfl,rfl⟩,rfl⟩; refine D.relist (L2 := (_::_::_::_::_::_::_::_::_)) rfl ?_
   refine D.pure rfl (S.move rfl) rfl ?_
   refine D.pure rfl (S.extract rfl rfl) rfl ?_
   refine D.pure rfl (S.extract rfl rfl) rfl ?_
   refine D.pure rfl (S.assign rfl) rfl ?_
   refine D.kp [(0,_),(2,_),(3,_),(4,_),(81,_)] rfl ?_
   refine C.same (Same.joinAt 3 3 rfl rfl (by rw [show 10 + 2 = 10 + (2 : Nat) from rfl]; congr 1; simp only [List.length_append,bytesV_length,List.length_take,List.length_drop,min_i]; omega)) ?_
   refine C.perml [1,1,1,1,0,0,0] (A := [_,_,_,_,_,_,_]) (F := DL) rfl ?_
   refine C.relist (L2 := [_,_,_,_,_,_,_] ++ DL) rfl ?_
   refine C.sr ?_
   refine E.pure (S.move rfl) rfl ?_
   refine E.still (S.neErNil rfl) rfl ?_
   refine E.kp [(0,_),(2,_),(3,_),(4,_),(81,_),(95,_)] rfl ?_
   first | refine C.ifp rfl (fun h95 => ?_) (fun h95 => ?_) | refine C.ifNone rfl (fun h95 => ?_) (fun h95 => ?_) | refine C.ifSome rfl (fun h95 => ?_) (fun h95 => ?_) | refine C.ifSe rfl (fun h95 => ?_) (fun h95 => ?_) | refine C.ifNotSe rfl (fun h95 => ?_) (fun h95 => ?_) | refine C.cond rfl (fun h95 => ?_) (fun h95 => ?_)
   ·
    refine C.seq ?_
    refine C.draw [0,0,2,5,15] (.pure 1 1 (.alt 0 (.alt 2 (.alt 3 (.pure 4 15 .done) .stop) .stop) (.alt 2 (.seg [(0,6)] (.alt 3 (.pure 4 15 .done) .stop)) .stop))) mixed (by decide +kernel) ?_
    refine D.pure rfl (S.move rfl) rfl ?_
    refine D.alt ?_ ⟨?_,trivial⟩
    ·
     refine O.still rfl (S.loadA 5 (k := 0) rfl rfl rfl rfl Tryd.isAgg69 Tryd.sizeOf69) rfl ?_
     refine D.one ?_
     refine O.loud1 rfl (OpX.pick [] (F := (_::_::_::_::_::_::_::_)) rfl (X.call rfl Tryd.call46 (gogzip_noEOF (L := []) hs _))) rfl ?_; rintro _ _ ⟨_,⟨rfl,rfl⟩,rfl⟩; refine D.relist (L2 := (_::_::_::_::_::_::_::_)) rfl ?_
     refine D.one ?_
     refine O.loud0 rfl (X.storeA 5 (k := 0) rfl rfl rfl rfl rfl rfl Tryd.sizeOf69 rfl) ?_; rintro _ _ ⟨rfl,rfl⟩; refine D.relist (L2 := (_::_::_::_::_::_::_::_)) rfl ?_
     refine D.pure rfl (S.assign rfl) rfl ?_
     refine D.kp [(0,_),(2,_),(3,_),(4,_),(81,_),(95,_)] rfl ?_
     refine C.ret ?_
     have hRR : readHead l = (noEof (fullErr l2 2),l2.drop 2,h) := by rw [hR,rd1,if_neg (by omega),if_pos h95]
     refine ⟨_,_,⟨_,_,5,rfl,rfl,rfl⟩,rfl,_,_,_,_,_,_,_,rfl,rfl,?_,?_,?_,?_,.inl ⟨?_,[_],rfl⟩⟩
     · rw [hRR]; done
     · rw [hRR]; exact hF
     · rw [buf_join (by omega)]; exact hbs
     · assumption
     · rw [hRR]; first | assumption | (exact noEof_ne (by assumption)) | simp
    refine O.loud1 rfl (OpX.pick [] (F := (_::_::_::_::_::_::_::_)) rfl (X.call rfl Tryd.call46 (gogzip_noEOF (L := []) hs _))) rfl ?_; rintro _ _ ⟨_,⟨rfl,rfl⟩,rfl⟩; refine D.relist (L2 := (_::_::_::_::_::_::_::_)) rfl ?_
    refine D.seg (by decide) ?_
    refine W.still rfl (S.loadA 5 (k := 0) rfl rfl rfl rfl Tryd.isAgg69 Tryd.sizeOf69) rfl ?_
    refine W.nil ?_
    refine D.one ?_
    refine O.loud0 rfl (X.storeA 5 (k := 0) rfl rfl rfl rfl rfl rfl Tryd.sizeOf69 rfl) ?_; rintro _ _ ⟨rfl,rfl⟩; refine D.relist (L2 := (_::_::_::_::_::_::_::_)) rfl ?_
    refine D.pure rfl (S.assign rfl) rfl ?_
    refine D.kp [(0,_),(2,_),(3,_),(4,_),(81,_),(95,_)] rfl ?_
    refine C.ret ?_
    have hRR : readHead l = (noEof (fullErr l2 2),l2.drop 2,h) := by rw [hR,rd1,if_neg (by omega),if_pos h95]
    refine ⟨_,_,⟨_,_,5,rfl,rfl,rfl⟩,rfl,_,_,_,_,_,_,_,rfl,rfl,?_,?_,?_,?_,.inl ⟨?_,[_],rfl⟩⟩
    · rw [hRR]; done
    · rw [hRR]; exact hF
    · rw [buf_join (by omega)]; exact hbs
    · assumption
    · rw [hRR]; first | assumption | (exact noEof_ne (by assumption)) | simp
   rw [h95]
   obtain ⟨w0,w1,r2,hl2⟩ := two h95
   have hw0 := w0.toNat_lt
   have hw1 := w1.toNat_lt
   have h16 := le16_lt hw0 hw1
   have e1 : l2.drop 2 = r2 := by rw [hl2]; rfl
   have e2 : le16of l2 = le16 w0.toNat w1.toNat := by rw [hl2]; rfl
   refine C.relist (L2 := [k1,k2,k3,⟨zb,0,[c0,c1,c2,c3,c4,c5,.iface src.t src.v,dcv,.int .u32 ((d : Nat) : Int),c9]⟩,⟨zb,10,u8 w0::u8 w1::bs.drop 2⟩,⟨hb,0,[.string h.comment,.slice xa xn xn,.int .u64 0,.int .i64 (timeV h.mod),.string h.name,.int .u8 ((h.os : Nat) : Int)]⟩,xf] ++ DL) (by rw [buf_full (full_len h95),hl2]; rfl) ?_
   rw [e1] at hF
   refine C.skip ?_
   refine C.seq ?_
   refine C.draw [0,0,2,4,8,0,32,64,128,272,1023,2047,3071] (.pure 0 1022 (.pure 1 481 (.pure 2 483 (.pure 3 487 (.pure 5 31 (.pure 6 63 (.pure 7 127 (.pure 8 255 (.seg [(4,495)] (.alt 9 (.pure 10 1023 (.pure 11 2047 (.alt 12 .done .stop))) .stop)))))))))) mixed (by decide +kernel) ?_
   refine D.pure rfl (S.move rfl) rfl ?_
   refine D.pure rfl (S.move rfl) rfl ?_
   refine D.pure rfl (S.nilPtr rfl) rfl ?_
   refine D.pure rfl (S.field rfl fa76_3) rfl ?_
   refine D.pure rfl (S.move rfl) rfl ?_
   refine D.pure rfl (S.nilPtr rfl) rfl ?_
   refine D.pure rfl (S.field rfl fa76_5) rfl ?_
   refine D.pure rfl (S.slArr (l := 0) (k := .i64) (h := 2) rfl rfl rfl (by omega) (by omega) Tryd.underlying74 Tryd.sizeOf5) rfl ?_
   refine D.reslot (v := .slice (some ⟨zb,10,none⟩) (2) (512)) (slice_to (by simp [part]) rfl rfl) ?_
   refine D.seg (by decide) ?_
   refine W.still rfl (S.load 3 (k := 8) rfl rfl rfl Tryd.isAgg52) rfl ?_
   refine W.nil ?_
   refine D.one ?_
   refine O.loud1 rfl (X.call rfl Tryd.call44 (UpdateIEEE_spec d zb 10 512 [w0,w1] hd (Reads.frag (i := 4) (k := 0) rfl rfl) (by simp) (by simp))) rfl ?_; rintro _ _ ⟨rfl,rfl⟩; refine D.relist (L2 := (_::_::_::_::_::_::_::_)) rfl ?_
   refine D.pure rfl (S.nilPtr rfl) rfl ?_
   refine D.pure rfl (S.field rfl fa76_3) rfl ?_
   refine D.one ?_
   refine O.loud0 rfl (X.store 3 (k := 8) rfl rfl rfl rfl rfl Tryd.sizeOf52) ?_; rintro _ _ ⟨rfl,rfl⟩; refine D.relist (L2 := (_::_::_::_::_::_::_::_)) rfl ?_
   refine D.kp [(0,_),(2,_),(3,_),(4,_),(81,_),(95,_)] rfl ?_
   refine C.sr ?_
   refine E.pure (S.move rfl) rfl ?_
   refine E.pure (S.nilPtr rfl) rfl ?_
   refine E.pure (S.field rfl fa76_5) rfl ?_
   refine E.pure (S.slArr (l := 0) (k := .i64) (h := 2) rfl rfl rfl (by omega) (by omega) Tryd.underlying74 Tryd.sizeOf5) rfl ?_
   refine E.reslot (v := .slice (some ⟨zb,10,none⟩) (2) (512)) (slice_to (by simp [part]) rfl rfl) ?_
   refine E.loud1 (X.call rfl Tryd.call57 (le16_spec zb 10 2 512 w0 w1 [] (by omega) (Reads.frag (i := 4) (k := 0) rfl rfl))) rfl ?_; rintro _ _ ⟨rfl,rfl⟩; refine E.relist (L2 := (_::_::_::_::_::_::_::_)) rfl ?_
   refine E.loud1 (X.make (l := le16 w0.toNat w1.toNat) (c := le16 w0.toNat w1.toNat) (bytes := 1) Tryd.underlying22 infoB (z := .int .u8 0) rfl rfl rfl rfl rfl rfl (Nat.le_refl _) (by omega) (by omega)) rfl ?_; rintro _ _ ⟨eb,rfl,rfl⟩; refine E.relist (L2 := (_::_::_::_::_::_::_::_::_)) rfl ?_
   refine E.perml [1,1,1,1,1,1,0] (A := [_,_,_,_,_,_,_]) (F := [_] ++ DL) rfl ?_
   refine E.shed [7] (A := [_]) (F := [_,_,_,_,_,_,_] ++ DL) rfl ?_
   refine E.pure (S.assign rfl) rfl ?_
   refine E.kp [(0,_),(2,_),(3,_),(4,_),(6,_),(81,_),(95,_)] rfl ?_
   refine C.seq ?_
   refine C.sr ?_
   refine E.pure (S.move rfl) rfl ?_
   refine E.pure (S.nilPtr rfl) rfl ?_
   refine E.pure (S.field rfl fa76_1) rfl ?_
   refine E.still (S.load 3 (k := 6) rfl rfl rfl Tryd.isAgg71) rfl ?_
   refine E.pure (S.move rfl) rfl ?_
   refine E.loud1 (OpX.pick [0,0,0,3] (F := (_::_::_::_)) rfl (X.call rfl Tryd.call45 (readFull_spec hs src r2 k1 k2 k3 eb 0 (le16 w0.toNat w1.toNat) (le16 w0.toNat w1.toNat) (List.replicate (le16 w0.toNat w1.toNat) (.int .u8 0)) hF (by rw [List.length_replicate]) (Nat.le_refl _) (by omega)))) rfl ?_; rintro _ _ ⟨_,⟨j1,j2,j3,hJ,rfl,rfl⟩,rfl⟩; refine E.relist (L2 := (_::_::_::_::_::_::_::_)) rfl ?_
   refine E.perml [0,0,0,1,1,1,0] (A := [_,_,_,_,_,_,_]) (F := DL) rfl ?_
   refine E.relist (L2 := [_,_,_,_,_,_,_] ++ DL) rfl ?_
   refine E.pure (S.move rfl) rfl ?_
   refine E.pure (S.extract rfl rfl) rfl ?_
   refine E.pure (S.extract rfl rfl) rfl ?_
   refine E.pure (S.assign rfl) rfl ?_
   refine E.kp [(0,_),(2,_),(3,_),(4,_),(6,_),(81,_),(95,_)] rfl ?_
   refine C.sr ?_
   refine E.pure (S.move rfl) rfl ?_
   refine E.still (S.neErNil rfl) rfl ?_
   refine E.kp [(0,_),(2,_),(3,_),(4,_),(6,_),(81,_),(95,_),(127,_)] rfl ?_
   first | refine C.ifp rfl (fun h127 => ?_) (fun h127 => ?_) | refine C.ifNone rfl (fun h127 => ?_) (fun h127 => ?_) | refine C.ifSome rfl (fun h127 => ?_) (fun h127 => ?_) | refine C.ifSe rfl (fun h127 => ?_) (fun h127 => ?_) | refine C.ifNotSe rfl (fun h127 => ?_) (fun h127 => ?_) | refine C.cond rfl (fun h127 => ?_) (fun h127 => ?_)
   ·
    refine C.seq ?_
    refine C.draw [0,0,2,5,15] (.pure 1 1 (.alt 0 (.alt 2 (.alt 3 (.pure 4 15 .done) .stop) .stop) (.alt 2 (.seg [(0,6)] (.alt 3 (.pure 4 15 .done) .stop)) .stop))) mixed (by decide +kernel) ?_
    refine D.pure rfl (S.move rfl) rfl ?_
    refine D.alt ?_ ⟨?_,trivial⟩
    ·
     refine O.still rfl (S.loadA 5 (k := 0) rfl rfl rfl rfl Tryd.isAgg69 Tryd.sizeOf69) rfl ?_
     refine D.one ?_
     refine O.loud1 rfl (OpX.pick [] (F := (_::_::_::_::_::_::_::_)) rfl (X.call rfl Tryd.call46 (gogzip_noEOF (L := []) hs _))) rfl ?_; rintro _ _ ⟨_,⟨rfl,rfl⟩,rfl⟩; refine D.relist (L2 := (_::_::_::_::_::_::_::_)) rfl ?_
     refine D.one ?_
     refine O.loud0 rfl (X.storeA 5 (k := 0) rfl rfl rfl rfl rfl rfl Tryd.sizeOf69 rfl) ?_; rintro _ _ ⟨rfl,rfl⟩; refine D.relist (L2 := (_::_::_::_::_::_::_::_)) rfl ?_
     refine D.pure rfl (S.assign rfl) rfl ?_
     refine D.kp [(0,_),(2,_),(3,_),(4,_),(6,_),(81,_),(95,_),(127,_)] rfl ?_
     refine C.ret ?_
     have hRR : readHead l = (noEof (fullErr r2 (le16 w0.toNat w1.toNat)),r2.drop (le16 w0.toNat w1.toNat),h) := by rw [hR,rd1,if_neg (by omega),if_neg (by simpa using h95),e1,e2,if_pos h127]
     refine ⟨_,_,⟨_,_,5,rfl,rfl,rfl⟩,rfl,_,_,_,_,_,_,_,rfl,rfl,?_,?_,?_,?_,.inl ⟨?_,[_],rfl⟩⟩
     · rw [hRR]; done
     · rw [hRR]; exact hJ
     · simp only [List.length_cons,List.length_drop]; omega
     · exact crcOn_lt (by decide) hd _
     · rw [hRR]; first | assumption | (exact noEof_ne (by assumption)) | simp
    refine O.loud1 rfl (OpX.pick [] (F := (_::_::_::_::_::_::_::_)) rfl (X.call rfl Tryd.call46 (gogzip_noEOF (L := []) hs _))) rfl ?_; rintro _ _ ⟨_,⟨rfl,rfl⟩,rfl⟩; refine D.relist (L2 := (_::_::_::_::_::_::_::_)) rfl ?_
    refine D.seg (by decide) ?_
    refine W.still rfl (S.loadA 5 (k := 0) rfl rfl rfl rfl Tryd.isAgg69 Tryd.sizeOf69) rfl ?_
    refine W.nil ?_
    refine D.one ?_
    refine O.loud0 rfl (X.storeA 5 (k := 0) rfl rfl rfl rfl rfl rfl Tryd.sizeOf69 rfl) ?_; rintro _ _ ⟨rfl,rfl⟩; refine D.relist (L2 := (_::_::_::_::_::_::_::_)) rfl ?_
    refine D.pure rfl (S.assign rfl) rfl ?_
    refine D.kp [(0,_),(2,_),(3,_),(4,_),(6,_),(81,_),(95,_),(127,_)] rfl ?_
    refine C.ret ?_
    have hRR : readHead l = (noEof (fullErr r2 (le16 w0.toNat w1.toNat)),r2.drop (le16 w0.toNat w1.toNat),h) := by rw [hR,rd1,if_neg (by omega),if_neg (by simpa using h95),e1,e2,if_pos h127]
    refine ⟨_,_,⟨_,_,5,rfl,rfl,rfl⟩,rfl,_,_,_,_,_,_,_,rfl,rfl,?_,?_,?_,?_,.inl ⟨?_,[_],rfl⟩⟩
    · rw [hRR]; done
    · rw [hRR]; exact hJ
    · simp only [List.length_cons,List.length_drop]; omega
    · exact crcOn_lt (by decide) hd _
    · rw [hRR]; first | assumption | (exact noEof_ne (by assumption)) | simp
   rw [h127]
   have hn := full_len h127
   refine C.relist (L2 := [j1,j2,j3,⟨zb,0,[c0,c1,c2,c3,c4,c5,.iface src.t src.v,dcv,.int .u32 ((crcOn IEEE d [w0,w1] : Nat) : Int),c9]⟩,⟨zb,10,u8 w0::u8 w1::bs.drop 2⟩,⟨hb,0,[.string h.comment,.slice xa xn xn,.int .u64 0,.int .i64 (timeV h.mod),.string h.name,.int .u8 ((h.os : Nat) : Int)]⟩,⟨eb,0,bytesV (r2.take (le16 w0.toNat w1.toNat))⟩] ++ DL) (by rw [full_all hn List.length_replicate]; rfl) ?_
   refine C.skip ?_
   refine C.sr ?_
   refine E.pure (S.move rfl) rfl ?_
   refine E.pure (S.move rfl) rfl ?_
   refine E.pure (S.nilPtr rfl) rfl ?_
   refine E.pure (S.field rfl fa76_3) rfl ?_
   refine E.still (S.load 3 (k := 8) rfl rfl rfl Tryd.isAgg52) rfl ?_
   refine E.pure (S.move rfl) rfl ?_
   refine E.reslot (v := .slice (some ⟨eb,0,none⟩) ((r2.take (le16 w0.toNat w1.toNat)).length) (le16 w0.toNat w1.toNat)) (slice_to rfl (by rw [List.length_take]; omega) rfl) ?_
   refine E.loud1 (X.call rfl Tryd.call44 (UpdateIEEE_spec (crcOn IEEE d [w0,w1]) eb 0 (le16 w0.toNat w1.toNat) (r2.take (le16 w0.toNat w1.toNat)) (crcOn_lt (by decide) hd _) (Reads.frag (i := 6) (k := 0) rfl part_all) (by rw [List.length_take]; omega) (by rw [List.length_take]; omega))) rfl ?_; rintro _ _ ⟨rfl,rfl⟩; refine E.relist (L2 := (_::_::_::_::_::_::_::_)) rfl ?_
   refine E.pure (S.nilPtr rfl) rfl ?_
   refine E.pure (S.field rfl fa76_3) rfl ?_
   refine E.loud0 (X.store 3 (k := 8) rfl rfl rfl rfl rfl Tryd.sizeOf52) ?_; rintro _ _ ⟨rfl,rfl⟩; refine E.relist (L2 := (_::_::_::_::_::_::_::_)) rfl ?_
   refine E.kp [(0,_),(2,_),(3,_),(4,_),(6,_),(81,_),(95,_),(127,_)] rfl ?_
   refine C.region ?_
   refine E.pure (S.move rfl) rfl ?_
   refine E.pure (S.field rfl fa69_1) rfl ?_
   refine E.loud0 (X.store 5 (k := 1) rfl rfl rfl rfl rfl Tryd.sizeOf22) ?_; rintro _ _ ⟨rfl,rfl⟩; refine E.relist (L2 := (_::_::_::_::_::_::_::_)) rfl ?_
   refine E.kp [(0,_),(2,_),(3,_),(4,_),(6,_),(81,_),(95,_),(127,_)] rfl ?_
   exact ⟨r2.drop (le16 w0.toNat w1.toNat),crcOn IEEE (crcOn IEEE d [w0,w1]) (r2.take (le16 w0.toNat w1.toNat)),{ h with extra := some (r2.take (le16 w0.toNat w1.toNat)) },_,hb,some ⟨eb,0,none⟩,le16 w0.toNat w1.toNat,_,j1,j2,j3,rfl,rfl,by rw [hR,rd1,if_neg (by omega),if_neg (by simpa using h95),e1,e2,if_neg (by simpa using h127),hl2]; rfl,hJ,by simp only [List.length_cons,List.length_drop]; omega,crcOn_lt (by decide) (crcOn_lt (by decide) hd _) _,⟨eb,rfl,by rw [List.length_take,Nat.min_eq_left hn],rfl,by rw [List.length_take]; omega⟩⟩
  refine C.skip ?_
  first | exact ⟨r2.drop (le16 w0.toNat w1.toNat),crcOn IEEE (crcOn IEEE d [w0,w1]) (r2.take (le16 w0.toNat w1.toNat)),{ h with extra := some (r2.take (le16 w0.toNat w1.toNat)) },_,hb,some ⟨eb,0,none⟩,le16 w0.toNat w1.toNat,_,j1,j2,j3,rfl,rfl,by rw [hR,rd1,if_neg (by omega),if_neg (by simpa using h95),e1,e2,if_neg (by simpa using h127),hl2]; rfl,hJ,by simp only [List.length_cons,List.length_drop]; omega,crcOn_lt (by decide) (crcOn_lt (by decide) hd _) _,⟨eb,rfl,by rw [List.length_take,Nat.min_eq_left hn],rfl,by rw [List.length_take]; omega⟩⟩ | exact ⟨l2,d,h,bs,hb,xa,xn,xf,f1,f2,f3,rfl,rfl,by rw [hR,rd1,if_pos (by omega)],hG,hbs,hd,hX⟩
 rintro _ _ ⟨l2,d,h,bs,hb,xa,xn,xf,f1,f2,f3,hq23,rfl,hR,hG,hbs,hd,hX⟩
 refine C.weaken _ hq23 ?_
 refine C.sr ?_
 refine E.pure (S.assign rfl) rfl ?_
 refine E.kp [(0,_),(2,_),(3,_),(4,_),(7,_)] rfl ?_
 refine C.cut (M := fun ee ll => ∃ (l2 : List UInt8),∃ (d : Nat),∃ (h : Hd),∃ (bs : List Value),∃ (hb : Nat),∃ (xa : Option Addr),∃ (xn : Nat),∃ (xf : Frag),∃ (f1 : Frag),∃ (f2 : Frag),∃ (f3 : Frag),keeps ee [0,2,3,4] = some [(0,.pointer (some ⟨zb,0,none⟩)),(2,.pointer (some ⟨hb,0,none⟩)),(3,Er.val ea .none),(4,.int .u8 ((v3.toNat : Nat) : Int))] ∧ ll = [f1,f2,f3,⟨zb,0,[c0,c1,c2,c3,c4,c5,.iface src.t src.v,dcv,.int .u32 ((d : Nat) : Int),c9]⟩,⟨zb,10,bs⟩,⟨hb,0,[.string h.comment,.slice xa xn xn,.int .u64 0,.int .i64 (timeV h.mod),.string h.name,.int .u8 ((h.os : Nat) : Int)]⟩,xf] ++ DL ∧ (readHead l = rd3 l2 v3.toNat d h) ∧ (src.At l2 f1 f2 f3) ∧ (bs.length = 512) ∧ (d < 4294967296) ∧ (ExAt h.extra xa xn xf)) ?_ ?_
 ·
  refine C.sr ?_
  refine E.pure (S.move rfl) rfl ?_
  refine E.pure (S.and (b := ((8 : Nat) : Int)) rfl rfl (N.and_u8 (by omega) (by omega))) rfl ?_
  refine E.pure (S.ne (b := ((0 : Nat) : Int)) rfl rfl) rfl ?_
  refine E.kp [(0,_),(2,_),(3,_),(4,_),(7,_),(144,_)] rfl ?_
  refine C.ifp rfl (fun h144 => ?_) (fun h144 => ?_)
  ·
   refine C.seq ?_
   refine C.sr ?_
   refine E.pure (S.move rfl) rfl ?_
   refine E.loud1 (OpX.pick [0,0,0,0,0] (F := (_::_::_)) rfl (X.call rfl Tryd.call58 (readString_spec hs src l2 f1 f2 f3 zb d c0 c1 c2 c3 c4 c5 dcv c9 bs hG hbs hd))) rfl ?_; rintro _ _ ⟨_,⟨k1,k2,k3,bs2,hF,hbs2,rfl,rfl⟩,rfl⟩; refine E.relist (L2 := (_::_::_::_::_::_::_::_)) rfl ?_
   refine E.pure (S.move rfl) rfl ?_
   refine E.pure (S.extract rfl rfl) rfl ?_
   refine E.pure (S.extract rfl rfl) rfl ?_
   refine E.pure (S.assign rfl) rfl ?_
   refine E.pure (S.assign rfl) rfl ?_
   refine E.kp [(0,_),(2,_),(3,_),(4,_),(7,_),(144,_)] rfl ?_
   refine C.sr ?_
   refine E.pure (S.move rfl) rfl ?_
   refine E.still (S.neErNil rfl) rfl ?_
   refine E.kp [(0,_),(2,_),(3,_),(4,_),(7,_),(144,_),(151,_)] rfl ?_
   first | refine C.ifp rfl (fun h151 => ?_) (fun h151 => ?_) | refine C.ifNone rfl (fun h151 => ?_) (fun h151 => ?_) | refine C.ifSome rfl (fun h151 => ?_) (fun h151 => ?_) | refine C.ifSe rfl (fun h151 => ?_) (fun h151 => ?_) | refine C.ifNotSe rfl (fun h151 => ?_) (fun h151 => ?_) | refine C.cond rfl (fun h151 => ?_) (fun h151 => ?_)
   ·
    refine C.seq ?_
    refine C.draw [0,0,2,5,15] (.pure 1 1 (.alt 0 (.alt 2 (.alt 3 (.pure 4 15 .done) .stop) .stop) (.alt 2 (.seg [(0,6)] (.alt 3 (.pure 4 15 .done) .stop)) .stop))) mixed (by decide +kernel) ?_
    refine D.pure rfl (S.move rfl) rfl ?_
    refine D.alt ?_ ⟨?_,trivial⟩
    ·
     refine O.still rfl (S.loadA 5 (k := 0) rfl rfl rfl rfl Tryd.isAgg69 Tryd.sizeOf69) rfl ?_
     refine D.one ?_
     refine O.loud1 rfl (OpX.pick [] (F := (_::_::_::_::_::_::_::_)) rfl (X.call rfl Tryd.call46 (gogzip_noEOF (L := []) hs _))) rfl ?_; rintro _ _ ⟨_,⟨rfl,rfl⟩,rfl⟩; refine D.relist (L2 := (_::_::_::_::_::_::_::_)) rfl ?_
     refine D.one ?_
     refine O.loud0 rfl (X.storeA 5 (k := 0) rfl rfl rfl rfl rfl rfl Tryd.sizeOf69 rfl) ?_; rintro _ _ ⟨rfl,rfl⟩; refine D.relist (L2 := (_::_::_::_::_::_::_::_)) rfl ?_
     refine D.pure rfl (S.assign rfl) rfl ?_
     refine D.kp [(0,_),(2,_),(3,_),(4,_),(7,_),(144,_),(151,_)] rfl ?_
     refine C.ret ?_
     have hRR : readHead l = (noEof (strEr l2),l2.drop (strUsed l2),h) := by rw [hR,rd2,if_neg (by omega),if_pos h151]
     refine ⟨_,_,⟨_,_,5,rfl,rfl,rfl⟩,rfl,_,_,_,_,_,_,_,rfl,rfl,?_,?_,?_,?_,.inl ⟨?_,[_],rfl⟩⟩
     · rw [hRR]; done
     · rw [hRR]; exact hF
     · exact hbs2
     · exact strCrc_lt hd l2
     · rw [hRR]; first | assumption | (exact noEof_ne (by assumption)) | simp
    refine O.loud1 rfl (OpX.pick [] (F := (_::_::_::_::_::_::_::_)) rfl (X.call rfl Tryd.call46 (gogzip_noEOF (L := []) hs _))) rfl ?_; rintro _ _ ⟨_,⟨rfl,rfl⟩,rfl⟩; refine D.relist (L2 := (_::_::_::_::_::_::_::_)) rfl ?_
    refine D.seg (by decide) ?_
    refine W.still rfl (S.loadA 5 (k := 0) rfl rfl rfl rfl Tryd.isAgg69 Tryd.sizeOf69) rfl ?_
    refine W.nil ?_
    refine D.one ?_
    refine O.loud0 rfl (X.storeA 5 (k := 0) rfl rfl rfl rfl rfl rfl Tryd.sizeOf69 rfl) ?_; rintro _ _ ⟨rfl,rfl⟩; refine D.relist (L2 := (_::_::_::_::_::_::_::_)) rfl ?_
    refine D.pure rfl (S.assign rfl) rfl ?_
    refine D.kp [(0,_),(2,_),(3,_),(4,_),(7,_),(144,_),(151,_)] rfl ?_
    refine C.ret ?_
    have hRR : readHead l = (noEof (strEr l2),l2.drop (strUsed l2),h) := by rw [hR,rd2,if_neg (by omega),if_pos h151]
    refine ⟨_,_,⟨_,_,5,rfl,rfl,rfl⟩,rfl,_,_,_,_,_,_,_,rfl,rfl,?_,?_,?_,?_,.inl ⟨?_,[_],rfl⟩⟩
    · rw [hRR]; done
    · rw [hRR]; exact hF
    · exact hbs2
    · exact strCrc_lt hd l2
    · rw [hRR]; first | assumption | (exact noEof_ne (by assumption)) | simp
   rw [h151]
   refine C.skip ?_
   refine C.region ?_
   refine E.pure (S.move rfl) rfl ?_
   refine E.pure (S.field rfl fa69_3) rfl ?_
   refine E.loud0 (X.store 5 (k := 4) rfl rfl rfl rfl rfl Tryd.sizeOf9) ?_; rintro _ _ ⟨rfl,rfl⟩; refine E.relist (L2 := (_::_::_::_::_::_::_::_)) rfl ?_
   refine E.kp [(0,_),(2,_),(3,_),(4,_),(7,_),(144,_),(151,_)] rfl ?_
   exact ⟨l2.drop (strUsed l2),strCrc d l2,{ h with name := strTxt l2 },bs2,hb,xa,xn,xf,k1,k2,k3,rfl,rfl,by rw [hR,rd2,if_neg (by omega),if_neg (by simpa using h151)],hF,hbs2,strCrc_lt hd l2,hX⟩
  refine C.skip ?_
  first | exact ⟨l2.drop (strUsed l2),strCrc d l2,{ h with name := strTxt l2 },bs2,hb,xa,xn,xf,k1,k2,k3,rfl,rfl,by rw [hR,rd2,if_neg (by omega),if_neg (by simpa using h151)],hF,hbs2,strCrc_lt hd l2,hX⟩ | exact ⟨l2,d,h,bs,hb,xa,xn,xf,f1,f2,f3,rfl,rfl,by rw [hR,rd2,if_pos (by omega)],hG,hbs,hd,hX⟩
 rintro _ _ ⟨l2,d,h,bs,hb,xa,xn,xf,f1,f2,f3,hq29,rfl,hR,hG,hbs,hd,hX⟩
 refine C.weaken _ hq29 ?_
 refine C.cut (M := fun ee ll => ∃ (l2 : List UInt8),∃ (d : Nat),∃ (h : Hd),∃ (bs : List Value),∃ (hb : Nat),∃ (xa : Option Addr),∃ (xn : Nat),∃ (xf : Frag),∃ (f1 : Frag),∃ (f2 : Frag),∃ (f3 : Frag),keeps ee [0,2,3,4] = some [(0,.pointer (some ⟨zb,0,none⟩)),(2,.pointer (some ⟨hb,0,none⟩)),(3,Er.val ea .none),(4,.int .u8 ((v3.toNat : Nat) : Int))] ∧ ll = [f1,f2,f3,⟨zb,0,[c0,c1,c2,c3,c4,c5,.iface src.t src.v,dcv,.int .u32 ((d : Nat) : Int),c9]⟩,⟨zb,10,bs⟩,⟨hb,0,[.string h.comment,.slice xa xn xn,.int .u64 0,.int .i64 (timeV h.mod),.string h.name,.int .u8 ((h.os : Nat) : Int)]⟩,xf] ++ DL ∧ (readHead l = rd4 l2 v3.toNat d h) ∧ (src.At l2 f1 f2 f3) ∧ (bs.length = 512) ∧ (d < 4294967296) ∧ (ExAt h.extra xa xn xf)) ?_ ?_
 ·
  refine C.sr ?_
  refine E.pure (S.move rfl) rfl ?_
  refine E.pure (S.and (b := ((16 : Nat) : Int)) rfl rfl (N.and_u8 (by omega) (by omega))) rfl ?_
  refine E.pure (S.ne (b := ((0 : Nat) : Int)) rfl rfl) rfl ?_
  refine E.kp [(0,_),(2,_),(3,_),(4,_),(159,_)] rfl ?_
  refine C.ifp rfl (fun h159 => ?_) (fun h159 => ?_)
  ·
   refine C.seq ?_
   refine C.sr ?_
   refine E.pure (S.move rfl) rfl ?_
   refine E.loud1 (OpX.pick [0,0,0,0,0] (F := (_::_::_)) rfl (X.call rfl Tryd.call58 (readString_spec hs src l2 f1 f2 f3 zb d c0 c1 c2 c3 c4 c5 dcv c9 bs hG hbs hd))) rfl ?_; rintro _ _ ⟨_,⟨k1,k2,k3,bs2,hF,hbs2,rfl,rfl⟩,rfl⟩; refine E.relist (L2 := (_::_::_::_::_::_::_::_)) rfl ?_
   refine E.pure (S.move rfl) rfl ?_
   refine E.pure (S.extract rfl rfl) rfl ?_
   refine E.pure (S.extract rfl rfl) rfl ?_
   refine E.pure (S.assign rfl) rfl ?_
   refine E.pure (S.assign rfl) rfl ?_
   refine E.kp [(0,_),(2,_),(3,_),(4,_),(7,_),(159,_)] rfl ?_
   refine C.sr ?_
   refine E.pure (S.move rfl) rfl ?_
   refine E.still (S.neErNil rfl) rfl ?_
   refine E.kp [(0,_),(2,_),(3,_),(4,_),(7,_),(159,_),(166,_)] rfl ?_
   first | refine C.ifp rfl (fun h166 => ?_) (fun h166 => ?_) | refine C.ifNone rfl (fun h166 => ?_) (fun h166 => ?_) | refine C.ifSome rfl (fun h166 => ?_) (fun h166 => ?_) | refine C.ifSe rfl (fun h166 => ?_) (fun h166 => ?_) | refine C.ifNotSe rfl (fun h166 => ?_) (fun h166 => ?_) | refine C.cond rfl (fun h166 => ?_) (fun h166 => ?_)
   ·
    refine C.seq ?_
    refine C.draw [0,0,2,5,15] (.pure 1 1 (.alt 0 (.alt 2 (.alt 3 (.pure 4 15 .done) .stop) .stop) (.alt 2 (.seg [(0,6)] (.alt 3 (.pure 4 15 .done) .stop)) .stop))) mixed (by decide +kernel) ?_
    refine D.pure rfl (S.move rfl) rfl ?_
    refine D.alt ?_ ⟨?_,trivial⟩
    ·
     refine O.still rfl (S.loadA 5 (k := 0) rfl rfl rfl rfl Tryd.isAgg69 Tryd.sizeOf69) rfl ?_
     refine D.one ?_
     refine O.loud1 rfl (OpX.pick [] (F := (_::_::_::_::_::_::_::_)) rfl (X.call rfl Tryd.call46 (gogzip_noEOF (L := []) hs _))) rfl ?_; rintro _ _ ⟨_,⟨rfl,rfl⟩,rfl⟩; refine D.relist (L2 := (_::_::_::_::_::_::_::_)) rfl ?_
     refine D.one ?_
     refine O.loud0 rfl (X.storeA 5 (k := 0) rfl rfl rfl rfl rfl rfl Tryd.sizeOf69 rfl) ?_; rintro _ _ ⟨rfl,rfl⟩; refine D.relist (L2 := (_::_::_::_::_::_::_::_)) rfl ?_
     refine D.pure rfl (S.assign rfl) rfl ?_
     refine D.kp [(0,_),(2,_),(3,_),(4,_),(7,_),(159,_),(166,_)] rfl ?_
     refine C.ret ?_
     have hRR : readHead l = (noEof (strEr l2),l2.drop (strUsed l2),h) := by rw [hR,rd3,if_neg (by omega),if_pos h166]
     refine ⟨_,_,⟨_,_,5,rfl,rfl,rfl⟩,rfl,_,_,_,_,_,_,_,rfl,rfl,?_,?_,?_,?_,.inl ⟨?_,[_],rfl⟩⟩
     · rw [hRR]; done
     · rw [hRR]; exact hF
     · exact hbs2
     · exact strCrc_lt hd l2
     · rw [hRR]; first | assumption | (exact noEof_ne (by assumption)) | simp
    refine O.loud1 rfl (OpX.pick [] (F := (_::_::_::_::_::_::_::_)) rfl (X.call rfl Tryd.call46 (gogzip_noEOF (L := []) hs _))) rfl ?_; rintro _ _ ⟨_,⟨rfl,rfl⟩,rfl⟩; refine D.relist (L2 := (_::_::_::_::_::_::_::_)) rfl ?_
    refine D.seg (by decide) ?_
    refine W.still rfl (S.loadA 5 (k := 0) rfl rfl rfl rfl Tryd.isAgg69 Tryd.sizeOf69) rfl ?_
    refine W.nil ?_
    refine D.one ?_
    refine O.loud0 rfl (X.storeA 5 (k := 0) rfl rfl rfl rfl rfl rfl Tryd.sizeOf69 rfl) ?_; rintro _ _ ⟨rfl,rfl⟩; refine D.relist (L2 := (_::_::_::_::_::_::_::_)) rfl ?_
    refine D.pure rfl (S.assign rfl) rfl ?_
    refine D.kp [(0,_),(2,_),(3,_),(4,_),(7,_),(159,_),(166,_)] rfl ?_
    refine C.ret ?_
    have hRR : readHead l = (noEof (strEr l2),l2.drop (strUsed l2),h) := by rw [hR,rd3,if_neg (by omega),if_pos h166]
    refine ⟨_,_,⟨_,_,5,rfl,rfl,rfl⟩,rfl,_,_,_,_,_,_,_,rfl,rfl,?_,?_,?_,?_,.inl ⟨?_,[_],rfl⟩⟩
    · rw [hRR]; done
    · rw [hRR]; exact hF
    · exact hbs2
    · exact strCrc_lt hd l2
    · rw [hRR]; first | assumption | (exact noEof_ne (by assumption)) | simp
   rw [h166]
   refine C.skip ?_
   refine C.region ?_
   refine E.pure (S.move rfl) rfl ?_
   refine E.pure (S.field rfl fa69_0) rfl ?_
   refine E.loud0 (X.store 5 (k := 0) rfl rfl rfl rfl rfl Tryd.sizeOf9) ?_; rintro _ _ ⟨rfl,rfl⟩; refine E.relist (L2 := (_::_::_::_::_::_::_::_)) rfl ?_
   refine E.kp [(0,_),(2,_),(3,_),(4,_),(7,_),(159,_),(166,_)] rfl ?_
   exact ⟨l2.drop (strUsed l2),strCrc d l2,{ h with comment := strTxt l2 },bs2,hb,xa,xn,xf,k1,k2,k3,rfl,rfl,by rw [hR,rd3,if_neg (by omega),if_neg (by simpa using h166)],hF,hbs2,strCrc_lt hd l2,hX⟩
  refine C.skip ?_
  first | exact ⟨l2.drop (strUsed l2),strCrc d l2,{ h with comment := strTxt l2 },bs2,hb,xa,xn,xf,k1,k2,k3,rfl,rfl,by rw [hR,rd3,if_neg (by omega),if_neg (by simpa using h166)],hF,hbs2,strCrc_lt hd l2,hX⟩ | exact ⟨l2,d,h,bs,hb,xa,xn,xf,f1,f2,f3,rfl,rfl,by rw [hR,rd3,if_pos (by omega)],hG,hbs,hd,hX⟩
 rintro _ _ ⟨l2,d,h,bs,hb,xa,xn,xf,f1,f2,f3,hq34,rfl,hR,hG,hbs,hd,hX⟩
 refine C.weaken _ hq34 ?_
 refine C.cut (M := fun ee ll => ∃ (l2 : List UInt8),∃ (d : Nat),∃ (h : Hd),∃ (bs : List Value),∃ (hb : Nat),∃ (xa : Option Addr),∃ (xn : Nat),∃ (xf : Frag),∃ (f1 : Frag),∃ (f2 : Frag),∃ (f3 : Frag),keeps ee [0,2,3,4] = some [(0,.pointer (some ⟨zb,0,none⟩)),(2,.pointer (some ⟨hb,0,none⟩)),(3,Er.val ea .none),(4,.int .u8 ((v3.toNat : Nat) : Int))] ∧ ll = [f1,f2,f3,⟨zb,0,[c0,c1,c2,c3,c4,c5,.iface src.t src.v,dcv,.int .u32 ((d : Nat) : Int),c9]⟩,⟨zb,10,bs⟩,⟨hb,0,[.string h.comment,.slice xa xn xn,.int .u64 0,.int .i64 (timeV h.mod),.string h.name,.int .u8 ((h.os : Nat) : Int)]⟩,xf] ++ DL ∧ (readHead l = (.none,l2,h)) ∧ (src.At l2 f1 f2 f3) ∧ (bs.length = 512) ∧ (d < 4294967296) ∧ (ExAt h.extra xa xn xf)) ?_ ?_
 ·
  refine C.sr ?_
  refine E.pure (S.move rfl) rfl ?_
  refine E.pure (S.and (b := ((2 : Nat) : Int)) rfl rfl (N.and_u8 (by omega) (by omega))) rfl ?_
  refine E.pure (S.ne (b := ((0 : Nat) : Int)) rfl rfl) rfl ?_
  refine E.kp [(0,_),(2,_),(3,_),(4,_),(174,_)] rfl ?_
  refine C.ifp rfl (fun h174 => ?_) (fun h174 => ?_)
  ·
   refine C.seq ?_
   refine C.seq ?_
   refine C.same (Same.splitAt (k := 2) 4 rfl rfl (List.take_append_drop 2 _).symm (by rw [List.length_take]; omega) rfl) ?_
   refine C.relist (L2 := [_,_,_,_,_,_,_,_] ++ DL) rfl ?_
   refine C.draw [0,1,2,4,0,16,32,64,136,256,512,512,4095] (.pure 0 240 (.pure 1 241 (.pure 2 243 (.pure 4 15 (.pure 5 31 (.pure 6 63 (.pure 7 127 (.seg [(3,247)] (.alt 8 (.pure 9 511 (.pure 10 3071 (.pure 11 2047 (.pure 12 4095 .done)))) .stop))))))))) mixed (by decide +kernel) ?_
   refine D.pure rfl (S.move rfl) rfl ?_
   refine D.pure rfl (S.nilPtr rfl) rfl ?_
   refine D.pure rfl (S.field rfl fa76_1) rfl ?_
   refine D.pure rfl (S.move rfl) rfl ?_
   refine D.pure rfl (S.nilPtr rfl) rfl ?_
   refine D.pure rfl (S.field rfl fa76_5) rfl ?_
   refine D.pure rfl (S.slArr (l := 0) (k := .i64) (h := 2) rfl rfl rfl (by omega) (by omega) Tryd.underlying74 Tryd.sizeOf5) rfl ?_
   refine D.reslot (v := .slice (some ⟨zb,10,none⟩) (2) (512)) (slice_to (by simp [part]) rfl rfl) ?_
   refine D.seg (by decide) ?_
   refine W.still rfl (S.load 5 (k := 6) rfl rfl rfl Tryd.isAgg71) rfl ?_
   refine W.nil ?_
   refine D.one ?_
   refine O.loud1 rfl (OpX.pick [2,2,2,0] (F := (_::_::_::_::_)) rfl (X.call rfl Tryd.call45 (readFull_spec hs src l2 f1 f2 f3 zb 10 2 512 (List.take 2 _) hG (by rw [List.length_take]; omega) (by omega) (by omega)))) rfl ?_; rintro _ _ ⟨_,⟨k1,k2,k3,hF,rfl,rfl⟩,rfl⟩; refine D.relist (L2 := (_::_::_::_::_::_::_::_::_)) rfl ?_
   refine D.pure rfl (S.move rfl) rfl ?_
   refine D.pure rfl (S.extract rfl rfl) rfl ?_
   refine D.pure rfl (S.extract rfl rfl) rfl ?_
   refine D.pure rfl (S.assign rfl) rfl ?_
   refine D.kp [(0,_),(2,_),(3,_),(4,_),(174,_)] rfl ?_
   refine C.same (Same.joinAt 3 3 rfl rfl (by rw [show 10 + 2 = 10 + (2 : Nat) from rfl]; congr 1; simp only [List.length_append,bytesV_length,List.length_take,List.length_drop,min_i]; omega)) ?_
   refine C.perml [1,1,1,1,0,0,0] (A := [_,_,_,_,_,_,_]) (F := DL) rfl ?_
   refine C.relist (L2 := [_,_,_,_,_,_,_] ++ DL) rfl ?_
   refine C.sr ?_
   refine E.pure (S.move rfl) rfl ?_
   refine E.still (S.neErNil rfl) rfl ?_
   refine E.kp [(0,_),(2,_),(3,_),(4,_),(174,_),(188,_)] rfl ?_
   first | refine C.ifp rfl (fun h188 => ?_) (fun h188 => ?_) | refine C.ifNone rfl (fun h188 => ?_) (fun h188 => ?_) | refine C.ifSome rfl (fun h188 => ?_) (fun h188 => ?_) | refine C.ifSe rfl (fun h188 => ?_) (fun h188 => ?_) | refine C.ifNotSe rfl (fun h188 => ?_) (fun h188 => ?_) | refine C.cond rfl (fun h188 => ?_) (fun h188 => ?_)
   ·
    refine C.seq ?_
    refine C.draw [0,0,2,5,15] (.pure 1 1 (.alt 0 (.alt 2 (.alt 3 (.pure 4 15 .done) .stop) .stop) (.alt 2 (.seg [(0,6)] (.alt 3 (.pure 4 15 .done) .stop)) .stop))) mixed (by decide +kernel) ?_
    refine D.pure rfl (S.move rfl) rfl ?_
    refine D.alt ?_ ⟨?_,trivial⟩
    ·
     refine O.still rfl (S.loadA 5 (k := 0) rfl rfl rfl rfl Tryd.isAgg69 Tryd.sizeOf69) rfl ?_
     refine D.one ?_
     refine O.loud1 rfl (OpX.pick [] (F := (_::_::_::_::_::_::_::_)) rfl (X.call rfl Tryd.call46 (gogzip_noEOF (L := []) hs _))) rfl ?_; rintro _ _ ⟨_,⟨rfl,rfl⟩,rfl⟩; refine D.relist (L2 := (_::_::_::_::_::_::_::_)) rfl ?_
     refine D.one ?_
     refine O.loud0 rfl (X.storeA 5 (k := 0) rfl rfl rfl rfl rfl rfl Tryd.sizeOf69 rfl) ?_; rintro _ _ ⟨rfl,rfl⟩; refine D.relist (L2 := (_::_::_::_::_::_::_::_)) rfl ?_
     refine D.pure rfl (S.assign rfl) rfl ?_
     refine D.kp [(0,_),(2,_),(3,_),(4,_),(174,_),(188,_)] rfl ?_
     refine C.ret ?_
     have hRR : readHead l = (noEof (fullErr l2 2),l2.drop 2,h) := by rw [hR,rd4,if_neg (by omega),if_pos h188]
     refine ⟨_,_,⟨_,_,5,rfl,rfl,rfl⟩,rfl,_,_,_,_,_,_,_,rfl,rfl,?_,?_,?_,?_,.inl ⟨?_,[_],rfl⟩⟩
     · rw [hRR]; done
     · rw [hRR]; exact hF
     · rw [buf_join (by omega)]; exact hbs
     · assumption
     · rw [hRR]; first | assumption | (exact noEof_ne (by assumption)) | simp
    refine O.loud1 rfl (OpX.pick [] (F := (_::_::_::_::_::_::_::_)) rfl (X.call rfl Tryd.call46 (gogzip_noEOF (L := []) hs _))) rfl ?_; rintro _ _ ⟨_,⟨rfl,rfl⟩,rfl⟩; refine D.relist (L2 := (_::_::_::_::_::_::_::_)) rfl ?_
    refine D.seg (by decide) ?_
    refine W.still rfl (S.loadA 5 (k := 0) rfl rfl rfl rfl Tryd.isAgg69 Tryd.sizeOf69) rfl ?_
    refine W.nil ?_
    refine D.one ?_
    refine O.loud0 rfl (X.storeA 5 (k := 0) rfl rfl rfl rfl rfl rfl Tryd.sizeOf69 rfl) ?_; rintro _ _ ⟨rfl,rfl⟩; refine D.relist (L2 := (_::_::_::_::_::_::_::_)) rfl ?_
    refine D.pure rfl (S.assign rfl) rfl ?_
    refine D.kp [(0,_),(2,_),(3,_),(4,_),(174,_),(188,_)] rfl ?_
    refine C.ret ?_
    have hRR : readHead l = (noEof (fullErr l2 2),l2.drop 2,h) := by rw [hR,rd4,if_neg (by omega),if_pos h188]
    refine ⟨_,_,⟨_,_,5,rfl,rfl,rfl⟩,rfl,_,_,_,_,_,_,_,rfl,rfl,?_,?_,?_,?_,.inl ⟨?_,[_],rfl⟩⟩
    · rw [hRR]; done
    · rw [hRR]; exact hF
    · rw [buf_join (by omega)]; exact hbs
    · assumption
    · rw [hRR]; first | assumption | (exact noEof_ne (by assumption)) | simp
   rw [h188]
   obtain ⟨w0,w1,r2,hl2⟩ := two h188
   have hw0 := w0.toNat_lt
   have hw1 := w1.toNat_lt
   have h16 := le16_lt hw0 hw1
   have e1 : l2.drop 2 = r2 := by rw [hl2]; rfl
   have e2 : le16of l2 = le16 w0.toNat w1.toNat := by rw [hl2]; rfl
   refine C.relist (L2 := [k1,k2,k3,⟨zb,0,[c0,c1,c2,c3,c4,c5,.iface src.t src.v,dcv,.int .u32 ((d : Nat) : Int),c9]⟩,⟨zb,10,u8 w0::u8 w1::bs.drop 2⟩,⟨hb,0,[.string h.comment,.slice xa xn xn,.int .u64 0,.int .i64 (timeV h.mod),.string h.name,.int .u8 ((h.os : Nat) : Int)]⟩,xf] ++ DL) (by rw [buf_full (full_len h188),hl2]; rfl) ?_
   rw [e1] at hF
   refine C.skip ?_
   refine C.sr ?_
   refine E.pure (S.move rfl) rfl ?_
   refine E.pure (S.nilPtr rfl) rfl ?_
   refine E.pure (S.field rfl fa76_5) rfl ?_
   refine E.pure (S.slArr (l := 0) (k := .i64) (h := 2) rfl rfl rfl (by omega) (by omega) Tryd.underlying74 Tryd.sizeOf5) rfl ?_
   refine E.reslot (v := .slice (some ⟨zb,10,none⟩) (2) (512)) (slice_to (by simp [part]) rfl rfl) ?_
   refine E.loud1 (X.call rfl Tryd.call57 (le16_spec zb 10 2 512 w0 w1 [] (by omega) (Reads.frag (i := 4) (k := 0) rfl rfl))) rfl ?_; rintro _ _ ⟨rfl,rfl⟩; refine E.relist (L2 := (_::_::_::_::_::_::_::_)) rfl ?_
   refine E.pure (S.assign rfl) rfl ?_
   refine E.kp [(0,_),(2,_),(3,_),(4,_),(8,_),(174,_),(188,_)] rfl ?_
   refine C.sr ?_
   refine E.pure (S.move rfl) rfl ?_
   refine E.pure (S.move rfl) rfl ?_
   refine E.pure (S.nilPtr rfl) rfl ?_
   refine E.pure (S.field rfl fa76_3) rfl ?_
   refine E.still (S.load 3 (k := 8) rfl rfl rfl Tryd.isAgg52) rfl ?_
   first | refine E.pure (S.conv rfl Tryd.underlying52 Tryd.underlying120 (N.in_u16 (by omega))) rfl ?_ | refine E.pure (S.conv rfl Tryd.underlying52 Tryd.underlying120 (N.mod_u16 _)) rfl ?_
   refine E.pure (S.ne rfl rfl) rfl ?_
   refine E.kp [(0,_),(2,_),(3,_),(4,_),(8,_),(174,_),(188,_),(203,_)] rfl ?_
   refine C.ifp rfl (fun h203 => ?_) (fun h203 => ?_)
   ·
    refine C.seq ?_
    refine C.draw [0,0,1,7] (.alt 0 (.alt 1 (.alt 2 (.pure 3 7 .done) .stop) (.alt 2 (.seg [(1,5),(3,7)] .done) .stop)) (.alt 1 (.seg [(0,2)] (.alt 2 (.pure 3 7 .done) .stop)) .stop)) mixed (by decide +kernel) ?_
    refine D.alt ?_ ⟨?_,trivial⟩
    ·
     refine O.still rfl (S.loadA 5 (k := 0) rfl rfl rfl rfl Tryd.isAgg69 Tryd.sizeOf69) rfl ?_
     refine D.alt ?_ ⟨?_,trivial⟩
     ·
      refine O.still rfl (S.loadBase rfl hs.g1 Tryd.isAgg59) rfl ?_
      refine D.one ?_
      refine O.loud0 rfl (X.storeA 5 (k := 0) rfl rfl rfl rfl rfl rfl Tryd.sizeOf69 rfl) ?_; rintro _ _ ⟨rfl,rfl⟩; refine D.relist (L2 := (_::_::_::_::_::_::_::_)) rfl ?_
      refine D.pure rfl (S.assign rfl) rfl ?_
      refine D.kp [(0,_),(2,_),(3,_),(4,_),(8,_),(174,_),(188,_),(203,_)] rfl ?_
      refine C.ret ?_
      have hRR : readHead l = (.header,r2,h) := by rw [hR,rd4,if_neg (by omega),if_neg (by simpa using h188),if_pos (by rw [e2]; omega),e1]
      refine ⟨_,_,⟨_,_,5,rfl,rfl,rfl⟩,rfl,_,_,_,_,_,_,_,rfl,rfl,?_,?_,?_,?_,.inl ⟨?_,[_],rfl⟩⟩
      · rw [hRR]; done
      · rw [hRR]; exact hF
      · simp only [List.length_cons,List.length_drop]; omega
      · assumption
      · rw [hRR]; first | assumption | (exact noEof_ne (by assumption)) | simp
     refine O.loud0 rfl (X.storeA 5 (k := 0) rfl rfl rfl rfl rfl rfl Tryd.sizeOf69 rfl) ?_; rintro _ _ ⟨rfl,rfl⟩; refine D.relist (L2 := (_::_::_::_::_::_::_::_)) rfl ?_
     refine D.seg (by decide) ?_
     refine W.still rfl (S.loadBase rfl hs.g1 Tryd.isAgg59) rfl ?_
     refine W.pure rfl (S.assign rfl) rfl ?_
     refine W.nil ?_
     refine D.kp [(0,_),(2,_),(3,_),(4,_),(8,_),(174,_),(188,_),(203,_)] rfl ?_
     refine C.ret ?_
     have hRR : readHead l = (.header,r2,h) := by rw [hR,rd4,if_neg (by omega),if_neg (by simpa using h188),if_pos (by rw [e2]; omega),e1]
     refine ⟨_,_,⟨_,_,5,rfl,rfl,rfl⟩,rfl,_,_,_,_,_,_,_,rfl,rfl,?_,?_,?_,?_,.inl ⟨?_,[_],rfl⟩⟩
     · rw [hRR]; done
     · rw [hRR]; exact hF
     · simp only [List.length_cons,List.length_drop]; omega
     · assumption
     · rw [hRR]; first | assumption | (exact noEof_ne (by assumption)) | simp
    refine O.still rfl (S.loadBase rfl hs.g1 Tryd.isAgg59) rfl ?_
    refine D.seg (by decide) ?_
    refine W.still rfl (S.loadA 5 (k := 0) rfl rfl rfl rfl Tryd.isAgg69 Tryd.sizeOf69) rfl ?_
    refine W.nil ?_
    refine D.one ?_
    refine O.loud0 rfl (X.storeA 5 (k := 0) rfl rfl rfl rfl rfl rfl Tryd.sizeOf69 rfl) ?_; rintro _ _ ⟨rfl,rfl⟩; refine D.relist (L2 := (_::_::_::_::_::_::_::_)) rfl ?_
    refine D.pure rfl (S.assign rfl) rfl ?_
    refine D.kp [(0,_),(2,_),(3,_),(4,_),(8,_),(174,_),(188,_),(203,_)] rfl ?_
    refine C.ret ?_
    have hRR : readHead l = (.header,r2,h) := by rw [hR,rd4,if_neg (by omega),if_neg (by simpa using h188),if_pos (by rw [e2]; omega),e1]
    refine ⟨_,_,⟨_,_,5,rfl,rfl,rfl⟩,rfl,_,_,_,_,_,_,_,rfl,rfl,?_,?_,?_,?_,.inl ⟨?_,[_],rfl⟩⟩
    · rw [hRR]; done
    · rw [hRR]; exact hF
    · simp only [List.length_cons,List.length_drop]; omega
    · assumption
    · rw [hRR]; first | assumption | (exact noEof_ne (by assumption)) | simp
   refine C.skip ?_
   exact ⟨r2,d,h,_,hb,xa,xn,xf,k1,k2,k3,rfl,rfl,by rw [hR,rd4,if_neg (by omega),if_neg (by simpa using h188),if_neg (by rw [e2]; omega),e1],hF,by simp only [List.length_cons,List.length_drop]; omega,hd,hX⟩
  refine C.skip ?_
  first | exact ⟨r2,d,h,_,hb,xa,xn,xf,k1,k2,k3,rfl,rfl,by rw [hR,rd4,if_neg (by omega),if_neg (by simpa using h188),if_neg (by rw [e2]; omega),e1],hF,by simp only [List.length_cons,List.length_drop]; omega,hd,hX⟩ | exact ⟨l2,d,h,bs,hb,xa,xn,xf,f1,f2,f3,rfl,rfl,by rw [hR,rd4,if_pos (by omega)],hG,hbs,hd,hX⟩
 rintro _ _ ⟨l2,d,h,bs,hb,xa,xn,xf,f1,f2,f3,hq41,rfl,hR,hG,hbs,hd,hX⟩
 refine C.weaken _ hq41 ?_
 refine C.sr ?_
 refine E.pure (S.move rfl) rfl ?_
 refine E.pure (S.nilPtr rfl) rfl ?_
 refine E.pure (S.field rfl fa76_3) rfl ?_
 refine E.loud0 (X.store 3 (k := 8) rfl rfl rfl rfl rfl Tryd.sizeOf52) ?_; rintro _ _ ⟨rfl,rfl⟩; refine E.relist (L2 := (_::_::_::_::_::_::_::_)) rfl ?_
 refine E.kp [(0,_),(2,_),(3,_),(4,_)] rfl ?_
 refine C.seq ?_
 refine C.sr ?_
 refine E.pure (S.move rfl) rfl ?_
 refine E.pure (S.nilPtr rfl) rfl ?_
 refine E.pure (S.field rfl fa76_2) rfl ?_
 refine E.still (S.load 3 (k := 7) rfl rfl rfl Tryd.isAgg73) rfl ?_
 refine E.still (S.eqDc hDL rfl Tryd.underlying73) rfl ?_
 refine E.kp [(0,_),(2,_),(3,_),(4,_),(213,_)] rfl ?_
 first | refine C.ifp rfl (fun h213 => ?_) (fun h213 => ?_) | refine C.ifNone rfl (fun h213 => ?_) (fun h213 => ?_) | refine C.ifSome rfl (fun h213 => ?_) (fun h213 => ?_) | refine C.ifSe rfl (fun h213 => ?_) (fun h213 => ?_) | refine C.ifNotSe rfl (fun h213 => ?_) (fun h213 => ?_) | refine C.cond rfl (fun h213 => ?_) (fun h213 => ?_)
 ·
  obtain ⟨rfl,rfl⟩ := hDL.nil h213
  refine C.region ?_
  refine E.pure (S.move rfl) rfl ?_
  refine E.pure (S.move rfl) rfl ?_
  refine E.pure (S.nilPtr rfl) rfl ?_
  refine E.pure (S.field rfl fa76_1) rfl ?_
  refine E.still (S.load 3 (k := 6) rfl rfl rfl Tryd.isAgg71) rfl ?_
  refine E.loud1 (X.call rfl Tryd.call59 (flateNew_in src _)) rfl ?_; rintro _ _ ⟨fb,DN,rfl,hDN,rfl⟩; refine E.relist (L2 := (_::_::_::_::_::_::_::_)) rfl ?_
  refine E.pure (S.nilPtr rfl) rfl ?_
  refine E.pure (S.field rfl fa76_2) rfl ?_
  refine E.loud0 (X.store 3 (k := 7) rfl rfl rfl rfl rfl Tryd.sizeOf73) ?_; rintro _ _ ⟨rfl,rfl⟩; refine E.relist (L2 := (_::_::_::_::_::_::_::_)) rfl ?_
  refine E.kp [(0,_),(2,_),(3,_),(4,_),(213,_)] rfl ?_
  refine C.sr ?_
  refine E.still (S.loadA 5 (k := 0) rfl rfl rfl rfl Tryd.isAgg69 Tryd.sizeOf69) rfl ?_
  refine E.loud0 (X.storeA 5 (k := 0) rfl rfl rfl rfl rfl rfl Tryd.sizeOf69 rfl) ?_; rintro _ _ ⟨rfl,rfl⟩; refine E.relist (L2 := (_::_::_::_::_::_::_::_)) rfl ?_
  refine E.pure (S.assign (v := Er.val ea .none) rfl) rfl ?_
  refine E.kp [(0,_),(2,_),(3,_),(4,_),(213,_)] rfl ?_
  refine C.ret ?_
  refine ⟨_,_,⟨_,_,5,rfl,rfl,rfl⟩,rfl,_,f1,f2,f3,_,_,_,rfl,rfl,?_,?_,hbs,?_,.inr ⟨?_,xa,xn,xf,fb,DN,?_,?_,?_,hDN,rfl⟩⟩
  · rw [hR]; done
  · rw [hR]; exact hG
  · decide
  · rw [hR]
  · rw [hR]; exact hX
  · first | (rw [hR]; done) | (rw [hR]; rfl)
  · rfl
 obtain ⟨fb,rfl,hraw⟩ := hDL.dec (by simpa using h213)
 refine C.draw [0,1,2,4,8,0,32,64,128,16,528,1280] (.pure 0 480 (.pure 1 481 (.pure 2 483 (.pure 5 1567 (.pure 6 1599 (.pure 7 1663 (.seg [(3,487),(4,495),(8,1791),(9,511),(10,1023)] (.alt 11 .done .stop)))))))) mixed (by decide +kernel) ?_
 refine D.pure rfl (S.move rfl) rfl ?_
 refine D.pure rfl (S.nilPtr rfl) rfl ?_
 refine D.pure rfl (S.field rfl fa76_2) rfl ?_
 refine D.pure rfl (S.move rfl) rfl ?_
 refine D.pure rfl (S.nilPtr rfl) rfl ?_
 refine D.pure rfl (S.field rfl fa76_1) rfl ?_
 refine D.seg (by decide) ?_
 refine W.still rfl (S.load 3 (k := 7) rfl rfl rfl Tryd.isAgg73) rfl ?_
 refine W.pure rfl (S.assertHas1 rfl Tryd.underlying126 (dmBoth _ Tryd.underlying126)) rfl ?_
 refine W.still rfl (S.load 3 (k := 6) rfl rfl rfl Tryd.isAgg71) rfl ?_
 first | refine W.pure rfl (S.nilPtr rfl) rfl ?_ | refine W.pure rfl (S.nilIface rfl) rfl ?_ | refine W.pure rfl (S.nilFunc rfl) rfl ?_
 refine W.pure rfl (S.move rfl) rfl ?_
 refine W.nil ?_
 refine D.one ?_
 refine O.loud1 rfl (X.invoke rfl rfl (dmReset fb) Tryd.call120 (decReset_in src hraw [_,_,_,_,_,_,_])) rfl ?_; rintro _ _ ⟨rfl,DN,hDN,rfl⟩; refine D.relist (L2 := (_::_::_::_::_::_::_::_)) rfl ?_
 refine D.kp [(0,_),(2,_),(3,_),(4,_),(213,_)] rfl ?_
 refine C.sr ?_
 refine E.still (S.loadA 5 (k := 0) rfl rfl rfl rfl Tryd.isAgg69 Tryd.sizeOf69) rfl ?_
 refine E.loud0 (X.storeA 5 (k := 0) rfl rfl rfl rfl rfl rfl Tryd.sizeOf69 rfl) ?_; rintro _ _ ⟨rfl,rfl⟩; refine E.relist (L2 := (_::_::_::_::_::_::_::_)) rfl ?_
 refine E.pure (S.assign (v := Er.val ea .none) rfl) rfl ?_
 refine E.kp [(0,_),(2,_),(3,_),(4,_),(213,_)] rfl ?_
 refine C.ret ?_
 refine ⟨_,_,⟨_,_,5,rfl,rfl,rfl⟩,rfl,_,f1,f2,f3,_,_,_,rfl,rfl,?_,?_,hbs,?_,.inr ⟨?_,xa,xn,xf,fb,DN,?_,?_,?_,hDN,rfl⟩⟩
 · rw [hR]; done
 · rw [hR]; exact hG
 · decide
 · rw [hR]
 · rw [hR]; exact hX
 · first | (rw [hR]; done) | (rw [hR]; rfl)
 · rfl

/-- The same without what is of no more use. -/
def HeadRes {K : Known} {ea : Fin 5 → Addr} (src : Src K ea) (l : List UInt8) (zb : Nat) (c0 c1 c2 c3 c4 c5 c9 dcv : Value) (DL : Frags) (r : Value) (L : Frags) : Prop :=
  ∃ hs f1 f2 f3 d2 bs2,hs.length = 6 ∧ hs.all one = true ∧ r = .tuple #[.agg hs.toArray,Er.val ea (readHead l).1] ∧ src.At (readHead l).2.1 f1 f2 f3 ∧ bs2.length = 512 ∧ d2 < 4294967296 ∧
    (((readHead l).1 ≠ .none ∧ L = [f1,f2,f3,⟨zb,0,[c0,c1,c2,c3,c4,c5,.iface src.t src.v,dcv,.int .u32 ((d2 : Nat) : Int),c9]⟩,⟨zb,10,bs2⟩] ++ DL) ∨
     ((readHead l).1 = .none ∧ ∃ xa xn X fb DN,ExAt (readHead l).2.2.extra xa xn X ∧ hs = headV (readHead l).2.2 xa xn ∧ d2 = 0 ∧ DecNew src fb DN ∧
        L = [f1,f2,f3,⟨zb,0,[c0,c1,c2,c3,c4,c5,.iface src.t src.v,.iface 157 (.pointer (some ⟨fb,0,none⟩)),.int .u32 ((d2 : Nat) : Int),c9]⟩,⟨zb,10,bs2⟩,X] ++ DN))

theorem readHeader_spec {K : Known} {ea : Fin 5 → Addr} (hs : Sents K ea) (src : Src K ea) (l : List UInt8) (x1 x2 x3 : Frag) (zb d0 : Nat) (c0 c1 c2 c3 c4 c5 c9 dcv : Value) (bs0 : List Value) (DL : Frags) (hDL : DcIn dcv DL) (hA : src.At l x1 x2 x3) (hbs0 : bs0.length = 512) (hd0 : d0 < 4294967296) :
    Fn Tryd.prog K 48 #[.pointer (some ⟨zb,0,none⟩)] ([x1,x2,x3,⟨zb,0,[c0,c1,c2,c3,c4,c5,.iface src.t src.v,dcv,.int .u32 ((d0 : Nat) : Int),c9]⟩,⟨zb,10,bs0⟩] ++ DL) (HeadRes src l zb c0 c1 c2 c3 c4 c5 c9 dcv DL) := by
  refine Fn.lose (readHeader_first hs src l x1 x2 x3 zb d0 c0 c1 c2 c3 c4 c5 c9 dcv bs0 DL hDL hA hbs0 hd0) ?_
  rintro v L' ⟨hs',f1,f2,f3,d2,bs2,hb,h6,h7,rfl,hF,hb2,hd2,⟨hne,T,rfl⟩ | ⟨hno,xa,xn,X,fb,DN,hX,hv,hdz,hDN,rfl⟩⟩
  · refine ⟨[f1,f2,f3,⟨zb,0,[c0,c1,c2,c3,c4,c5,.iface src.t src.v,dcv,.int .u32 ((d2 : Nat) : Int),c9]⟩,⟨zb,10,bs2⟩] ++ DL,⟨hb,0,hs'⟩::T,Same.perm ?_,hs',f1,f2,f3,d2,bs2,h6,h7,rfl,hF,hb2,hd2,.inl ⟨hne,rfl⟩⟩
    show ([f1,f2,f3,⟨zb,0,[c0,c1,c2,c3,c4,c5,.iface src.t src.v,dcv,.int .u32 ((d2 : Nat) : Int),c9]⟩,⟨zb,10,bs2⟩] ++ ((⟨hb,0,hs'⟩::T) ++ DL)).Perm _
    rw [List.append_assoc]
    exact List.perm_append_comm.append_left _
  · refine ⟨[f1,f2,f3,⟨zb,0,[c0,c1,c2,c3,c4,c5,.iface src.t src.v,.iface 157 (.pointer (some ⟨fb,0,none⟩)),.int .u32 ((d2 : Nat) : Int),c9]⟩,⟨zb,10,bs2⟩,X] ++ DN,[⟨hb,0,hs'⟩],Same.perm ?_,hs',f1,f2,f3,d2,bs2,h6,h7,rfl,hF,hb2,hd2,.inr ⟨hno,xa,xn,X,fb,DN,hX,hv,hdz,hDN,rfl⟩⟩
    refine List.Perm.trans (List.perm_middle (l₁ := [f1,f2,f3,⟨zb,0,[c0,c1,c2,c3,c4,c5,.iface src.t src.v,.iface 157 (.pointer (some ⟨fb,0,none⟩)),.int .u32 ((d2 : Nat) : Int),c9]⟩,⟨zb,10,bs2⟩]) (l₂ := X::DN)) ?_
    exact (List.perm_append_comm (l₁ := [_]))

end Go.Eng
namespace Go.Eng
open Go Go.Proofs
set_option maxRecDepth 100000

def zip10 (rd dec : Value) : List Value := [.string ⟨#[]⟩,.slice none 0 0,.int .u64 0,.int .i64 0,.string ⟨#[]⟩,.int .u8 0,rd,dec,.int .u32 0,.int .u32 0]
def buf0 : List Value := List.replicate 512 (.int .u8 0)
def zipEnd (e : Value) (ms : Bool) : List Value := [e,.bool ms]

theorem buf0_length : buf0.length = 512 := List.length_replicate

theorem zipZero : (Value.agg Tryd.zeroCells76).cells = (zip10 .nilIface .nilIface ++ (buf0 ++ zipEnd .nilIface false)).toArray := by kernel_rfl
theorem zipSize : (Value.agg Tryd.zeroCells76).cells.size = 524 := by kernel_rfl
theorem zipSet (dec : Value) : ((Value.agg Tryd.zeroCells76).cells.setIfInBounds 7 dec).setIfInBounds 523 (.bool true) = (zip10 .nilIface dec ++ (buf0 ++ zipEnd .nilIface true)).toArray := by
  rw [zipZero]
  apply Array.ext'
  simp only [Array.toList_setIfInBounds]
  have h1 : (zip10 .nilIface .nilIface).set 7 dec = zip10 .nilIface dec := rfl
  have h2 : (zip10 .nilIface dec).length = 10 := rfl
  have h3 : (zip10 .nilIface .nilIface).length = 10 := rfl
  rw [List.set_append_left _ _ (by rw [h3]; decide),h1,List.set_append_right _ _ (by rw [h2]; decide),List.set_append_right _ _ (by rw [h2,buf0_length]; decide),h2,buf0_length]
  rfl
theorem zipBuild (dec : Value) (h : one dec = true) (w : World) : (Instr.build 76 [(2,dec),(7,.bool true)].toArray).run Tryd.prog w = .ok (.agg (zip10 .nilIface dec ++ (buf0 ++ zipEnd .nilIface true)).toArray) w := by
  simp [Instr.build,Tryd.zeroValue76]
  rw [fill_one (off := 7) rfl h (by rw [zipSize]; decide),fill_one (off := 523) rfl rfl (by rw [Array.size_setIfInBounds,zipSize]; decide),fill_nil]
  simp [zipSet]

theorem zipSame (b : Nat) (F : Frags) (p0 p1 p2 : List Value) (h0 : p0.length = 10) (h1 : p1.length = 512) : Same (⟨b,0,p0 ++ (p1 ++ p2)⟩::F) ([⟨b,0,p0⟩,⟨b,10,p1⟩,⟨b,522,p2⟩] ++ F) := by
  have := Same.chunks b F [(0,p0),(10,p1),(522,p2)] 0 (by simp [chunksOk,h0,h1])
  simpa using this

theorem zip_one (dec : Value) (h : one dec = true) : (zip10 .nilIface dec ++ (buf0 ++ zipEnd .nilIface true)).all one = true := by
  rw [List.all_append,List.all_append]
  have h1 : (zip10 .nilIface dec).all one = true := by simp only [zip10,List.all_cons,List.all_nil,h]; rfl
  have h2 : buf0.all one = true := by rw [List.all_eq_true]; intro v hv; rw [List.eq_of_mem_replicate hv]; rfl
  rw [h1,h2]; rfl

theorem zip_len (dec : Value) : (zip10 .nilIface dec ++ (buf0 ++ zipEnd .nilIface true)).length = 524 := by
  rw [List.length_append,List.length_append,buf0_length]; rfl

theorem six {hs : List Value} (h : hs.length = 6) : ∃ a0 a1 a2 a3 a4 a5,hs = [a0,a1,a2,a3,a4,a5] := by
  match hs,h with
  | [a0,a1,a2,a3,a4,a5],_ => exact ⟨_,_,_,_,_,_,rfl⟩
theorem Reads.mem {K : Known} {L : Frags} {b o k : Nat} {cs vs : List Value} (hL : ⟨b,o,cs⟩ ∈ L) (h : (cs.drop k).take vs.length = vs) : Reads K L b (o + k) vs := by
  obtain ⟨i,hi⟩ := List.mem_iff_getElem?.1 hL
  exact Reads.frag hi h

end Go.Eng
namespace Go.Eng
open Go Go.Proofs
set_option maxRecDepth 100000

/-- A gzip.Reader whose memory may be used anew. -/
def ZOld (zb : Nat) (L : Frags) : Prop := ∃ c0 c1 c2 c3 c4 c5 rv dcv dg sz bs ev ms DL,bs.length = 512 ∧ DcIn dcv DL ∧ L = [⟨zb,0,[c0,c1,c2,c3,c4,c5,rv,dcv,dg,sz]⟩,⟨zb,10,bs⟩,⟨zb,522,[ev,ms]⟩] ++ DL
/-- A gzip.Reader that has read a header; behind it stands rest. -/
def ZAt {K : Known} {ea : Fin 5 → Addr} (src : Src K ea) (zb : Nat) (h : Hd) (ms : Bool) (rest : List UInt8) (L : Frags) : Prop :=
  ∃ f1 f2 f3 bs xa xn X fb DN,src.At rest f1 f2 f3 ∧ bs.length = 512 ∧ ExAt h.extra xa xn X ∧ DecNew src fb DN ∧
    L = [f1,f2,f3,⟨zb,0,[.string h.comment,.slice xa xn xn,.int .u64 0,.int .i64 (timeV h.mod),.string h.name,.int .u8 ((h.os : Nat) : Int),.iface src.t src.v,.iface 157 (.pointer (some ⟨fb,0,none⟩)),.int .u32 ((0 : Nat) : Int),.int .u32 0]⟩,⟨zb,10,bs⟩,⟨zb,522,[Er.val ea .none,.bool ms]⟩,X] ++ DN
/-- How Reset ends. -/
def ResetEnd {K : Known} {ea : Fin 5 → Addr} (src : Src K ea) (zb : Nat) (l : List UInt8) (L : Frags) : Prop :=
  ((readHead l).1 ≠ .none ∧ ∃ f1 f2 f3 T,src.At (readHead l).2.1 f1 f2 f3 ∧ L = [f1,f2,f3] ++ T) ∨ ((readHead l).1 = .none ∧ ZAt src zb (readHead l).2.2 true (readHead l).2.1 L)
theorem DcIn.one {dcv : Value} {DL : Frags} (h : DcIn dcv DL) : one dcv = true := by
  rcases h with ⟨rfl,_⟩ | ⟨fb,rfl,_⟩
  · rfl
  · rfl
theorem readHeader_in {K : Known} {ea : Fin 5 → Addr} (hs : Sents K ea) (src : Src K ea) (l : List UInt8) (x1 x2 x3 : Frag) (zb d0 : Nat) (c0 c1 c2 c3 c4 c5 c9 dcv : Value) (bs0 : List Value) (DL : Frags) (hDL : DcIn dcv DL) (hA : src.At l x1 x2 x3) (hbs0 : bs0.length = 512) (hd0 : d0 < 4294967296) (EF : Frags) :
    Fn Tryd.prog K 48 #[.pointer (some ⟨zb,0,none⟩)] ([x1,x2,x3,⟨zb,0,[c0,c1,c2,c3,c4,c5,.iface src.t src.v,dcv,.int .u32 ((d0 : Nat) : Int),c9]⟩,⟨zb,10,bs0⟩] ++ (EF ++ DL)) fun r L =>
      ∃ hs f1 f2 f3 d2 bs2,hs.length = 6 ∧ hs.all one = true ∧ r = .tuple #[.agg hs.toArray,Er.val ea (readHead l).1] ∧ src.At (readHead l).2.1 f1 f2 f3 ∧ bs2.length = 512 ∧ d2 < 4294967296 ∧
    (((readHead l).1 ≠ .none ∧ L = [f1,f2,f3,⟨zb,0,[c0,c1,c2,c3,c4,c5,.iface src.t src.v,dcv,.int .u32 ((d2 : Nat) : Int),c9]⟩,⟨zb,10,bs2⟩] ++ (EF ++ DL)) ∨
     ((readHead l).1 = .none ∧ ∃ xa xn X fb DN,ExAt (readHead l).2.2.extra xa xn X ∧ hs = headV (readHead l).2.2 xa xn ∧ d2 = 0 ∧ DecNew src fb DN ∧
        L = [f1,f2,f3,⟨zb,0,[c0,c1,c2,c3,c4,c5,.iface src.t src.v,.iface 157 (.pointer (some ⟨fb,0,none⟩)),.int .u32 ((d2 : Nat) : Int),c9]⟩,⟨zb,10,bs2⟩] ++ (EF ++ (X::DN)))) := by
  have pm : ∀ (a1 a2 a3 a4 a5 : Frag) (DL : Frags),([a1,a2,a3,a4,a5] ++ (EF ++ DL)).Perm (([a1,a2,a3,a4,a5] ++ DL) ++ EF) := fun a1 a2 a3 a4 a5 DL => by
    rw [List.append_assoc]; exact List.perm_append_comm.append_left _
  refine Fn.sameR (Fn.perm (pm _ _ _ _ _ DL) (Fn.frame (F := EF) (readHeader_spec hs src l x1 x2 x3 zb d0 c0 c1 c2 c3 c4 c5 c9 dcv bs0 DL hDL hA hbs0 hd0))) ?_
  rintro v L ⟨L1,⟨hs',f1,f2,f3,d2,bs2,h6,h7,rfl,hF,hb2,hd2,⟨hne,rfl⟩ | ⟨hno,xa,xn,X,fb,DN,hX,hv,hdz,hDN,rfl⟩⟩,rfl⟩
  · exact ⟨_,Same.perm (pm _ _ _ _ _ DL).symm,hs',f1,f2,f3,d2,bs2,h6,h7,rfl,hF,hb2,hd2,.inl ⟨hne,rfl⟩⟩
  · exact ⟨_,Same.perm (pm _ _ _ _ _ (X::DN)).symm,hs',f1,f2,f3,d2,bs2,h6,h7,rfl,hF,hb2,hd2,.inr ⟨hno,xa,xn,X,fb,DN,hX,hv,hdz,hDN,rfl⟩⟩
theorem zipStore2 (zb : Nat) (v : List Value) (F : Frags) (cs : List Value) (h : cs.length = 524) (dcv : Value) :
    ((⟨zb,0,cs⟩ : Frag)::F).set 0 ⟨zb,0,cs.take 0 ++ (zip10 .nilIface dcv ++ (buf0 ++ zipEnd .nilIface true)) ++ cs.drop (0 + 524)⟩ = ⟨zb,0,zip10 .nilIface dcv ++ (buf0 ++ zipEnd .nilIface true)⟩::F := by
  rw [List.take_zero,List.nil_append,List.drop_eq_nil_of_le (by rw [h]; decide),List.append_nil]
  rfl

theorem reset_walk {K : Known} {ea : Fin 5 → Addr} (hs : Sents K ea) (src : Src K ea) (l : List UInt8) (x1 x2 x3 : Frag) (zb : Nat) (hA : src.At l x1 x2 x3) (c0 c1 c2 c3 c4 c5 rv dcv dg sz ev ms : Value) (bs : List Value) (DL : Frags) (hbs : bs.length = 512) (hDL : DcIn dcv DL) : Fn Tryd.prog K 38 #[.pointer (some ⟨zb,0,none⟩),.iface src.t src.v] ([x1,x2,x3,⟨zb,0,[c0,c1,c2,c3,c4,c5,rv,dcv,dg,sz]⟩,⟨zb,10,bs⟩,⟨zb,522,[ev,ms]⟩] ++ DL) (fun r L => r = Er.val ea (readHead l).1 ∧ ResetEnd src zb l L) := by
 refine Fn.intro (args := [.pointer (some ⟨zb,0,none⟩),.iface src.t src.v]) (RR := Ret1 4 _) Tryd.func38 rfl rfl Tryd.ntmps38 (res1 Tryd.results38) ?_
 refine C.reenv (env2 := [(0,.pointer (some ⟨zb,0,none⟩)),(1,.iface src.t src.v)]) rfl ?_
 refine C.sr ?_
 refine E.pure (S.assign (v := Er.val ea .none) rfl) rfl ?_
 refine E.kp [(0,_),(1,_),(4,_)] rfl ?_
 refine C.sr ?_
 refine E.pure (S.move rfl) rfl ?_
 refine E.pure (S.move rfl) rfl ?_
 refine E.pure (S.nilPtr rfl) rfl ?_
 refine E.pure (S.field rfl fa76_2) rfl ?_
 refine E.still (S.load 3 (k := 7) rfl rfl rfl Tryd.isAgg73) rfl ?_
 refine E.pure (S.buildV [(2,dcv),(7,.bool true)] rfl (zipBuild dcv hDL.one)) rfl ?_
 refine E.pure (S.nilPtr rfl) rfl ?_
 refine E.perml [3,3,3,0,0,0] (A := [_,_,_,_,_,_]) (F := DL) rfl ?_
 refine E.same (zipSame zb ([x1,x2,x3] ++ DL) [c0,c1,c2,c3,c4,c5,rv,dcv,dg,sz] bs [ev,ms] rfl hbs).symm ?_
 refine E.relist (L2 := ⟨zb,0,_⟩::x1::x2::x3::DL) rfl ?_
 refine E.loud0 (X.storeA 0 (k := 0) rfl rfl rfl (zip_one dcv hDL.one) (zip_len dcv) (by rw [Nat.ble_eq]; simp [hbs]) Tryd.sizeOf76 rfl) ?_
 rintro _ _ ⟨rfl,rfl⟩
 refine E.relist (L2 := ⟨zb,0,zip10 .nilIface dcv ++ (buf0 ++ zipEnd .nilIface true)⟩::x1::x2::x3::DL) (zipStore2 zb [] _ _ (by simp [hbs]) dcv) ?_
 refine E.kp [(0,_),(1,_),(4,_)] rfl ?_
 refine C.same (zipSame zb ([x1,x2,x3] ++ DL) (zip10 .nilIface dcv) buf0 (zipEnd .nilIface true) rfl buf0_length) ?_
 refine C.perml [3,3,3,0,0,0] (A := [_,_,_,_,_,_]) (F := DL) rfl ?_
 refine C.relist (L2 := [x1,x2,x3,⟨zb,0,[.string ⟨#[]⟩,.slice none 0 0,.int .u64 0,.int .i64 0,.string ⟨#[]⟩,.int .u8 0,.nilIface,dcv,.int .u32 0,.int .u32 0]⟩,⟨zb,10,buf0⟩,⟨zb,522,[.nilIface,.bool true]⟩] ++ DL) rfl ?_
 refine C.seq ?_
 refine C.sr ?_
 refine E.pure (S.move rfl) rfl ?_
 refine E.pure (S.assertHas rfl Tryd.underlying71 (src.both _ Tryd.underlying71)) rfl ?_
 refine E.pure (S.move rfl) rfl ?_
 refine E.pure (S.extract rfl rfl) rfl ?_
 refine E.pure (S.extract rfl rfl) rfl ?_
 refine E.pure (S.assign rfl) rfl ?_
 refine E.pure (S.assign rfl) rfl ?_
 refine E.kp [(0,_),(1,_),(4,_),(5,_),(6,_)] rfl ?_
 refine C.sr ?_
 refine E.pure (S.move rfl) rfl ?_
 refine E.kp [(0,_),(1,_),(4,_),(5,_),(6,_),(19,_)] rfl ?_
 refine C.yes rfl (rfl) ?_
 refine C.region ?_
 refine E.pure (S.move rfl) rfl ?_
 refine E.pure (S.move rfl) rfl ?_
 refine E.pure (S.nilPtr rfl) rfl ?_
 refine E.pure (S.field rfl fa76_1) rfl ?_
 refine E.loud0 (X.store 3 (k := 6) rfl rfl rfl rfl rfl Tryd.sizeOf71) ?_; rintro _ _ ⟨rfl,rfl⟩; refine E.relist (L2 := (_::_::_::_::_::_::_)) rfl ?_
 refine E.kp [(0,_),(1,_),(4,_),(5,_),(6,_),(19,_)] rfl ?_
 refine C.sr ?_
 refine E.pure (S.move rfl) rfl ?_
 refine E.pure (S.move rfl) rfl ?_
 refine E.pure (S.move rfl) rfl ?_
 refine E.loud1 (X.call rfl Tryd.call48 (readHeader_in hs src l x1 x2 x3 zb 0 _ _ _ _ _ _ (.int .u32 0) dcv buf0 DL hDL hA buf0_length (by decide) [_])) rfl ?_
 rintro _ _ ⟨hs6,f1,f2,f3,d2,bs2,h6,h7,rfl,hF,hb2,hd2,⟨hne,rfl⟩ | ⟨hno,xa,xn,xf,fb,DN,hX,rfl,rfl,hDN,rfl⟩⟩
 ·
  refine E.relist (L2 := (_::_::_::_::_::_::_)) rfl ?_
  obtain ⟨a0,a1,a2,a3,a4,a5,rfl⟩ := six h6
  refine E.pure (S.move rfl) rfl ?_
  refine E.pure (S.extract rfl rfl) rfl ?_
  refine E.pure (S.extract rfl rfl) rfl ?_
  refine E.pure (S.nilPtr rfl) rfl ?_
  refine E.pure (S.field rfl fa76_0) rfl ?_
  refine E.loud0 (X.storeA 3 (k := 0) rfl rfl rfl h7 rfl rfl Tryd.sizeOf69 rfl) ?_; rintro _ _ ⟨rfl,rfl⟩; refine E.relist (L2 := (_::_::_::_::_::_::_)) rfl ?_
  refine E.pure (S.nilPtr rfl) rfl ?_
  refine E.pure (S.field rfl fa76_6) rfl ?_
  refine E.loud0 (X.store 5 (k := 0) rfl rfl rfl (one_er _) rfl Tryd.sizeOf59) ?_; rintro _ _ ⟨rfl,rfl⟩; refine E.relist (L2 := (_::_::_::_::_::_::_)) rfl ?_
  refine E.kp [(0,_),(1,_),(4,_),(5,_),(6,_),(19,_)] rfl ?_
  refine C.sr ?_
  refine E.pure (S.move rfl) rfl ?_
  refine E.pure (S.nilPtr rfl) rfl ?_
  refine E.pure (S.field rfl fa76_6) rfl ?_
  refine E.still (S.load 5 (k := 0) rfl rfl rfl Tryd.isAgg59) rfl ?_
  refine E.pure (S.assign rfl) rfl ?_
  refine E.kp [(0,_),(1,_),(4,_),(5,_),(6,_),(19,_)] rfl ?_
  refine C.ret ?_
  refine ⟨_,rfl,rfl,.inl ⟨hne,f1,f2,f3,_,hF,rfl⟩⟩
 refine E.relist (L2 := (_::_::_::_::_::_::_::_)) rfl ?_
 refine E.pure (S.move rfl) rfl ?_
 refine E.pure (S.extract rfl rfl) rfl ?_
 refine E.pure (S.extract rfl rfl) rfl ?_
 refine E.pure (S.nilPtr rfl) rfl ?_
 refine E.pure (S.field rfl fa76_0) rfl ?_
 refine E.loud0 (X.storeA 3 (k := 0) rfl rfl rfl rfl rfl rfl Tryd.sizeOf69 rfl) ?_; rintro _ _ ⟨rfl,rfl⟩; refine E.relist (L2 := (_::_::_::_::_::_::_::_)) rfl ?_
 refine E.pure (S.nilPtr rfl) rfl ?_
 refine E.pure (S.field rfl fa76_6) rfl ?_
 refine E.loud0 (X.store 5 (k := 0) rfl rfl rfl (one_er _) rfl Tryd.sizeOf59) ?_; rintro _ _ ⟨rfl,rfl⟩; refine E.relist (L2 := (_::_::_::_::_::_::_::_)) rfl ?_
 refine E.kp [(0,_),(1,_),(4,_),(5,_),(6,_),(19,_)] rfl ?_
 refine C.sr ?_
 refine E.pure (S.move rfl) rfl ?_
 refine E.pure (S.nilPtr rfl) rfl ?_
 refine E.pure (S.field rfl fa76_6) rfl ?_
 refine E.still (S.load 5 (k := 0) rfl rfl rfl Tryd.isAgg59) rfl ?_
 refine E.pure (S.assign rfl) rfl ?_
 refine E.kp [(0,_),(1,_),(4,_),(5,_),(6,_),(19,_)] rfl ?_
 refine C.ret ?_
 refine ⟨_,rfl,rfl,.inr ⟨hno,f1,f2,f3,bs2,xa,xn,xf,fb,DN,hF,hb2,hX,hDN,?_⟩⟩
 rw [← hno]
 rfl
theorem newReader_walk {K : Known} {ea : Fin 5 → Addr} (hs : Sents K ea) (src : Src K ea) (l : List UInt8) (x1 x2 x3 : Frag) (hA : src.At l x1 x2 x3) : Fn Tryd.prog K 25 #[.iface src.t src.v] ([x1,x2,x3]) (fun r L => ((readHead l).1 ≠ .none ∧ r = .tuple #[.pointer none,Er.val ea (readHead l).1] ∧ ∃ f1 f2 f3 T,src.At (readHead l).2.1 f1 f2 f3 ∧ L = [f1,f2,f3] ++ T) ∨ ((readHead l).1 = .none ∧ ∃ zb,r = .tuple #[.pointer (some ⟨zb,0,none⟩),Er.val ea .none] ∧ ZAt src zb (readHead l).2.2 true (readHead l).2.1 L)) := by
 refine Fn.intro (args := [.iface src.t src.v]) (RR := Ret2 2 3 _) Tryd.func25 rfl rfl Tryd.ntmps25 (res2 Tryd.results25) ?_
 refine C.reenv (env2 := [(0,.iface src.t src.v)]) rfl ?_
 refine C.sr ?_
 refine E.pure (S.assign rfl) rfl ?_
 refine E.pure (S.assign (v := Er.val ea .none) rfl) rfl ?_
 refine E.kp [(0,_),(2,_),(3,_)] rfl ?_
 refine C.sr ?_
 refine E.loud1 (X.alloc Tryd.zeroValue76) rfl ?_; rintro _ _ ⟨b6,rfl,rfl⟩; refine E.relist (L2 := [_,_,_,_]) rfl ?_
 refine E.relist (L2 := [⟨b6,0,zip10 .nilIface .nilIface ++ (buf0 ++ zipEnd .nilIface false)⟩,x1,x2,x3]) (by rw [zipZero]) ?_
 refine E.same (zipSame b6 [x1,x2,x3] _ _ _ rfl buf0_length) ?_
 refine E.perml [3,3,3,0,0,0] (A := [_,_,_,_,_,_]) (F := []) rfl ?_
 refine E.relist (L2 := [x1,x2,x3,⟨b6,0,[.string ⟨#[]⟩,.slice none 0 0,.int .u64 0,.int .i64 0,.string ⟨#[]⟩,.int .u8 0,.nilIface,.nilIface,.int .u32 0,.int .u32 0]⟩,⟨b6,10,buf0⟩,⟨b6,522,[.nilIface,.bool false]⟩]) rfl ?_
 refine E.pure (S.assign rfl) rfl ?_
 refine E.kp [(0,_),(2,_),(3,_),(4,_)] rfl ?_
 refine C.seq ?_
 refine C.sr ?_
 refine E.pure (S.move rfl) rfl ?_
 refine E.pure (S.move rfl) rfl ?_
 refine E.loud1 (X.call rfl Tryd.call38 (reset_walk hs src l x1 x2 x3 b6 hA _ _ _ _ _ _ _ _ _ _ _ _ _ [] buf0_length (.inl ⟨rfl,rfl⟩))) rfl ?_
 rintro _ L2 ⟨rfl,hE⟩
 refine E.pure (S.assign rfl) rfl ?_
 refine E.kp [(2,_),(3,_),(4,_),(5,_)] rfl ?_
 refine C.sr ?_
 refine E.pure (S.move rfl) rfl ?_
 refine E.still (S.neErNil rfl) rfl ?_
 refine E.kp [(2,_),(3,_),(4,_),(5,_),(11,_)] rfl ?_
 first | refine C.ifp rfl (fun h11 => ?_) (fun h11 => ?_) | refine C.ifNone rfl (fun h11 => ?_) (fun h11 => ?_) | refine C.ifSome rfl (fun h11 => ?_) (fun h11 => ?_) | refine C.ifSe rfl (fun h11 => ?_) (fun h11 => ?_) | refine C.ifNotSe rfl (fun h11 => ?_) (fun h11 => ?_) | refine C.cond rfl (fun h11 => ?_) (fun h11 => ?_)
 ·
  have hE2 := hE.resolve_right (fun h => h11 h.1)
  refine C.sr ?_
  refine E.pure (S.move rfl) rfl ?_
  refine E.pure (S.assign rfl) rfl ?_
  refine E.pure (S.assign rfl) rfl ?_
  refine E.kp [(2,_),(3,_),(4,_),(5,_),(11,_)] rfl ?_
  refine C.ret ?_
  exact ⟨_,_,rfl,rfl,.inl ⟨h11,rfl,hE2.2⟩⟩
 have hE2 := hE.resolve_left (fun h => h.1 h11)
 refine C.skip ?_
 refine C.sr ?_
 refine E.pure (S.move rfl) rfl ?_
 refine E.pure (S.assign rfl) rfl ?_
 refine E.pure (S.assign (v := Er.val ea .none) rfl) rfl ?_
 refine E.kp [(2,_),(3,_),(4,_),(5,_),(11,_)] rfl ?_
 refine C.ret ?_
 exact ⟨_,_,rfl,rfl,.inr ⟨h11,b6,rfl,hE2.2⟩⟩
/-- NewReader: nothing but the source is kept if there is an error. -/
theorem zNewReader_spec {K : Known} {ea : Fin 5 → Addr} (hs : Sents K ea) (src : Src K ea) (l : List UInt8) (x1 x2 x3 : Frag) (hA : src.At l x1 x2 x3) :
    Fn Tryd.prog K 25 #[.iface src.t src.v] [x1,x2,x3] (fun r L => ((readHead l).1 ≠ .none ∧ r = .tuple #[.pointer none,Er.val ea (readHead l).1] ∧ ∃ f1 f2 f3,src.At (readHead l).2.1 f1 f2 f3 ∧ L = [f1,f2,f3]) ∨
      ((readHead l).1 = .none ∧ ∃ zb,r = .tuple #[.pointer (some ⟨zb,0,none⟩),Er.val ea (readHead l).1] ∧ ZAt src zb (readHead l).2.2 true (readHead l).2.1 L)) := by
  refine Fn.lose (newReader_walk hs src l x1 x2 x3 hA) ?_
  rintro v L' (⟨hne,rfl,f1,f2,f3,T,hF,rfl⟩ | ⟨hno,zb,rfl,hz⟩)
  · exact ⟨_,_,Same.refl _,.inl ⟨hne,rfl,f1,f2,f3,hF,rfl⟩⟩
  · exact ⟨L',[],Same.of_eq (List.append_nil _).symm,.inr ⟨hno,zb,by rw [hno],hz⟩⟩

end Go.Eng
namespace Go.Eng
open Go Go.Proofs
set_option maxRecDepth 100000

set_option maxHeartbeats 2000000
theorem C.shed {P : Program} {H0 : Known} {n : Nat} {c : Code} {env : Env} {L A F : Frags} {N Y R} (is : List Nat) (hp : picks is L = some (A,F)) (h : wpC P H0 n c env F N Y R) : wpC P H0 n c env L N Y R := by
  refine C.perm ((picks_perm hp).trans List.perm_append_comm) ?_
  intro a w hf hw Q s
  have base : ∀ {w' L'},To H0 w F w' L' → To H0 w (F ++ A) w' L' := fun t => (To.frame hw t).drop
  exact h a w hf hw.drop Q ⟨fun e l a w h f k => s.normal e l a w h f (base k),fun id M hk e l a w h f k => s.exit id M hk e l a w h f (base k),fun id M hk e l a w h f k => s.goto id M hk e l a w h f (base k),fun e l a w h f k => s.ret e l a w h f (base k)⟩
theorem C.dropR {P : Program} {H0 : Known} {n : Nat} {c : Code} {env : Env} {A F : Frags} {N Y R} (h : wpC P H0 n c env F N Y R) : wpC P H0 n c env (F ++ A) N Y R := by
  intro a w hf hw Q s
  have base : ∀ {w' L'},To H0 w F w' L' → To H0 w (F ++ A) w' L' := fun t => (To.frame hw t).drop
  exact h a w hf hw.drop Q ⟨fun e l a w h f k => s.normal e l a w h f (base k),fun id M hk e l a w h f k => s.exit id M hk e l a w h f (base k),fun id M hk e l a w h f k => s.goto id M hk e l a w h f (base k),fun e l a w h f k => s.ret e l a w h f (base k)⟩
theorem crcOn_nil : crcOn IEEE 0 [] = 0 := by decide
/-- A gzip.Reader between two reads: what it will still give. -/
def ZRd {K : Known} {ea : Fin 5 → Addr} (src : Src K ea) (zb : Nat) (ms : Bool) (Y : List UInt8 × ZEnd) (L : Frags) : Prop :=
  ∃ Dt gv c0 c1 c2 c3 c4 c5 bs fb DK,bs.length = 512 ∧ DecOk src Dt fb (run Dt .next [] 0) gv DK ∧ gv ≤ (run Dt .next [] 0).1.length ∧ Y = ((run Dt .next [] 0).1.drop gv ++ (gzT ms Dt).1,(gzT ms Dt).2) ∧
    L = [⟨zb,0,[c0,c1,c2,c3,c4,c5,.iface src.t src.v,.iface 157 (.pointer (some ⟨fb,0,none⟩)),.int .u32 ((crcOn IEEE 0 ((run Dt .next [] 0).1.take (gv)) : Nat) : Int),.int .u32 (((gv) % 4294967296 : Nat) : Int)]⟩,⟨zb,10,bs⟩,⟨zb,522,[Er.val ea .none,.bool ms]⟩] ++ DK
/-- What a read gives. -/
def ReadZ {K : Known} {ea : Fin 5 → Addr} (src : Src K ea) (zb : Nat) (ms : Bool) (Y : List UInt8 × ZEnd) (pb po n : Nat) (cs : List Value) (r : Value) (L : Frags) : Prop :=
  ∃ k er,r = .tuple #[.int .i64 ((k : Nat) : Int),Er.val ea er] ∧ k ≤ n ∧ k ≤ Y.1.length ∧
    ((er = .none ∧ 0 < k ∧ ∃ LZ,ZRd src zb ms (Y.1.drop k,Y.2) LZ ∧ L = ⟨pb,po,bytesV (Y.1.take k) ++ cs.drop k⟩::LZ) ∨
     (er ≠ .none ∧ k = Y.1.length ∧ kindOf er = Y.2.1 ∧ ∃ f1 f2 f3 LZ,(∃ l,src.At l f1 f2 f3) ∧ (ms = false → Y.2.1 = 1 → src.At Y.2.2 f1 f2 f3) ∧ ZOld zb LZ ∧ L = ⟨pb,po,bytesV (Y.1.take k) ++ cs.drop k⟩::f1::f2::f3::LZ))
theorem ZAt.rd {K : Known} {ea : Fin 5 → Addr} {src : Src K ea} {zb : Nat} {h : Hd} {ms : Bool} {rest : List UInt8} {L : Frags} (hZ : ZAt src zb h ms rest L) : ∃ LZ J,ZRd src zb ms (gzR ms rest) LZ ∧ Same L (LZ ++ J) := by
  obtain ⟨f1,f2,f3,bs,xa,xn,Y,fb,DN,hA,hb,hX,hDN,rfl⟩ := hZ
  refine ⟨[⟨zb,0,[.string h.comment,.slice xa xn xn,.int .u64 0,.int .i64 (timeV h.mod),.string h.name,.int .u8 ((h.os : Nat) : Int),.iface src.t src.v,.iface 157 (.pointer (some ⟨fb,0,none⟩)),.int .u32 ((0 : Nat) : Int),.int .u32 0]⟩,⟨zb,10,bs⟩,⟨zb,522,[Er.val ea .none,.bool ms]⟩] ++ (f1::f2::f3::DN),[Y],⟨rest,0,.string h.comment,.slice xa xn xn,.int .u64 0,.int .i64 (timeV h.mod),.string h.name,.int .u8 ((h.os : Nat) : Int),bs,fb,f1::f2::f3::DN,hb,hDN.ok hA,Nat.zero_le _,by rw [gzR_eq]; rfl,?_⟩,?_⟩
  · rw [List.take_zero,crcOn_nil]; rfl
  · exact Same.perm ((picks_perm (is := [3,3,3,0,0,0]) (A := [_,_,_,_,_,_]) (F := _::DN) rfl).trans (List.Perm.append_left [_,_,_,_,_,_] (List.perm_append_comm (l₁ := [Y]))))
theorem ZRd.old {K : Known} {ea : Fin 5 → Addr} {src : Src K ea} {zb : Nat} {ms : Bool} {Y : List UInt8 × ZEnd} {L : Frags} (hZ : ZRd src zb ms Y L) : ∃ LZ J,ZOld zb LZ ∧ Same L (LZ ++ J) := by
  obtain ⟨Dt,gv,c0,c1,c2,c3,c4,c5,bs,fb,DK,hb,⟨hb2,pend,m,x1,x2,x3,Af,Tf,Wf,Hf,TL,hD,_,rfl⟩,_,_,rfl⟩ := hZ
  obtain ⟨DL,J,hr,hS⟩ := hD.rawd
  have s1 := hS [⟨zb,0,[c0,c1,c2,c3,c4,c5,.iface src.t src.v,.iface 157 (.pointer (some ⟨fb,0,none⟩)),.int .u32 ((crcOn IEEE 0 ((run Dt .next [] 0).1.take (gv)) : Nat) : Int),.int .u32 (((gv) % 4294967296 : Nat) : Int)]⟩,⟨zb,10,bs⟩,⟨zb,522,[Er.val ea .none,.bool ms]⟩,x1,x2,x3]
  refine ⟨[⟨zb,0,[c0,c1,c2,c3,c4,c5,.iface src.t src.v,.iface 157 (.pointer (some ⟨fb,0,none⟩)),.int .u32 ((crcOn IEEE 0 ((run Dt .next [] 0).1.take (gv)) : Nat) : Int),.int .u32 (((gv) % 4294967296 : Nat) : Int)]⟩,⟨zb,10,bs⟩,⟨zb,522,[Er.val ea .none,.bool ms]⟩] ++ DL,J ++ [x1,x2,x3],⟨c0,c1,c2,c3,c4,c5,_,_,_,_,bs,_,_,DL,hb,.inr ⟨fb,rfl,hr⟩,rfl⟩,s1.trans (Same.perm ?_)⟩
  refine List.Perm.trans (l₂ := [⟨zb,0,[c0,c1,c2,c3,c4,c5,.iface src.t src.v,.iface 157 (.pointer (some ⟨fb,0,none⟩)),.int .u32 ((crcOn IEEE 0 ((run Dt .next [] 0).1.take (gv)) : Nat) : Int),.int .u32 (((gv) % 4294967296 : Nat) : Int)]⟩,⟨zb,10,bs⟩,⟨zb,522,[Er.val ea .none,.bool ms]⟩] ++ ([x1,x2,x3] ++ (DL ++ J))) ?_ ?_
  · simp only [List.append_assoc,List.cons_append,List.nil_append]; exact .refl _
  · rw [List.append_assoc]
    refine List.Perm.append_left _ ?_
    rw [← List.append_assoc DL J]
    exact List.perm_append_comm
theorem decRead_in {K : Known} {ea : Fin 5 → Addr} (hs : Sents K ea) (hc : Codes K) {src : Src K ea} {dt : List UInt8} {fb : Nat} {R : ResR} {gv : Nat} {DK : Frags} (hD : DecOk src dt fb R gv DK) (pb po n c : Nat) (cs : List Value) (hn : n = cs.length) (hn0 : 0 < n) (a1 a2 a3 : Frag) :
    Fn Tryd.prog K 119 #[.pointer (some ⟨fb,0,none⟩),.slice (some ⟨pb,po,none⟩) (n) (c)] ([a1,a2,a3,⟨pb,po,cs⟩] ++ DK) fun r L => ∃ k er L1,r = .tuple #[.int .i64 ((k : Nat) : Int),Er.val ea er] ∧ k ≤ n ∧ k ≤ (R.1.drop gv).length ∧
      L = [a1,a2,a3,⟨pb,po,bytesV ((R.1.drop gv).take k) ++ cs.drop k⟩] ++ L1 ∧ ((er = .none ∧ 0 < k ∧ DecOk src dt fb R (gv + k) L1) ∨ (er ≠ .none ∧ gv + k = R.1.length ∧ DecFin src dt fb R er L1)) := by
  have pm : ∀ (B : Frag) (DK : Frags),([a1,a2,a3,B] ++ DK).Perm ((DK ++ [B]) ++ [a1,a2,a3]) := fun B DK =>
    (List.Perm.append_left [a1,a2,a3] (List.perm_append_comm (l₁ := [B]))).trans List.perm_append_comm
  refine Fn.sameR (Fn.perm (pm _ DK) (Fn.frame (F := [a1,a2,a3]) (decRead_spec hs hc hD pb po n c cs hn hn0))) ?_
  rintro v L ⟨L0,⟨k,er,L1,rfl,h1,h2,rfl,h3⟩,rfl⟩
  exact ⟨_,Same.perm (pm _ L1).symm,k,er,L1,rfl,h1,h2,rfl,h3⟩
theorem eightB {l : List UInt8} (h : fullErr l 8 = .none) : ∃ v0 v1 v2 v3 v4 v5 v6 v7 r,l = v0::v1::v2::v3::v4::v5::v6::v7::r := by
  have hl := full_len h
  match l,hl with
  | v0::v1::v2::v3::v4::v5::v6::v7::r,_ => exact ⟨_,_,_,_,_,_,_,_,_,rfl⟩
theorem kind_full {l : List UInt8} {m : Nat} (h : fullErr l m ≠ .none) : kindOf (noEof (fullErr l m)) = 5 := by
  unfold fullErr at h ⊢
  split at h
  · exact absurd rfl h
  · rename_i h1
    rw [if_neg h1]
    split
    · rw [noEof_eof rfl]; rfl
    · rw [noEof_other (by simp)]; rfl

theorem zRead_walk {K : Known} {ea : Fin 5 → Addr} (hs : Sents K ea) (hc : Codes K) (src : Src K ea) (zb : Nat) (ms : Bool) (Y : List UInt8 × ZEnd) (pb po n c : Nat) (cs : List Value) (hn : n = cs.length) (hn0 : 0 < n) (hnc : n ≤ c) (hnl : n ≤ 4611686018427387904) (D0 : List UInt8) (gv0 : Nat) (c0 c1 c2 c3 c4 c5 : Value) (bs0 : List Value) (fb0 : Nat) (DK0 : Frags) (hb0 : bs0.length = 512) (hD0 : DecOk src D0 fb0 (run D0 .next [] 0) gv0 DK0) (hg0 : gv0 ≤ (run D0 .next [] 0).1.length) (e0 : Er) (he0 : e0 = .none) (hX0 : Y = ((run D0 .next [] 0).1.drop gv0 ++ (gzT ms D0).1,(gzT ms D0).2)) : Fn Tryd.prog K 36 #[.pointer (some ⟨zb,0,none⟩),.slice (some ⟨pb,po,none⟩) (n) (c)] ([⟨zb,0,[c0,c1,c2,c3,c4,c5,.iface src.t src.v,.iface 157 (.pointer (some ⟨fb0,0,none⟩)),.int .u32 ((crcOn IEEE 0 ((run D0 .next [] 0).1.take gv0) : Nat) : Int),.int .u32 (((gv0) % 4294967296 : Nat) : Int)]⟩,⟨zb,10,bs0⟩,⟨zb,522,[Er.val ea e0,.bool ms]⟩,⟨pb,po,cs⟩] ++ DK0) (fun r L => ∃ L2 J,Same L (L2 ++ J) ∧ ReadZ src zb ms Y pb po n cs r L2) := by
 refine Fn.intro (args := [.pointer (some ⟨zb,0,none⟩),.slice (some ⟨pb,po,none⟩) (n) (c)]) (RR := Ret2 4 5 _) Tryd.func36 rfl rfl Tryd.ntmps36 (res2 Tryd.results36) ?_
 refine C.reenv (env2 := [(0,.pointer (some ⟨zb,0,none⟩)),(1,.slice (some ⟨pb,po,none⟩) (n) (c))]) rfl ?_
 refine C.sr ?_
 refine E.pure (S.assign rfl) rfl ?_
 refine E.pure (S.assign (v := Er.val ea .none) rfl) rfl ?_
 refine E.kp [(0,_),(1,_),(4,_),(5,_)] rfl ?_
 refine C.seq ?_
 refine C.sr ?_
 refine E.pure (S.move rfl) rfl ?_
 refine E.pure (S.nilPtr rfl) rfl ?_
 refine E.pure (S.field rfl fa76_6) rfl ?_
 refine E.still (S.load 2 (k := 0) rfl rfl rfl Tryd.isAgg59) rfl ?_
 refine E.still (S.neErNil rfl) rfl ?_
 refine E.kp [(0,_),(1,_),(4,_),(5,_),(14,_)] rfl ?_
 first | refine C.ifp rfl (fun h14 => ?_) (fun h14 => ?_) | refine C.ifNone rfl (fun h14 => ?_) (fun h14 => ?_) | refine C.ifSome rfl (fun h14 => ?_) (fun h14 => ?_) | refine C.ifSe rfl (fun h14 => ?_) (fun h14 => ?_) | refine C.ifNotSe rfl (fun h14 => ?_) (fun h14 => ?_) | refine C.cond rfl (fun h14 => ?_) (fun h14 => ?_)
 ·
  exact absurd he0 h14
 subst he0
 refine C.skip ?_
 refine C.seq ?_
 refine C.block ?_
 refine C.loop (fun mm ee ll => ∃ (Dt : List UInt8),∃ (gv : Nat),∃ (k : Nat),∃ (bs : List Value),∃ (fb : Nat),∃ (DK : Frags),keeps ee [0,1,4] = some [(0,.pointer (some ⟨zb,0,none⟩)),(1,.slice (some ⟨pb,po,none⟩) (n) (c)),(4,.int .i64 ((k : Nat) : Int))] ∧ ll = [⟨zb,0,[c0,c1,c2,c3,c4,c5,.iface src.t src.v,.iface 157 (.pointer (some ⟨fb,0,none⟩)),.int .u32 ((crcOn IEEE 0 ((run Dt .next [] 0).1.take (gv)) : Nat) : Int),.int .u32 (((gv) % 4294967296 : Nat) : Int)]⟩,⟨zb,10,bs⟩,⟨zb,522,[.nilIface,.bool ms]⟩,⟨pb,po,bytesV (Y.1.take k) ++ cs.drop k⟩] ++ DK ∧ (DecOk src Dt fb (run Dt .next [] 0) gv DK) ∧ (bs.length = 512) ∧ (gv ≤ (run Dt .next [] 0).1.length) ∧ ((Y.1.drop k,Y.2) = ((run Dt .next [] 0).1.drop gv ++ (gzT ms Dt).1,(gzT ms Dt).2)) ∧ (k ≤ n) ∧ (k ≤ Y.1.length) ∧ mm = Dt.length) (_) ⟨D0,gv0,0,bs0,fb0,DK0,rfl,rfl,hD0,hb0,hg0,hX0,Nat.zero_le _,Nat.zero_le _,rfl⟩ ?_
 rintro m0 _ _ ⟨Dt,gv,k,bs,fb,DK,hk0,rfl,hD,hbs,hgv,hX,hkn,hkX,hm0⟩
 refine C.weaken _ hk0 ?_
 refine C.seq ?_
 refine C.sr ?_
 refine E.pure (S.move rfl) rfl ?_
 refine E.pure (S.eq (b := ((0 : Nat) : Int)) rfl rfl) rfl ?_
 refine E.kp [(0,_),(1,_),(4,_),(20,_)] rfl ?_
 refine C.ifp rfl (fun h20 => ?_) (fun h20 => ?_)
 ·
  have hkz : k = 0 := by omega
  subst hkz
  refine C.skip ?_
  refine C.block ?_
  refine C.seq ?_
  refine C.relist (L2 := [⟨zb,0,[c0,c1,c2,c3,c4,c5,.iface src.t src.v,.iface 157 (.pointer (some ⟨fb,0,none⟩)),.int .u32 ((crcOn IEEE 0 ((run Dt .next [] 0).1.take (gv)) : Nat) : Int),.int .u32 (((gv) % 4294967296 : Nat) : Int)]⟩,⟨zb,10,bs⟩,⟨zb,522,[.nilIface,.bool ms]⟩,⟨pb,po,cs⟩] ++ DK) rfl ?_
  refine C.region ?_
  refine E.pure (S.move rfl) rfl ?_
  refine E.pure (S.move rfl) rfl ?_
  refine E.pure (S.nilPtr rfl) rfl ?_
  refine E.pure (S.field rfl fa76_2) rfl ?_
  refine E.still (S.load 0 (k := 7) rfl rfl rfl Tryd.isAgg73) rfl ?_
  refine E.pure (S.move rfl) rfl ?_
  refine E.loud1 (X.invoke rfl rfl (dmRead fb) Tryd.call119 (decRead_in hs hc hD pb po n c cs hn hn0 _ _ _)) rfl ?_; rintro _ _ ⟨j,er,L1,rfl,hj1,hj2,rfl,hE⟩; refine E.relist (L2 := (_::_::_::_::_)) rfl ?_
  refine E.pure (S.move rfl) rfl ?_
  refine E.pure (S.extract rfl rfl) rfl ?_
  refine E.pure (S.extract rfl rfl) rfl ?_
  refine E.pure (S.assign rfl) rfl ?_
  refine E.pure (S.nilPtr rfl) rfl ?_
  refine E.pure (S.field rfl fa76_6) rfl ?_
  refine E.loud0 (X.store 2 (k := 0) rfl rfl rfl (one_er _) rfl Tryd.sizeOf59) ?_; rintro _ _ ⟨rfl,rfl⟩; refine E.relist (L2 := (_::_::_::_::_)) rfl ?_
  refine E.kp [(0,_),(1,_),(4,_),(20,_)] rfl ?_
  have hX1 : Y.1 = (run Dt .next [] 0).1.drop gv ++ (gzT ms Dt).1 := (Prod.mk.inj hX).1
  have hX2 : Y.2 = (gzT ms Dt).2 := (Prod.mk.inj hX).2
  have hXt : ((run Dt .next [] 0).1.drop gv).take j = Y.1.take j := by rw [hX1,List.take_append_of_le_length hj2]
  have hXd : Y.1.drop j = (run Dt .next [] 0).1.drop (gv + j) ++ (gzT ms Dt).1 := by rw [hX1,List.drop_append_of_le_length hj2,List.drop_drop]
  have hrl : ((run Dt .next [] 0).1.drop gv).length = (run Dt .next [] 0).1.length - gv := List.length_drop
  have hjX : j ≤ Y.1.length := by rw [hX1,List.length_append]; omega
  have htk : (Y.1.take j).length = j := by rw [List.length_take]; omega
  have hcr : crcOn IEEE (crcOn IEEE 0 ((run Dt .next [] 0).1.take (gv))) (Y.1.take j) = crcOn IEEE 0 ((run Dt .next [] 0).1.take (gv + j)) := by rw [crcOn_append,← hXt,← List.take_add]
  have hcl : crcOn IEEE 0 ((run Dt .next [] 0).1.take (gv)) < 4294967296 := crcOn_lt (by decide) (by decide) _
  refine C.relist (L2 := [⟨zb,0,[c0,c1,c2,c3,c4,c5,.iface src.t src.v,.iface 157 (.pointer (some ⟨fb,0,none⟩)),.int .u32 ((crcOn IEEE 0 ((run Dt .next [] 0).1.take (gv)) : Nat) : Int),.int .u32 (((gv) % 4294967296 : Nat) : Int)]⟩,⟨zb,10,bs⟩,⟨zb,522,[Er.val ea er,.bool ms]⟩,⟨pb,po,bytesV (Y.1.take j) ++ cs.drop j⟩] ++ L1) (by rw [hXt]; rfl) ?_
  refine C.seq ?_
  refine C.draw [0,0,2,4,8,0,0,96,144,511,1023,1535] (.pure 0 510 (.pure 1 225 (.pure 2 227 (.pure 3 231 (.pure 5 95 (.pure 6 63 (.pure 7 127 (.seg [(4,239)] (.alt 8 (.pure 9 511 (.pure 10 1023 (.alt 11 .done .stop))) .stop))))))))) mixed (by decide +kernel) ?_
  refine D.pure rfl (S.move rfl) rfl ?_
  refine D.pure rfl (S.move rfl) rfl ?_
  refine D.pure rfl (S.nilPtr rfl) rfl ?_
  refine D.pure rfl (S.field rfl fa76_3) rfl ?_
  refine D.pure rfl (S.move rfl) rfl ?_
  refine D.pure rfl (S.move rfl) rfl ?_
  refine D.pure rfl (S.slH rfl rfl (by omega) Tryd.underlying22 Tryd.sizeOf5) rfl ?_
  refine D.reslot (v := .slice (some ⟨pb,po,none⟩) ((Y.1.take j).length) (c)) (slice_to (by simp [part]) (by rw [htk]) rfl) ?_
  refine D.seg (by decide) ?_
  refine W.still rfl (S.load 0 (k := 8) rfl rfl rfl Tryd.isAgg52) rfl ?_
  refine W.nil ?_
  refine D.one ?_
  refine O.loud1 rfl (X.call rfl Tryd.call44 (UpdateIEEE_spec (crcOn IEEE 0 ((run Dt .next [] 0).1.take (gv))) pb po c (Y.1.take j) hcl (Reads.frag (i := 3) (k := 0) rfl (by rw [List.drop_zero,List.take_left'] ; rfl)) (by omega) (by omega))) rfl ?_; rintro _ _ ⟨rfl,rfl⟩; refine D.relist (L2 := (_::_::_::_::_)) rfl ?_
  refine D.reslot (v := .int .u32 ((crcOn IEEE 0 ((run Dt .next [] 0).1.take (gv + j)) : Nat) : Int)) (congrArg (fun y : Nat => Value.int .u32 (y : Int)) (by exact hcr)) ?_
  refine D.pure rfl (S.nilPtr rfl) rfl ?_
  refine D.pure rfl (S.field rfl fa76_3) rfl ?_
  refine D.one ?_
  refine O.loud0 rfl (X.store 0 (k := 8) rfl rfl rfl rfl rfl Tryd.sizeOf52) ?_; rintro _ _ ⟨rfl,rfl⟩; refine D.relist (L2 := (_::_::_::_::_)) rfl ?_
  refine D.kp [(0,_),(1,_),(4,_),(20,_)] rfl ?_
  refine C.sr ?_
  refine E.pure (S.move rfl) rfl ?_
  refine E.pure (S.nilPtr rfl) rfl ?_
  refine E.pure (S.field rfl fa76_4) rfl ?_
  refine E.still (S.load 0 (k := 9) rfl rfl rfl Tryd.isAgg52) rfl ?_
  refine E.pure (S.move rfl) rfl ?_
  first | refine E.pure (S.conv rfl Tryd.underlying3 Tryd.underlying52 (N.in_u32 (by omega))) rfl ?_ | refine E.pure (S.conv rfl Tryd.underlying3 Tryd.underlying52 (N.mod_u32 _)) rfl ?_
  first | refine E.pure (S.add rfl rfl (N.add_u32 (by omega))) rfl ?_ | refine E.pure (S.add rfl rfl (N.addU32w _ _)) rfl ?_
  refine E.reslot (v := .int .u32 (((gv + j) % 4294967296 : Nat) : Int)) (congrArg (fun y : Nat => Value.int .u32 (y : Int)) (by omega)) ?_
  refine E.pure (S.nilPtr rfl) rfl ?_
  refine E.pure (S.field rfl fa76_4) rfl ?_
  refine E.loud0 (X.store 0 (k := 9) rfl rfl rfl rfl rfl Tryd.sizeOf52) ?_; rintro _ _ ⟨rfl,rfl⟩; refine E.relist (L2 := (_::_::_::_::_)) rfl ?_
  refine E.kp [(0,_),(1,_),(4,_),(20,_)] rfl ?_
  refine C.seq ?_
  refine C.seq ?_
  refine C.draw [0,1,2,4,0,24] (.pure 0 16 (.pure 1 17 (.pure 2 19 (.seg [(3,23),(4,15),(5,31)] .done)))) mixed (by decide +kernel) ?_
  refine D.pure rfl (S.move rfl) rfl ?_
  refine D.pure rfl (S.nilPtr rfl) rfl ?_
  refine D.pure rfl (S.field rfl fa76_6) rfl ?_
  refine D.seg (by decide) ?_
  refine W.still rfl (S.load 2 (k := 0) rfl rfl rfl Tryd.isAgg59) rfl ?_
  refine W.still rfl (S.loadBase rfl hs.g0 Tryd.isAgg59) rfl ?_
  refine W.still rfl (S.neEr hs rfl rfl) rfl ?_
  refine W.nil ?_
  refine D.kp [(0,_),(1,_),(4,_),(20,_),(58,_)] rfl ?_
  first | refine C.ifp rfl (fun h58 => ?_) (fun h58 => ?_) | refine C.ifNone rfl (fun h58 => ?_) (fun h58 => ?_) | refine C.ifSome rfl (fun h58 => ?_) (fun h58 => ?_) | refine C.ifSe rfl (fun h58 => ?_) (fun h58 => ?_) | refine C.ifNotSe rfl (fun h58 => ?_) (fun h58 => ?_) | refine C.cond rfl (fun h58 => ?_) (fun h58 => ?_)
  ·
   refine C.seq ?_
   refine C.draw [0,0,2,4,8,1,63] (.pure 0 30 (.pure 1 33 (.pure 2 35 (.pure 3 39 (.pure 5 31 (.seg [(4,47),(6,63)] .done)))))) mixed (by decide +kernel) ?_
   refine D.pure rfl (S.move rfl) rfl ?_
   refine D.pure rfl (S.move rfl) rfl ?_
   refine D.pure rfl (S.nilPtr rfl) rfl ?_
   refine D.pure rfl (S.field rfl fa76_6) rfl ?_
   refine D.pure rfl (S.assign rfl) rfl ?_
   refine D.seg (by decide) ?_
   refine W.still rfl (S.load 2 (k := 0) rfl rfl rfl Tryd.isAgg59) rfl ?_
   refine W.pure rfl (S.assign rfl) rfl ?_
   refine W.nil ?_
   refine D.kp [(0,_),(1,_),(4,_),(5,_),(20,_),(58,_)] rfl ?_
   refine C.ret ?_
   rcases hE with ⟨rfl,hj0,hOk⟩ | ⟨hne,hgj,hb3,y1,y2,y3,Af,Tf,Wf,Hf,TL,hDS,hEO,rfl⟩
   · exact ⟨_,_,rfl,rfl,_,[],(Same.perm (picks_perm (is := [3,0,0,0]) (A := [_,_,_,_]) (F := L1) rfl)).trans (Same.of_eq (List.append_nil _).symm),j,.none,rfl,hj1,hjX,.inl ⟨rfl,hj0,_,⟨Dt,gv + j,c0,c1,c2,c3,c4,c5,bs,fb,L1,hbs,hOk,by omega,by rw [hXd,hX2],rfl⟩,rfl⟩⟩
   · obtain ⟨hbad,h5,lx,hAx⟩ := hEO.resolve_left fun ⟨q,_,h,_⟩ => h58 h
     have hT := gzT_bad (ms := ms) hbad
     rw [hT] at hX1 hX2
     obtain ⟨DL,J,hraw,hS⟩ := hDS.rawd
     have hs1 := hS [⟨zb,0,[c0,c1,c2,c3,c4,c5,.iface src.t src.v,.iface 157 (.pointer (some ⟨fb,0,none⟩)),.int .u32 ((crcOn IEEE 0 ((run Dt .next [] 0).1.take (gv + j)) : Nat) : Int),.int .u32 (((gv + j) % 4294967296 : Nat) : Int)]⟩,⟨zb,10,bs⟩,⟨zb,522,[Er.val ea er,.bool ms]⟩,⟨pb,po,bytesV (Y.1.take j) ++ cs.drop j⟩,y1,y2,y3]
     refine ⟨_,_,rfl,rfl,⟨pb,po,bytesV (Y.1.take j) ++ cs.drop j⟩::y1::y2::y3::([⟨zb,0,[c0,c1,c2,c3,c4,c5,.iface src.t src.v,.iface 157 (.pointer (some ⟨fb,0,none⟩)),.int .u32 ((crcOn IEEE 0 ((run Dt .next [] 0).1.take (gv + j)) : Nat) : Int),.int .u32 (((gv + j) % 4294967296 : Nat) : Int)]⟩,⟨zb,10,bs⟩,⟨zb,522,[Er.val ea er,.bool ms]⟩] ++ DL),J,hs1.trans (Same.perm ?_),j,er,rfl,hj1,hjX,.inr ⟨hne,?_,?_,y1,y2,y3,_,⟨lx,hAx⟩,?_,⟨c0,c1,c2,c3,c4,c5,_,_,_,_,bs,_,_,DL,hbs,.inr ⟨fb,rfl,hraw⟩,rfl⟩,rfl⟩⟩
     · exact (picks_perm (is := [3,3,3,3,0,0,0]) (A := [_,_,_,_,_,_,_]) (F := DL) rfl).append_right J
     · rw [hX1,List.append_nil]; omega
     · rw [hX2]; exact h5.1
     · intro _ h; rw [hX2] at h; cases h
  subst h58
  obtain ⟨_,hgj,hb3,y1,y2,y3,Af,Tf,Wf,Hf,TL,hDS,hEO,rfl⟩ := hE.resolve_left (fun h => by cases h.1)
  obtain ⟨q,hRq,_,hql,hAt⟩ := hEO.resolve_right (fun h => by have := h.2.1.1; cases this)
  obtain ⟨DL,J,hraw,hS⟩ := hDS.rawd
  refine C.same (hS [⟨zb,0,[c0,c1,c2,c3,c4,c5,.iface src.t src.v,.iface 157 (.pointer (some ⟨fb,0,none⟩)),.int .u32 ((crcOn IEEE 0 ((run Dt .next [] 0).1.take (gv + j)) : Nat) : Int),.int .u32 (((gv + j) % 4294967296 : Nat) : Int)]⟩,⟨zb,10,bs⟩,⟨zb,522,[Er.val ea .eof,.bool ms]⟩,⟨pb,po,bytesV (Y.1.take j) ++ cs.drop j⟩,y1,y2,y3]) ?_
  refine C.dropR ?_
  have hall : (run Dt .next [] 0).1.take (gv + j) = (run Dt .next [] 0).1 := List.take_of_length_le (by omega)
  have hnil : (run Dt .next [] 0).1.drop (gv + j) = [] := List.drop_eq_nil_of_le (by omega)
  rw [hnil,List.nil_append] at hXd
  refine C.skip ?_
  refine C.seq ?_
  refine C.seq ?_
  refine C.same (Same.splitAt (k := 8) 1 rfl rfl (List.take_append_drop 8 _).symm (by rw [List.length_take]; omega) rfl) ?_
  refine C.relist (L2 := [_,_,_,_,_,_,_,_] ++ DL) rfl ?_
  refine C.draw [0,1,2,4,0,16,32,64,136,256,512,512,2047,8191] (.pure 0 240 (.pure 1 241 (.pure 2 243 (.pure 4 15 (.pure 5 31 (.pure 6 63 (.pure 7 127 (.seg [(3,247)] (.alt 8 (.pure 9 511 (.pure 10 3071 (.pure 11 6143 (.pure 12 4095 (.pure 13 8191 .done))))) .stop))))))))) mixed (by decide +kernel) ?_
  refine D.pure rfl (S.move rfl) rfl ?_
  refine D.pure rfl (S.nilPtr rfl) rfl ?_
  refine D.pure rfl (S.field rfl fa76_1) rfl ?_
  refine D.pure rfl (S.move rfl) rfl ?_
  refine D.pure rfl (S.nilPtr rfl) rfl ?_
  refine D.pure rfl (S.field rfl fa76_5) rfl ?_
  refine D.pure rfl (S.slArr (l := 0) (k := .i64) (h := 8) rfl rfl rfl (by omega) (by omega) Tryd.underlying74 Tryd.sizeOf5) rfl ?_
  refine D.reslot (v := .slice (some ⟨zb,10,none⟩) (8) (512)) (slice_to (by simp [part]) rfl rfl) ?_
  refine D.seg (by decide) ?_
  refine W.still rfl (S.load 2 (k := 6) rfl rfl rfl Tryd.isAgg71) rfl ?_
  refine W.nil ?_
  refine D.one ?_
  refine O.loud1 rfl (OpX.pick [5,5,5,0] (F := (_::_::_::_::_)) rfl (X.call rfl Tryd.call45 (readFull_spec hs src (Dt.drop q) y1 y2 y3 zb 10 8 512 (List.take 8 bs) hAt (by rw [List.length_take]; omega) (by omega) (by omega)))) rfl ?_; rintro _ _ ⟨_,⟨f1,f2,f3,hF,rfl,rfl⟩,rfl⟩; refine D.relist (L2 := (_::_::_::_::_::_::_::_::_)) rfl ?_
  refine D.pure rfl (S.move rfl) rfl ?_
  refine D.pure rfl (S.extract rfl rfl) rfl ?_
  refine D.pure rfl (S.extract rfl rfl) rfl ?_
  refine D.pure rfl (S.assign rfl) rfl ?_
  refine D.pure rfl (S.assign rfl) rfl ?_
  refine D.kp [(0,_),(1,_),(4,_),(7,_),(20,_),(58,_)] rfl ?_
  refine C.same (Same.joinAt 3 3 rfl rfl (by rw [show 10 + 8 = 10 + (8 : Nat) from rfl]; congr 1; simp only [List.length_append,bytesV_length,List.length_take,List.length_drop,show ∀ a b : Nat,Nat.min a b = min a b from fun _ _ => rfl]; omega)) ?_
  refine C.relist (L2 := [_,_,_,_,_,_,_] ++ DL) rfl ?_
  refine C.sr ?_
  refine E.pure (S.move rfl) rfl ?_
  refine E.still (S.neErNil rfl) rfl ?_
  refine E.kp [(0,_),(1,_),(4,_),(7,_),(20,_),(58,_),(77,_)] rfl ?_
  first | refine C.ifp rfl (fun h77 => ?_) (fun h77 => ?_) | refine C.ifNone rfl (fun h77 => ?_) (fun h77 => ?_) | refine C.ifSome rfl (fun h77 => ?_) (fun h77 => ?_) | refine C.ifSe rfl (fun h77 => ?_) (fun h77 => ?_) | refine C.ifNotSe rfl (fun h77 => ?_) (fun h77 => ?_) | refine C.cond rfl (fun h77 => ?_) (fun h77 => ?_)
  ·
   have hbj := buf_join (bs := bs) (l := Dt.drop q) (m := 8) (by omega)
   have hjl : j = Y.1.length := by have hT := gzT_short (ms := ms) hRq (fullErr_ne.1 h77); rw [hT] at hX1; rw [hX1,List.append_nil]; omega
   refine C.sr ?_
   refine E.pure (S.move rfl) rfl ?_
   refine E.pure (S.move rfl) rfl ?_
   refine E.loud1 (OpX.pick [] (F := (_::_::_::_::_::_::_::_)) rfl (X.call rfl Tryd.call46 (gogzip_noEOF (L := []) hs _))) rfl ?_; rintro _ _ ⟨_,⟨rfl,rfl⟩,rfl⟩; refine E.relist (L2 := (_::_::_::_::_::_::_::_)) rfl ?_
   refine E.pure (S.nilPtr rfl) rfl ?_
   refine E.pure (S.field rfl fa76_6) rfl ?_
   refine E.loud0 (X.store 5 (k := 0) rfl rfl rfl (one_er _) rfl Tryd.sizeOf59) ?_; rintro _ _ ⟨rfl,rfl⟩; refine E.relist (L2 := (_::_::_::_::_::_::_::_)) rfl ?_
   refine E.kp [(0,_),(1,_),(4,_),(7,_),(20,_),(58,_),(77,_)] rfl ?_
   refine C.seq ?_
   refine C.draw [0,0,2,4,8,1,63] (.pure 0 30 (.pure 1 33 (.pure 2 35 (.pure 3 39 (.pure 5 31 (.seg [(4,47),(6,63)] .done)))))) mixed (by decide +kernel) ?_
   refine D.pure rfl (S.move rfl) rfl ?_
   refine D.pure rfl (S.move rfl) rfl ?_
   refine D.pure rfl (S.nilPtr rfl) rfl ?_
   refine D.pure rfl (S.field rfl fa76_6) rfl ?_
   refine D.pure rfl (S.assign rfl) rfl ?_
   refine D.seg (by decide) ?_
   refine W.still rfl (S.load 5 (k := 0) rfl rfl rfl Tryd.isAgg59) rfl ?_
   refine W.pure rfl (S.assign rfl) rfl ?_
   refine W.nil ?_
   refine D.kp [(0,_),(1,_),(4,_),(5,_),(7,_),(20,_),(58,_),(77,_)] rfl ?_
   refine C.ret ?_
   refine ⟨_,_,rfl,rfl,_,[],(Same.perm (picks_perm (is := [6,1,1,1,1,0,0]) (A := [_,_,_,_,_,_,_]) (F := DL) rfl)).trans (Same.of_eq (List.append_nil _).symm),j,noEof (fullErr (Dt.drop q) 8),rfl,hj1,hjX,.inr ⟨noEof_ne h77,hjl,by rw [hX2,gzT_short hRq (fullErr_ne.1 h77)]; exact kind_full h77,_,_,_,_,⟨_,hF⟩,(fun _ h => by rw [hX2,gzT_short hRq (fullErr_ne.1 h77)] at h; cases h),⟨c0,c1,c2,c3,c4,c5,_,_,_,_,_,_,_,DL,(hbj.trans hbs),.inr ⟨fb,rfl,hraw⟩,rfl⟩,rfl⟩⟩
  rw [h77]
  obtain ⟨v0,v1,v2,v3,v4,v5,v6,v7,l8,hl8⟩ := eightB h77
  have hv0 := v0.toNat_lt
  have hv1 := v1.toNat_lt
  have hv2 := v2.toNat_lt
  have hv3 := v3.toNat_lt
  have hv4 := v4.toNat_lt
  have hv5 := v5.toNat_lt
  have hv6 := v6.toNat_lt
  have hv7 := v7.toNat_lt
  have hn8 := full_len h77
  have h8 : ¬ (Dt.drop q).length < 8 := by omega
  refine C.relist (L2 := [⟨zb,10,u8 v0::u8 v1::u8 v2::u8 v3::u8 v4::u8 v5::u8 v6::u8 v7::bs.drop 8⟩,f1,f2,f3,⟨zb,0,[c0,c1,c2,c3,c4,c5,.iface src.t src.v,.iface 157 (.pointer (some ⟨fb,0,none⟩)),.int .u32 ((crcOn IEEE 0 ((run Dt .next [] 0).1.take (gv + j)) : Nat) : Int),.int .u32 (((gv + j) % 4294967296 : Nat) : Int)]⟩,⟨zb,522,[Er.val ea .eof,.bool ms]⟩,⟨pb,po,bytesV (Y.1.take j) ++ cs.drop j⟩] ++ DL) (by rw [buf_full (full_len h77),hl8]; rfl) ?_
  have hbs8 : (u8 v0::u8 v1::u8 v2::u8 v3::u8 v4::u8 v5::u8 v6::u8 v7::bs.drop 8).length = 512 := by simp only [List.length_cons,List.length_drop]; omega
  have ht0 : le32at (Dt.drop q) 0 = le32 v0.toNat v1.toNat v2.toNat v3.toNat := by rw [hl8]; rfl
  have ht4 : le32at (Dt.drop q) 4 = le32 v4.toNat v5.toNat v6.toNat v7.toNat := by rw [hl8]; rfl
  have hle0 := le32_lt hv0 hv1 hv2 hv3
  have hle4 := le32_lt hv4 hv5 hv6 hv7
  have hlen : gv + j = (run Dt .next [] 0).1.length := hgj
  have hj0 : (crcOn IEEE 0 ((run Dt .next [] 0).1.take (gv + j))) = crcOn IEEE 0 (run Dt .next [] 0).1 := by rw [hall]
  have hjl : j = Y.1.length ∨ True := .inr trivial
  refine C.skip ?_
  refine C.sr ?_
  refine E.pure (S.move rfl) rfl ?_
  refine E.pure (S.nilPtr rfl) rfl ?_
  refine E.pure (S.field rfl fa76_5) rfl ?_
  refine E.pure (S.slArr (l := 0) (k := .i64) (h := 4) rfl rfl rfl (by omega) (by omega) Tryd.underlying74 Tryd.sizeOf5) rfl ?_
  refine E.reslot (v := .slice (some ⟨zb,10,none⟩) (4) (512)) (slice_to (by simp [part]) rfl rfl) ?_
  refine E.loud1 (X.call rfl Tryd.call47 (le32_spec zb 10 4 512 v0 v1 v2 v3 [] (by omega) (Reads.frag (i := 0) (k := 0) rfl rfl))) rfl ?_; rintro _ _ ⟨rfl,rfl⟩; refine E.relist (L2 := (_::_::_::_::_::_::_::_)) rfl ?_
  refine E.pure (S.assign rfl) rfl ?_
  refine E.kp [(0,_),(1,_),(4,_),(7,_),(8,_),(20,_),(58,_),(77,_)] rfl ?_
  refine C.sr ?_
  refine E.pure (S.move rfl) rfl ?_
  refine E.pure (S.nilPtr rfl) rfl ?_
  refine E.pure (S.field rfl fa76_5) rfl ?_
  refine E.pure (S.slArr (l := 4) (h := 8) rfl rfl rfl (by omega) (by omega) Tryd.underlying74 Tryd.sizeOf5) rfl ?_
  refine E.reslot (v := .slice (some ⟨zb,14,none⟩) (4) (508)) (slice_to (by simp [part]) rfl rfl) ?_
  refine E.loud1 (X.call rfl Tryd.call47 (le32_spec zb 14 4 508 v4 v5 v6 v7 [] (by omega) (Reads.frag (i := 0) (k := 4) rfl rfl))) rfl ?_; rintro _ _ ⟨rfl,rfl⟩; refine E.relist (L2 := (_::_::_::_::_::_::_::_)) rfl ?_
  refine E.pure (S.assign rfl) rfl ?_
  refine E.kp [(0,_),(1,_),(4,_),(7,_),(8,_),(9,_),(20,_),(58,_),(77,_)] rfl ?_
  refine C.seq ?_
  refine C.sr ?_
  refine E.pure (S.move rfl) rfl ?_
  refine E.pure (S.move rfl) rfl ?_
  refine E.pure (S.nilPtr rfl) rfl ?_
  refine E.pure (S.field rfl fa76_3) rfl ?_
  refine E.still (S.load 4 (k := 8) rfl rfl rfl Tryd.isAgg52) rfl ?_
  refine E.pure (S.ne rfl rfl) rfl ?_
  refine E.pure (S.move rfl) rfl ?_
  refine E.fork (fun g104 => ?_) (fun g104 => ?_)
  ·
   have hnf : ¬ fits (run Dt .next [] 0).1 (Dt.drop q) := fun h => by rw [fits,ht0,ht4] at h; omega
   have hjl : j = Y.1.length := by have hT := gzT_sum (ms := ms) hRq h8 hnf; rw [hT] at hX1; rw [hX1,List.append_nil]; omega
   refine E.guardNo 104 true rfl rfl rfl rfl ?_
   refine E.guardNo 104 true rfl rfl rfl rfl ?_
   refine E.guardNo 104 true rfl rfl rfl rfl ?_
   refine E.guardNo 104 true rfl rfl rfl rfl ?_
   refine E.guardNo 104 true rfl rfl rfl rfl ?_
   refine E.guardNo 104 true rfl rfl rfl rfl ?_
   refine E.pure (S.pickT rfl rfl) rfl ?_
   refine E.kp [(0,_),(1,_),(4,_),(7,_),(8,_),(9,_),(20,_),(58,_),(77,_),(111,_)] rfl ?_
   refine C.yes rfl (rfl) ?_
   refine C.sr ?_
   refine E.pure (S.move rfl) rfl ?_
   refine E.still (S.loadBase rfl hs.g2 Tryd.isAgg59) rfl ?_
   refine E.pure (S.nilPtr rfl) rfl ?_
   refine E.pure (S.field rfl fa76_6) rfl ?_
   refine E.loud0 (X.store 5 (k := 0) rfl rfl rfl rfl rfl Tryd.sizeOf59) ?_; rintro _ _ ⟨rfl,rfl⟩; refine E.relist (L2 := (_::_::_::_::_::_::_::_)) rfl ?_
   refine E.kp [(0,_),(1,_),(4,_),(7,_),(8,_),(9,_),(20,_),(58,_),(77,_),(111,_)] rfl ?_
   refine C.seq ?_
   refine C.draw [0,0,2,4,8,1,63] (.pure 0 30 (.pure 1 33 (.pure 2 35 (.pure 3 39 (.pure 5 31 (.seg [(4,47),(6,63)] .done)))))) mixed (by decide +kernel) ?_
   refine D.pure rfl (S.move rfl) rfl ?_
   refine D.pure rfl (S.move rfl) rfl ?_
   refine D.pure rfl (S.nilPtr rfl) rfl ?_
   refine D.pure rfl (S.field rfl fa76_6) rfl ?_
   refine D.pure rfl (S.assign rfl) rfl ?_
   refine D.seg (by decide) ?_
   refine W.still rfl (S.load 5 (k := 0) rfl rfl rfl Tryd.isAgg59) rfl ?_
   refine W.pure rfl (S.assign rfl) rfl ?_
   refine W.nil ?_
   refine D.kp [(0,_),(1,_),(4,_),(5,_),(7,_),(8,_),(9,_),(20,_),(58,_),(77,_),(111,_)] rfl ?_
   refine C.ret ?_
   refine ⟨_,_,rfl,rfl,_,[],(Same.perm (picks_perm (is := [6,1,1,1,1,0,0]) (A := [_,_,_,_,_,_,_]) (F := DL) rfl)).trans (Same.of_eq (List.append_nil _).symm),j,.se 2,rfl,hj1,hjX,.inr ⟨by simp,hjl,by rw [hX2,gzT_sum hRq h8 hnf]; rfl,_,_,_,_,⟨_,hF⟩,(fun _ h => by rw [hX2,gzT_sum hRq h8 hnf] at h; cases h),⟨c0,c1,c2,c3,c4,c5,_,_,_,_,_,_,_,DL,hbs8,.inr ⟨fb,rfl,hraw⟩,rfl⟩,rfl⟩⟩
  refine E.wanted 104 rfl rfl ?_
  refine E.pure (S.move rfl) rfl ?_
  refine E.wanted 104 rfl rfl ?_
  refine E.pure (S.move rfl) rfl ?_
  refine E.wanted 104 rfl rfl ?_
  refine E.pure (S.nilPtr rfl) rfl ?_
  refine E.wanted 104 rfl rfl ?_
  refine E.pure (S.field rfl fa76_4) rfl ?_
  refine E.wanted 104 rfl rfl ?_
  refine E.still (S.load 4 (k := 9) rfl rfl rfl Tryd.isAgg52) rfl ?_
  refine E.wanted 104 rfl rfl ?_
  refine E.pure (S.ne rfl rfl) rfl ?_
  refine E.pure (S.pickF rfl rfl) rfl ?_
  refine E.kp [(0,_),(1,_),(4,_),(7,_),(8,_),(9,_),(20,_),(58,_),(77,_),(111,_)] rfl ?_
  refine C.ifp rfl (fun h111 => ?_) (fun h111 => ?_)
  ·
   have hnf : ¬ fits (run Dt .next [] 0).1 (Dt.drop q) := fun h => by rw [fits,ht0,ht4] at h; omega
   have hjl : j = Y.1.length := by have hT := gzT_sum (ms := ms) hRq h8 hnf; rw [hT] at hX1; rw [hX1,List.append_nil]; omega
   refine C.sr ?_
   refine E.pure (S.move rfl) rfl ?_
   refine E.still (S.loadBase rfl hs.g2 Tryd.isAgg59) rfl ?_
   refine E.pure (S.nilPtr rfl) rfl ?_
   refine E.pure (S.field rfl fa76_6) rfl ?_
   refine E.loud0 (X.store 5 (k := 0) rfl rfl rfl rfl rfl Tryd.sizeOf59) ?_; rintro _ _ ⟨rfl,rfl⟩; refine E.relist (L2 := (_::_::_::_::_::_::_::_)) rfl ?_
   refine E.kp [(0,_),(1,_),(4,_),(7,_),(8,_),(9,_),(20,_),(58,_),(77,_),(111,_)] rfl ?_
   refine C.seq ?_
   refine C.draw [0,0,2,4,8,1,63] (.pure 0 30 (.pure 1 33 (.pure 2 35 (.pure 3 39 (.pure 5 31 (.seg [(4,47),(6,63)] .done)))))) mixed (by decide +kernel) ?_
   refine D.pure rfl (S.move rfl) rfl ?_
   refine D.pure rfl (S.move rfl) rfl ?_
   refine D.pure rfl (S.nilPtr rfl) rfl ?_
   refine D.pure rfl (S.field rfl fa76_6) rfl ?_
   refine D.pure rfl (S.assign rfl) rfl ?_
   refine D.seg (by decide) ?_
   refine W.still rfl (S.load 5 (k := 0) rfl rfl rfl Tryd.isAgg59) rfl ?_
   refine W.pure rfl (S.assign rfl) rfl ?_
   refine W.nil ?_
   refine D.kp [(0,_),(1,_),(4,_),(5,_),(7,_),(8,_),(9,_),(20,_),(58,_),(77,_),(111,_)] rfl ?_
   refine C.ret ?_
   refine ⟨_,_,rfl,rfl,_,[],(Same.perm (picks_perm (is := [6,1,1,1,1,0,0]) (A := [_,_,_,_,_,_,_]) (F := DL) rfl)).trans (Same.of_eq (List.append_nil _).symm),j,.se 2,rfl,hj1,hjX,.inr ⟨by simp,hjl,by rw [hX2,gzT_sum hRq h8 hnf]; rfl,_,_,_,_,⟨_,hF⟩,(fun _ h => by rw [hX2,gzT_sum hRq h8 hnf] at h; cases h),⟨c0,c1,c2,c3,c4,c5,_,_,_,_,_,_,_,DL,hbs8,.inr ⟨fb,rfl,hraw⟩,rfl⟩,rfl⟩⟩
  have hfit : fits (run Dt .next [] 0).1 (Dt.drop q) := by rw [fits,ht0,ht4]; omega
  refine C.skip ?_
  refine C.sr ?_
  refine E.pure (S.move rfl) rfl ?_
  refine E.pure (S.move rfl) rfl ?_
  refine E.pure (S.nilPtr rfl) rfl ?_
  refine E.pure (S.field rfl fa76_3) rfl ?_
  refine E.loud0 (X.store 4 (k := 8) rfl rfl rfl rfl rfl Tryd.sizeOf52) ?_; rintro _ _ ⟨rfl,rfl⟩; refine E.relist (L2 := (_::_::_::_::_::_::_::_)) rfl ?_
  refine E.pure (S.nilPtr rfl) rfl ?_
  refine E.pure (S.field rfl fa76_4) rfl ?_
  refine E.loud0 (X.store 4 (k := 9) rfl rfl rfl rfl rfl Tryd.sizeOf52) ?_; rintro _ _ ⟨rfl,rfl⟩; refine E.relist (L2 := (_::_::_::_::_::_::_::_)) rfl ?_
  refine E.kp [(0,_),(1,_),(4,_),(7,_),(8,_),(9,_),(20,_),(58,_),(77,_),(111,_)] rfl ?_
  refine C.seq ?_
  refine C.sr ?_
  refine E.pure (S.move rfl) rfl ?_
  refine E.pure (S.nilPtr rfl) rfl ?_
  refine E.pure (S.field rfl fa76_7) rfl ?_
  refine E.still (S.load 5 (k := 1) rfl rfl rfl Tryd.isAgg4) rfl ?_
  refine E.pure (S.notB rfl) rfl ?_
  refine E.kp [(0,_),(1,_),(4,_),(7,_),(8,_),(9,_),(20,_),(58,_),(77,_),(111,_),(131,_)] rfl ?_
  first | refine C.ifp rfl (fun h131 => ?_) (fun h131 => ?_) | refine C.ifNone rfl (fun h131 => ?_) (fun h131 => ?_) | refine C.ifSome rfl (fun h131 => ?_) (fun h131 => ?_) | refine C.ifSe rfl (fun h131 => ?_) (fun h131 => ?_) | refine C.ifNotSe rfl (fun h131 => ?_) (fun h131 => ?_) | refine C.cond rfl (fun h131 => ?_) (fun h131 => ?_)
  ·
   have hms : ms = false := by simpa using h131
   have hjl : j = Y.1.length := by have hT := gzT_one (ms := ms) hRq h8 hfit hms; rw [hT] at hX1; rw [hX1,List.append_nil]; omega
   refine C.seq ?_
   refine C.draw [0,0,1,7] (.pure 0 2 (.pure 2 3 (.seg [(1,5),(3,7)] .done))) mixed (by decide +kernel) ?_
   refine D.pure rfl (S.move rfl) rfl ?_
   refine D.pure rfl (S.assign rfl) rfl ?_
   refine D.seg (by decide) ?_
   refine W.still rfl (S.loadBase rfl hs.g0 Tryd.isAgg59) rfl ?_
   refine W.pure rfl (S.assign rfl) rfl ?_
   refine W.nil ?_
   refine D.kp [(0,_),(1,_),(4,_),(5,_),(7,_),(8,_),(9,_),(20,_),(58,_),(77,_),(111,_),(131,_)] rfl ?_
   refine C.ret ?_
   refine ⟨_,_,rfl,rfl,_,[],(Same.perm (picks_perm (is := [6,1,1,1,1,0,0]) (A := [_,_,_,_,_,_,_]) (F := DL) rfl)).trans (Same.of_eq (List.append_nil _).symm),j,.eof,rfl,hj1,hjX,.inr ⟨by simp,hjl,by rw [hX2,gzT_one hRq h8 hfit hms]; rfl,_,_,_,_,⟨_,hF⟩,fun _ _ => by rw [hX2,gzT_one hRq h8 hfit hms]; exact hF,⟨c0,c1,c2,c3,c4,c5,_,_,_,_,_,_,_,DL,hbs8,.inr ⟨fb,rfl,hraw⟩,rfl⟩,rfl⟩⟩
  have hms2 : ms ≠ false := by simpa using h131
  refine C.skip ?_
  refine C.sr ?_
  refine E.pure (S.move rfl) rfl ?_
  refine E.pure (S.nilPtr rfl) rfl ?_
  refine E.pure (S.field rfl fa76_6) rfl ?_
  refine E.loud0 (X.store 5 (k := 0) rfl rfl rfl rfl rfl Tryd.sizeOf59) ?_; rintro _ _ ⟨rfl,rfl⟩; refine E.relist (L2 := (_::_::_::_::_::_::_::_)) rfl ?_
  refine E.kp [(0,_),(1,_),(4,_),(7,_),(8,_),(9,_),(20,_),(58,_),(77,_),(111,_),(131,_)] rfl ?_
  refine C.seq ?_
  refine C.perml [1,1,1,1,0,0,0] (A := [_,_,_,_,_,_,_]) (F := DL) rfl ?_
  refine C.relist (L2 := [_,_,_,_,_,_,_] ++ DL) rfl ?_
  refine C.region ?_
  refine E.pure (S.move rfl) rfl ?_
  refine E.pure (S.move rfl) rfl ?_
  refine E.loud1 (X.call rfl Tryd.call48 (readHeader_in hs src ((Dt.drop q).drop 8) f1 f2 f3 zb 0 _ _ _ _ _ _ _ _ _ DL (.inr ⟨fb,rfl,hraw⟩) hF hbs8 (by decide) [_,_])) rfl ?_
  rintro _ _ ⟨hs6,g1,g2,g3,d2,bs2,h6,h7,rfl,hG,hb2,hd2,⟨hne,rfl⟩ | ⟨hno,xa,xn,xf,fb2,DN,hX3,rfl,rfl,hDN,rfl⟩⟩
  ·
   refine E.relist (L2 := (_::_::_::_::_::_::_::_)) rfl ?_
   refine E.pure (S.move rfl) rfl ?_
   refine E.pure (S.extract rfl rfl) rfl ?_
   refine E.pure (S.extract rfl rfl) rfl ?_
   refine E.pure (S.nilPtr rfl) rfl ?_
   refine E.pure (S.field rfl fa76_6) rfl ?_
   refine E.loud0 (X.store 5 (k := 0) rfl rfl rfl (one_er _) rfl Tryd.sizeOf59) ?_; rintro _ _ ⟨rfl,rfl⟩; refine E.relist (L2 := (_::_::_::_::_::_::_::_)) rfl ?_
   refine E.kp [(0,_),(1,_),(4,_),(7,_),(8,_),(9,_),(20,_),(58,_),(77,_),(111,_),(131,_)] rfl ?_
   refine C.sr ?_
   refine E.pure (S.move rfl) rfl ?_
   refine E.pure (S.nilPtr rfl) rfl ?_
   refine E.pure (S.field rfl fa76_6) rfl ?_
   refine E.still (S.load 5 (k := 0) rfl rfl rfl Tryd.isAgg59) rfl ?_
   refine E.still (S.neErNil rfl) rfl ?_
   refine E.kp [(0,_),(1,_),(4,_),(7,_),(8,_),(9,_),(20,_),(58,_),(77,_),(111,_),(131,_),(149,_)] rfl ?_
   first | refine C.ifp rfl (fun h149 => ?_) (fun h149 => ?_) | refine C.ifNone rfl (fun h149 => ?_) (fun h149 => ?_) | refine C.ifSome rfl (fun h149 => ?_) (fun h149 => ?_) | refine C.ifSe rfl (fun h149 => ?_) (fun h149 => ?_) | refine C.ifNotSe rfl (fun h149 => ?_) (fun h149 => ?_) | refine C.cond rfl (fun h149 => ?_) (fun h149 => ?_)
   ·
    have hjl : j = Y.1.length := by have hT := gzT_head (ms := ms) hRq h8 hfit hms2 h149; rw [hT] at hX1; rw [hX1,List.append_nil]; omega
    refine C.seq ?_
    refine C.draw [0,0,2,4,8,1,63] (.pure 0 30 (.pure 1 33 (.pure 2 35 (.pure 3 39 (.pure 5 31 (.seg [(4,47),(6,63)] .done)))))) mixed (by decide +kernel) ?_
    refine D.pure rfl (S.move rfl) rfl ?_
    refine D.pure rfl (S.move rfl) rfl ?_
    refine D.pure rfl (S.nilPtr rfl) rfl ?_
    refine D.pure rfl (S.field rfl fa76_6) rfl ?_
    refine D.pure rfl (S.assign rfl) rfl ?_
    refine D.seg (by decide) ?_
    refine W.still rfl (S.load 5 (k := 0) rfl rfl rfl Tryd.isAgg59) rfl ?_
    refine W.pure rfl (S.assign rfl) rfl ?_
    refine W.nil ?_
    refine D.kp [(0,_),(1,_),(4,_),(5,_),(7,_),(8,_),(9,_),(20,_),(58,_),(77,_),(111,_),(131,_),(149,_)] rfl ?_
    refine C.ret ?_
    refine ⟨_,_,rfl,rfl,_,[],(Same.perm (picks_perm (is := [6,0,0,0,0,0,0]) (A := [_,_,_,_,_,_,_]) (F := DL) rfl)).trans (Same.of_eq (List.append_nil _).symm),j,(readHead ((Dt.drop q).drop 8)).1,rfl,hj1,hjX,.inr ⟨h149,hjl,by rw [hX2,gzT_head hRq h8 hfit hms2 h149],_,_,_,_,⟨_,hG⟩,fun h => absurd h hms2,⟨c0,c1,c2,c3,c4,c5,_,_,_,_,_,_,_,DL,hb2,.inr ⟨fb,rfl,hraw⟩,rfl⟩,rfl⟩⟩
   exact absurd h149 hne
  refine E.relist (L2 := (_::_::_::_::_::_::_::_::_)) rfl ?_
  refine E.pure (S.move rfl) rfl ?_
  refine E.pure (S.extract rfl rfl) rfl ?_
  refine E.pure (S.extract rfl rfl) rfl ?_
  refine E.pure (S.nilPtr rfl) rfl ?_
  refine E.pure (S.field rfl fa76_6) rfl ?_
  refine E.loud0 (X.store 5 (k := 0) rfl rfl rfl (one_er _) rfl Tryd.sizeOf59) ?_; rintro _ _ ⟨rfl,rfl⟩; refine E.relist (L2 := (_::_::_::_::_::_::_::_::_)) rfl ?_
  refine E.kp [(0,_),(1,_),(4,_),(7,_),(8,_),(9,_),(20,_),(58,_),(77,_),(111,_),(131,_)] rfl ?_
  refine C.sr ?_
  refine E.pure (S.move rfl) rfl ?_
  refine E.pure (S.nilPtr rfl) rfl ?_
  refine E.pure (S.field rfl fa76_6) rfl ?_
  refine E.still (S.load 5 (k := 0) rfl rfl rfl Tryd.isAgg59) rfl ?_
  refine E.still (S.neErNil rfl) rfl ?_
  refine E.kp [(0,_),(1,_),(4,_),(7,_),(8,_),(9,_),(20,_),(58,_),(77,_),(111,_),(131,_),(149,_)] rfl ?_
  first | refine C.ifp rfl (fun h149 => ?_) (fun h149 => ?_) | refine C.ifNone rfl (fun h149 => ?_) (fun h149 => ?_) | refine C.ifSome rfl (fun h149 => ?_) (fun h149 => ?_) | refine C.ifSe rfl (fun h149 => ?_) (fun h149 => ?_) | refine C.ifNotSe rfl (fun h149 => ?_) (fun h149 => ?_) | refine C.cond rfl (fun h149 => ?_) (fun h149 => ?_)
  ·
   exact absurd hno h149
  refine C.relist (L2 := [_,_,_,_,_,⟨zb,522,[.nilIface,.bool ms]⟩,_,_] ++ DN) (by rw [h149]; rfl) ?_
  refine C.shed [7] (A := [_]) (F := _::_::_::_::_::_::_::DN) rfl ?_
  refine C.perml [3,3,3,3,0,0,0] (A := [_,_,_,_,_,_,_]) (F := DN) rfl ?_
  refine C.relist (L2 := [_,_,_,_] ++ (g1::g2::g3::DN)) rfl ?_
  refine C.skip ?_
  have hT := gzT_next (ms := ms) hRq h8 hfit hms2 h149
  have hle := readHead_le ((Dt.drop q).drop 8)
  rw [gzR_eq] at hT
  refine ⟨_,?_,(readHead ((Dt.drop q).drop 8)).2.1,0,j,bs2,fb2,g1::g2::g3::DN,rfl,(by rw [List.take_zero,crcOn_nil]; rfl),hDN.ok hG,hb2,Nat.zero_le _,by rw [hXd,hX2,hT]; rfl,hj1,hjX,rfl⟩; rw [hm0]; simp only [List.length_drop] at hle h8 hn8; omega
 have hkz : 0 < k := by omega
 refine C.exit rfl ?_
 refine C.sr ?_
 refine E.pure (S.move rfl) rfl ?_
 refine E.pure (S.assign rfl) rfl ?_
 refine E.pure (S.assign (v := Er.val ea .none) rfl) rfl ?_
 refine E.kp [(0,_),(1,_),(4,_),(5,_),(20,_)] rfl ?_
 refine C.ret ?_
 exact ⟨_,_,rfl,rfl,_,[],(Same.perm (picks_perm (is := [3,0,0,0]) (A := [_,_,_,_]) (F := DK) rfl)).trans (Same.of_eq (List.append_nil _).symm),k,.none,rfl,hkn,hkX,.inl ⟨rfl,by omega,_,⟨Dt,gv,c0,c1,c2,c3,c4,c5,bs,fb,DK,hbs,hD,hgv,hX,rfl⟩,rfl⟩⟩
end Go.Eng
