/-
  Texts of this proof, merged: WFl8, Dst, WFl9, Step, WFlA, WFlD.
-/
import Derived.Test.YtbjbmpcgiokdaaaDoorMr4
import Derived.Test.YtbjbmpcgiokdaaaDoorMr2
set_option linter.unusedVariables false
set_option linter.unusedSimpArgs false
namespace Go.Eng
open Go Go.Proofs
set_option maxRecDepth 100000

set_option maxHeartbeats 2000000
section
variable {P : Program} {H0 : Known} {n : Nat} {ops : Array Oper} {ds : List Nat}
/-- A guarded call whose guard says no. -/
theorem O.skip {i j : Nat} {b : Bool} {dst : Option Nat} {op : Op} {ty : TypeId} {pos : String} {af : Array Edge} {r : Plan} {env : Env} {L : Frags} {N : Post} (t : Nat) (c : Bool)
    (hi : ops[i]? = some ⟨dst, op, ty, pos, af, some (j, b)⟩) (ht : (ops[j]?).bind (·.dst) = some t) (hv : get? env t = some (.bool c)) (hc : c = !b) (hd : dstOk dst n = true)
    (k : wpD P H0 n ops ds r (ext dst undef env) L N) : wpO P H0 n ops ds i r env L N := by
  intro fuel listed l hrep hds hp hsel a w hf hw Nw hq
  have hy := yielded_of (ops := ops) hf ht hv
  have hne : (some c == some b) = false := by subst hc; cases b <;> rfl
  unfold wpOp
  simp only [hi, Region.wanted, hy, hne]
  exact ⟨hw.base, k fuel _ _ hrep hds hp hsel _ w (hf.ext hd undef) hw Nw hq⟩
end

/-- How a decoder is after its making. -/
def HufE (lens : List Nat) (hb o : Nat) (ok : Bool) (LH : Frags) : Prop := (ok = true ∧ okLens lens ∧ HufT lens (minL lens) hb o LH) ∨ (ok = false ∧ ¬ okLens lens ∧ ∃ hz, hz.length = 515 ∧ LH = [⟨hb, o, hz⟩])
theorem init_in {K : Known} (hb o vb vo vc : Nat) (cs vs : List Value) (lens : List Nat) (hraw : RawH cs) (h15 : ∀ x ∈ lens, x ≤ 15) (hll : lens.length ≤ 320) (G : Frags) :
    Fn Tryd.prog K 80 #[.pointer (some ⟨hb, o, none⟩), .slice (some ⟨vb, vo, none⟩) lens.length vc] (⟨hb, o, cs⟩ :: ⟨vb, vo, intsV lens ++ vs⟩ :: G)
      fun r L => ∃ LH ok, r = .bool ok ∧ HufE lens hb o ok LH ∧ L = ⟨vb, vo, intsV lens ++ vs⟩ :: (G ++ LH) := by
  obtain ⟨mn0, rest, rfl, hl, hz⟩ := hraw
  refine Fn.lose (Fn.frame (F := G) (init_walk hb o vb vo vc mn0 rest vs lens hl hz h15 hll)) ?_
  rintro v L ⟨L1, hI, rfl⟩
  have pm : ∀ (A J : Frags) (x : Frag), (G ++ ((x :: A) ++ J)).Perm ((x :: (G ++ A)) ++ J) := fun A J x => by
    rw [← List.append_assoc]
    exact (List.perm_middle).append_right J
  rcases hI with ⟨hok, rfl, LH, J, hH, hS⟩ | ⟨hno, rfl, hz, J, hlen, hS⟩
  · exact ⟨_, J, (Same.perm List.perm_append_comm).trans ((Same.appendL G hS).trans (Same.perm (pm LH J _))), LH, true, rfl, .inl ⟨rfl, hok, hH⟩, rfl⟩
  · exact ⟨_, J, (Same.perm List.perm_append_comm).trans ((Same.appendL G hS).trans (Same.perm (pm _ J _))), _, false, rfl, .inr ⟨rfl, hno, hz, hlen, rfl⟩, rfl⟩
/-- The order in which the lengths of the code of lengths are told, as the program's own memory has it. -/
structure Codes (K : Known) : Prop where
  cell : ∀ i, i < 19 → cellAt K 5 (0 + i * 1) = some (.int .i64 ((ordL.getD i 0 : Nat) : Int))

theorem left_add (D : List UInt8) (p n : Nat) : left D (p + n) = left D p - n := by unfold left; omega
/-- How readHuffman ends. -/
def RhR {K : Known} {ea : Fin 5 → Addr} (src : Src K ea) (dt : List UInt8) (fb ab cb p : Nat) (s0 s1 s2 s3 s4 s5 s6 s7 s8 : Value) (r : Value) (L : Frags) : Prop :=
  ∃ e y1 y2 y3 a b c ev av cs J, r = Er.val ea e ∧ av.length = 316 ∧ cs.length = 19 ∧
    L = y1 :: y2 :: y3 :: ⟨fb, 0, [.iface src.t src.v, .pointer none, a, b, c]⟩ :: ⟨fb, 1045, [s0, s1, s2, ev, s4, s5, s6, s7, s8]⟩ :: ⟨fb, 1035, [.pointer (some ⟨ab, 0, none⟩), .pointer (some ⟨cb, 0, none⟩)]⟩ :: ⟨ab, 0, av⟩ :: ⟨cb, 0, cs⟩ :: J ∧
    ((e = .none ∧ ∃ t p2 q2 b2 nb2 ro2 HL HD, dynR dt p = some (t, p2) ∧ src.At (dt.drop q2) y1 y2 y3 ∧ BitsIn dt p2 q2 b2 nb2 ∧ nb2 < 8 ∧ LitT t fb 5 HL ∧ DistT t (some ⟨fb, 520, none⟩) HD ∧ a = .int .i64 ro2 ∧ b = .int .u32 ((b2 : Nat) : Int) ∧ c = .int .u64 ((nb2 : Nat) : Int) ∧ ev = s3 ∧ J = HL ++ HD) ∨
     (Bad5 e ∧ dynR dt p = none ∧ (∃ l, src.At l y1 y2 y3) ∧ ∃ h1 h2, h1.length = 515 ∧ h2.length = 515 ∧ J = [⟨fb, 5, h1⟩, ⟨fb, 520, h2⟩]))
theorem raw_len {cs : List Value} (h : RawH cs) : cs.length = 515 := by
  obtain ⟨m, r, rfl, h1, _⟩ := h
  rw [List.length_cons, h1]

theorem le_lenOf {l : List Nat} (h : ∀ x ∈ l, x ≤ 15) (s : Nat) : lenOf l s ≤ 15 := by
  rcases Nat.lt_or_ge s l.length with h1 | h1
  · rw [lenOf_get h1]; exact h _ (List.getElem_mem h1)
  · rw [lenOf, List.getD_eq_getElem?_getD, List.getElem?_eq_none h1]; decide
theorem acc_set {acc : List Nat} {rest : List Value} (v : Nat) (h : 0 < rest.length) : (intsV acc ++ rest).set (acc.length * 1) (.int .i64 ((v : Nat) : Int)) = intsV (acc ++ [v]) ++ rest.drop 1 := by
  match rest, h with
  | r :: rs, _ =>
    rw [Nat.mul_one, List.set_append_right _ _ (by rw [intsV_length]; exact Nat.le_refl _), intsV_length, Nat.sub_self]
    simp [intsV]
theorem last_get {acc : List Nat} {rest : List Value} (h : acc ≠ []) : (intsV acc ++ rest)[(acc.length - 1) * 1]? = some (.int .i64 ((acc.getLastD 0 : Nat) : Int)) := by
  have hl : 0 < acc.length := List.length_pos_iff.2 h
  rw [intsV_get (by omega), List.getLastD_eq_getLast?, List.getLast?_eq_getElem?, List.getElem?_eq_getElem (by omega)]; rfl
theorem get_256 {acc : List Nat} {rest : List Value} (h : 256 < acc.length) : (intsV acc ++ rest)[256 * 1]? = some (.int .i64 ((acc.getD 256 0 : Nat) : Int)) := by
  rw [intsV_get h, List.getD_eq_getElem?_getD, List.getElem?_eq_getElem h]; rfl
theorem last_le {acc : List Nat} (h : ∀ x ∈ acc, x ≤ 15) (v : Nat) : (if v = 16 then acc.getLastD 0 else 0) ≤ 15 := by
  split
  · rw [List.getLastD_eq_getLast?]
    cases hg : acc.getLast? with
    | none => exact Nat.zero_le _
    | some x => exact h x (List.mem_of_getLast? hg)
  · omega
theorem rep_set {acc : List Nat} {rest : List Value} {j bv : Nat} (h : 0 < (rest.drop j).length) : (intsV (acc ++ List.replicate j bv) ++ rest.drop j).set ((acc.length + j) * 1) (.int .i64 ((bv : Nat) : Int)) = intsV (acc ++ List.replicate (j + 1) bv) ++ rest.drop (j + 1) := by
  have e : acc.length + j = (acc ++ List.replicate j bv).length := by rw [List.length_append, List.length_replicate]
  rw [e, acc_set bv h, List.drop_drop, List.append_assoc, ← List.replicate_succ']
theorem rep_facts {v : Nat} (h : 16 ≤ v) : repN v ≤ 7 ∧ repB v ≤ 11 := ⟨by unfold repN; split; omega; split <;> omega, by unfold repB; split <;> omega⟩
theorem same_raw {lens : List Nat} {mn hb o : Nat} {LC : Frags} (h : HufT lens mn hb o LC) (G : Frags) : ∃ cs J, RawH cs ∧ Same (G ++ LC) ((⟨hb, o, cs⟩ :: G) ++ J) := by
  obtain ⟨cs, J, hr, hs⟩ := huf_raw h
  exact ⟨cs, J, hr, (Same.perm List.perm_append_comm).trans ((hs G).trans (Same.perm (.cons _ List.perm_append_comm)))⟩
theorem rh_bad2 {K : Known} {ea : Fin 5 → Addr} {src : Src K ea} {dt : List UInt8} {fb ab cb p : Nat} {s0 s1 s2 s3 s4 s5 s6 s7 s8 : Value} {e : Er} {y1 y2 y3 : Frag} {a b c ev : Value} {av cs cs2 : List Value} {LC : Frags} {lens : List Nat} {mn : Nat} {l : List UInt8}
    (hC : HufT lens mn fb 5 LC) (h5 : Bad5 e) (hd : dynR dt p = none) (hA : src.At l y1 y2 y3) (h1 : av.length = 316) (h2 : cs.length = 19) (h3 : cs2.length = 515) :
    ∃ L1 J, Same (y1 :: y2 :: y3 :: ⟨fb, 0, [.iface src.t src.v, .pointer none, a, b, c]⟩ :: ⟨fb, 1045, [s0, s1, s2, ev, s4, s5, s6, s7, s8]⟩ :: ⟨fb, 1035, [.pointer (some ⟨ab, 0, none⟩), .pointer (some ⟨cb, 0, none⟩)]⟩ :: ⟨ab, 0, av⟩ :: ⟨cb, 0, cs⟩ :: ⟨fb, 520, cs2⟩ :: LC) (L1 ++ J) ∧ RhR src dt fb ab cb p s0 s1 s2 s3 s4 s5 s6 s7 s8 (Er.val ea e) L1 := by
  obtain ⟨h1c, J, hr, hs⟩ := huf_raw hC
  refine ⟨_, J, ?_, e, y1, y2, y3, a, b, c, ev, av, cs, _, rfl, h1, h2, rfl, .inr ⟨h5, hd, ⟨l, hA⟩, h1c, cs2, raw_len hr, h3, rfl⟩⟩
  have q : ∀ G : Frags, Same (G ++ (⟨fb, 520, cs2⟩ :: LC)) ((G ++ [⟨fb, 5, h1c⟩, ⟨fb, 520, cs2⟩]) ++ J) := fun G => by
    have s1 := hs [⟨fb, 520, cs2⟩]
    have s2 := Same.appendL G ((Same.perm (List.perm_append_comm (l₁ := [⟨fb, 520, cs2⟩]) (l₂ := LC))).trans s1)
    refine s2.trans (Same.perm ?_)
    rw [List.append_assoc]
    refine List.Perm.append_left G (.cons _ ?_)
    exact List.perm_append_comm
  exact q [y1, y2, y3, ⟨fb, 0, [.iface src.t src.v, .pointer none, a, b, c]⟩, ⟨fb, 1045, [s0, s1, s2, ev, s4, s5, s6, s7, s8]⟩, ⟨fb, 1035, [.pointer (some ⟨ab, 0, none⟩), .pointer (some ⟨cb, 0, none⟩)]⟩, ⟨ab, 0, av⟩, ⟨cb, 0, cs⟩]
theorem rh_bad3 {K : Known} {ea : Fin 5 → Addr} {src : Src K ea} {dt : List UInt8} {fb ab cb p : Nat} {s0 s1 s2 s3 s4 s5 s6 s7 s8 : Value} {e : Er} {y1 y2 y3 : Frag} {a b c ev : Value} {av cs hz : List Value} {LC : Frags} {lens : List Nat} {mn : Nat} {l : List UInt8}
    (hC : HufT lens mn fb 5 LC) (h5 : Bad5 e) (hd : dynR dt p = none) (hA : src.At l y1 y2 y3) (h1 : av.length = 316) (h2 : cs.length = 19) (h3 : hz.length = 515) :
    ∃ L1 J, Same (⟨ab, 0, av⟩ :: y1 :: y2 :: y3 :: ⟨fb, 0, [.iface src.t src.v, .pointer none, a, b, c]⟩ :: ⟨fb, 1045, [s0, s1, s2, ev, s4, s5, s6, s7, s8]⟩ :: ⟨fb, 1035, [.pointer (some ⟨ab, 0, none⟩), .pointer (some ⟨cb, 0, none⟩)]⟩ :: ⟨cb, 0, cs⟩ :: (LC ++ [⟨fb, 520, hz⟩])) (L1 ++ J) ∧ RhR src dt fb ab cb p s0 s1 s2 s3 s4 s5 s6 s7 s8 (Er.val ea e) L1 := by
  obtain ⟨L1, J, hs, hr⟩ := rh_bad2 (s0 := s0) (s1 := s1) (s2 := s2) (s3 := s3) (s4 := s4) (s5 := s5) (s6 := s6) (s7 := s7) (s8 := s8) (ev := ev) (a := a) (b := b) (c := c) (ab := ab) (cb := cb) hC h5 hd hA h1 h2 h3
  refine ⟨L1, J, Same.trans (Same.perm ?_) hs, hr⟩
  refine (List.perm_middle (l₁ := [y1, y2, y3, _, _, _]) (l₂ := _ :: (LC ++ [_]))).symm.trans ?_
  refine .cons _ (.cons _ (.cons _ (.cons _ (.cons _ (.cons _ (.cons _ (.cons _ ?_)))))))
  exact List.perm_append_comm (l₂ := [_])

theorem readHuffman_walk {K : Known} {ea : Fin 5 → Addr} (hs : Sents K ea) (hc : Codes K) (src : Src K ea) (dt : List UInt8) (fb ab cb : Nat) (s0 s1 s2 s3 s4 s5 s6 s7 s8 : Value) (x1 x2 x3 : Frag) (p q b nb : Nat) (ro : Int) (av cs cs1 cs2 : List Value) (hasl : av.length = 316) (hcsl : cs.length = 19) (hraw1 : RawH cs1) (hraw2 : RawH cs2) (hA : src.At (dt.drop q) x1 x2 x3) (hB : BitsIn dt p q b nb) (hnb : nb < 8) : Fn Tryd.prog K 75 #[.pointer (some ⟨fb, 0, none⟩)] ([x1, x2, x3, ⟨fb, 0, [.iface src.t src.v, .pointer none, .int .i64 (ro), .int .u32 (((b) : Nat) : Int), .int .u64 (((nb) : Nat) : Int)]⟩, ⟨fb, 1045, [s0, s1, s2, s3, s4, s5, s6, s7, s8]⟩, ⟨fb, 1035, [.pointer (some ⟨ab, 0, none⟩), .pointer (some ⟨cb, 0, none⟩)]⟩, ⟨ab, 0, av⟩, ⟨cb, 0, cs⟩, ⟨fb, 5, cs1⟩, ⟨fb, 520, cs2⟩]) (fun r L => ∃ L1 J, Same L (L1 ++ J) ∧ RhR src dt fb ab cb p s0 s1 s2 s3 s4 s5 s6 s7 s8 r L1) := by
 refine Fn.intro (args := [.pointer (some ⟨fb, 0, none⟩)]) (RR := Ret1 2 _) Tryd.func75 rfl rfl Tryd.ntmps75 (res1 Tryd.results75) ?_
 refine C.reenv (env2 := [(0, .pointer (some ⟨fb, 0, none⟩))]) rfl ?_
 refine C.seq ?_
 refine C.region ?_
 refine E.pure (S.assign (v := Er.val ea .none) rfl) rfl ?_
 refine E.keep [0, 2] (env1 := [(0, _), (2, _)]) rfl ?_
 refine C.seq ?_
 refine C.block ?_
 refine C.loop (fun mm ee ll => ∃ (q : Nat), ∃ (b : Nat), ∃ (nb : Nat), ∃ (ro : Int), ∃ (g1 : Frag), ∃ (g2 : Frag), ∃ (g3 : Frag), keeps ee [0] = some [(0, .pointer (some ⟨fb, 0, none⟩))] ∧ ll = [g1, g2, g3, ⟨fb, 0, [.iface src.t src.v, .pointer none, .int .i64 (ro), .int .u32 (((b) : Nat) : Int), .int .u64 (((nb) : Nat) : Int)]⟩, ⟨fb, 1045, [s0, s1, s2, s3, s4, s5, s6, s7, s8]⟩, ⟨fb, 1035, [.pointer (some ⟨ab, 0, none⟩), .pointer (some ⟨cb, 0, none⟩)]⟩, ⟨ab, 0, av⟩, ⟨cb, 0, cs⟩, ⟨fb, 5, cs1⟩, ⟨fb, 520, cs2⟩] ∧ (src.At (dt.drop q) g1 g2 g3) ∧ (BitsIn dt (p) q b nb) ∧ (nb < 8 ∨ nb < 14 + 8) ∧ mm = 14 - nb) (_) ⟨q, b, nb, ro, x1, x2, x3, rfl, rfl, hA, hB, .inl hnb, rfl⟩ ?_
 rintro m0 _ _ ⟨q, b, nb, ro, g1, g2, g3, hk0, rfl, hA, hB, hnl, hm0⟩
 refine C.weaken _ hk0 ?_
 refine C.seq ?_
 refine C.seq ?_
 refine C.region ?_
 refine E.pure (S.move rfl) rfl ?_
 refine E.pure (S.nilPtr rfl) rfl ?_
 refine E.pure (S.field rfl fa153_4) rfl ?_
 refine E.still (S.load 3 (k := 4) rfl rfl rfl Tryd.isAgg92) rfl ?_
 refine E.pure (S.lt (b := ((14 : Nat) : Int)) rfl rfl) rfl ?_
 refine E.keep [0, 23] (env1 := [(0, _), (23, _)]) rfl ?_
 refine C.ifp rfl (fun h23 => ?_) (fun h23 => ?_)
 ·
  refine C.skip ?_
  refine C.block ?_
  refine C.seq ?_
  refine C.region ?_
  refine E.pure (S.move rfl) rfl ?_
  refine E.loud1 (OpX.pick [0, 0, 0, 0] (F := [_, _, _, _, _, _]) rfl (X.call rfl Tryd.call71 (moreBits_e hs src _ _ _ fb _ dt _ _ _ _ hA hB (by omega)))) rfl ?_; rintro _ _ ⟨_, ⟨k1, k2, k3, e4, b4, nb4, ro4, rfl, rfl, hE4⟩, rfl⟩; refine E.relist (L2 := [_, _, _, _, _, _, _, _, _, _]) rfl ?_
  refine E.perml [0, 0, 0, 0, 0, 0, 0, 0, 0, 0] rfl ?_
  refine E.relist (L2 := [_, _, _, _, _, _, _, _, _, _]) rfl ?_
  refine E.pure (S.assign rfl) rfl ?_
  refine E.keep [0, 3, 23] (env1 := [(0, _), (3, _), (23, _)]) rfl ?_
  refine C.seq ?_
  refine C.region ?_
  refine E.pure (S.move rfl) rfl ?_
  refine E.still (S.neErNil rfl) rfl ?_
  refine E.keep [0, 3, 23, 27] (env1 := [(0, _), (3, _), (23, _), (27, _)]) rfl ?_
  first | refine C.ifp rfl (fun h27 => ?_) (fun h27 => ?_) | refine C.ifNone rfl (fun h27 => ?_) (fun h27 => ?_) | refine C.ifSome rfl (fun h27 => ?_) (fun h27 => ?_) | refine C.ifSe rfl (fun h27 => ?_) (fun h27 => ?_) | refine C.ifNotSe rfl (fun h27 => ?_) (fun h27 => ?_) | refine C.cond rfl (fun h27 => ?_) (fun h27 => ?_)
  ·
   obtain ⟨hb5, hqe, lx, hAx⟩ := hE4.resolve_left fun h => h27 h.1
   have hle := hB.left_eq
   refine C.seq ?_
   refine C.region ?_
   refine E.pure (S.move rfl) rfl ?_
   refine E.pure (S.assign rfl) rfl ?_
   refine E.keep [0, 2, 3, 23, 27] (env1 := [(0, _), (2, _), (3, _), (23, _), (27, _)]) rfl ?_
   refine C.ret ?_
   refine ⟨_, rfl, _, [], Same.of_eq (List.append_nil _).symm, _, _, _, _, _, _, _, _, _, _, _, rfl, hasl, ?_, rfl, .inr ⟨hb5, dynR_14 (by omega), ⟨_, hAx⟩, cs1, cs2, raw_len hraw1, raw_len hraw2, rfl⟩⟩
   exact hcsl
  ·
   obtain ⟨_, hA4, hB4, hn4⟩ := hE4.resolve_right fun h => h.1.2 h27
   subst hn4
   refine C.skip ?_
   refine ⟨_, ?_, _, _, _, _, _, _, _, rfl, rfl, hA4, hB4, .inr (by omega), rfl⟩; omega
 ·
  have hn14 : 14 ≤ nb := by omega
  have hb2 := hB.lt32 (by omega)
  have hle := hB.left_eq
  have h14 : ¬ left dt p < 14 := by omega
  have hB5 := hB.take (n := 5) (by omega)
  have hB10 := hB5.2.take (n := 5) (by omega)
  have hB14 := (hB10.2.take (n := 4) (by omega)).2
  have t5 := takeB_lt dt p 5
  have t10 := takeB_lt dt (p + 5) 5
  have t14 := takeB_lt dt (p + 10) 4
  refine C.exit rfl ?_
  refine C.seq ?_
  refine C.region ?_
  refine E.pure (S.move rfl) rfl ?_
  refine E.pure (S.nilPtr rfl) rfl ?_
  refine E.pure (S.field rfl fa153_3) rfl ?_
  refine E.still (S.load 3 (k := 3) rfl rfl rfl Tryd.isAgg52) rfl ?_
  refine E.pure (S.and (b := ((31 : Nat) : Int)) rfl rfl (N.and_u32 (by omega) (by omega))) rfl ?_
  refine E.reslot (v := .int .u32 ((takeB dt p 5 : Nat) : Int)) (congrArg (fun y : Nat => Value.int .u32 (y : Int)) (by exact mask_take (n := 5) hB (by omega))) ?_
  refine E.pure (S.conv rfl Tryd.underlying52 Tryd.underlying3 (N.i64n (by omega))) rfl ?_
  refine E.pure (S.add (b := ((257 : Nat) : Int)) rfl rfl (N.add64 (by omega))) rfl ?_
  refine E.pure (S.assign rfl) rfl ?_
  refine E.keep [0, 4, 23] (env1 := [(0, _), (4, _), (23, _)]) rfl ?_
  refine C.seq ?_
  refine C.seq ?_
  refine C.region ?_
  refine E.pure (S.move rfl) rfl ?_
  refine E.pure (S.gt (b := ((286 : Nat) : Int)) rfl rfl) rfl ?_
  refine E.keep [0, 4, 23, 37] (env1 := [(0, _), (4, _), (23, _), (37, _)]) rfl ?_
  refine C.ifp rfl (fun h37 => ?_) (fun h37 => ?_)
  ·
   refine C.seq ?_
   refine C.region ?_
   refine E.pure (S.move rfl) rfl ?_
   refine E.pure (S.nilPtr rfl) rfl ?_
   refine E.pure (S.field rfl fa153_2) rfl ?_
   refine E.still (S.load 3 (k := 2) rfl rfl rfl Tryd.isAgg2) rfl ?_
   refine E.pure (S.mkIface rfl conc165) rfl ?_
   refine E.reslot (v := Er.val ea (.corrupt _)) (rfl) ?_
   refine E.pure (S.assign rfl) rfl ?_
   refine E.keep [0, 2, 4, 23, 37] (env1 := [(0, _), (2, _), (4, _), (23, _), (37, _)]) rfl ?_
   refine C.ret ?_
   refine ⟨_, rfl, _, [], Same.of_eq (List.append_nil _).symm, _, _, _, _, _, _, _, _, _, _, _, rfl, hasl, ?_, rfl, .inr ⟨bad_corrupt _, dynR_286 h14 (by omega), ⟨_, hA⟩, cs1, cs2, raw_len hraw1, raw_len hraw2, rfl⟩⟩
   exact hcsl
  ·
   have h286 : ¬ 286 < takeB dt p 5 + 257 := by omega
   refine C.skip ?_
   refine C.seq ?_
   refine C.region ?_
   refine E.pure (S.move rfl) rfl ?_
   refine E.pure (S.nilPtr rfl) rfl ?_
   refine E.pure (S.field rfl fa153_3) rfl ?_
   refine E.still (S.load 3 (k := 3) rfl rfl rfl Tryd.isAgg52) rfl ?_
   refine E.pure (S.shr (b := ((5 : Nat) : Int)) rfl rfl (by omega) (N.shr_u32 (by omega) _)) rfl ?_
   refine E.reslot (v := .int .u32 ((b / 2 ^ 5 : Nat) : Int)) (congrArg (fun y : Nat => Value.int .u32 (y : Int)) (by rw [Nat.shiftRight_eq_div_pow])) ?_
   refine E.pure (S.nilPtr rfl) rfl ?_
   refine E.pure (S.field rfl fa153_3) rfl ?_
   refine E.loud0 (X.store 3 (k := 3) rfl rfl rfl rfl rfl Tryd.sizeOf52) ?_; rintro _ _ ⟨rfl, rfl⟩; refine E.relist (L2 := [_, _, _, _, _, _, _, _, _, _]) rfl ?_
   refine E.keep [0, 4, 23, 37] (env1 := [(0, _), (4, _), (23, _), (37, _)]) rfl ?_
   refine C.seq ?_
   refine C.region ?_
   refine E.pure (S.move rfl) rfl ?_
   refine E.pure (S.nilPtr rfl) rfl ?_
   refine E.pure (S.field rfl fa153_3) rfl ?_
   refine E.still (S.load 3 (k := 3) rfl rfl rfl Tryd.isAgg52) rfl ?_
   refine E.pure (S.and (b := ((31 : Nat) : Int)) rfl rfl (N.and_u32 (by omega) (by omega))) rfl ?_
   refine E.reslot (v := .int .u32 ((takeB dt (p + 5) 5 : Nat) : Int)) (congrArg (fun y : Nat => Value.int .u32 (y : Int)) (by exact mask_take (n := 5) hB5.2 (by omega))) ?_
   refine E.pure (S.conv rfl Tryd.underlying52 Tryd.underlying3 (N.i64n (by omega))) rfl ?_
   refine E.pure (S.add (b := ((1 : Nat) : Int)) rfl rfl (N.add64 (by omega))) rfl ?_
   refine E.pure (S.assign rfl) rfl ?_
   refine E.keep [0, 4, 5, 23, 37] (env1 := [(0, _), (4, _), (5, _), (23, _), (37, _)]) rfl ?_
   refine C.seq ?_
   refine C.seq ?_
   refine C.region ?_
   refine E.pure (S.move rfl) rfl ?_
   refine E.pure (S.gt (b := ((30 : Nat) : Int)) rfl rfl) rfl ?_
   refine E.keep [0, 4, 5, 23, 37, 58] (env1 := [(0, _), (4, _), (5, _), (23, _), (37, _), (58, _)]) rfl ?_
   refine C.ifp rfl (fun h58 => ?_) (fun h58 => ?_)
   ·
    refine C.seq ?_
    refine C.region ?_
    refine E.pure (S.move rfl) rfl ?_
    refine E.pure (S.nilPtr rfl) rfl ?_
    refine E.pure (S.field rfl fa153_2) rfl ?_
    refine E.still (S.load 3 (k := 2) rfl rfl rfl Tryd.isAgg2) rfl ?_
    refine E.pure (S.mkIface rfl conc165) rfl ?_
    refine E.reslot (v := Er.val ea (.corrupt _)) (rfl) ?_
    refine E.pure (S.assign rfl) rfl ?_
    refine E.keep [0, 2, 4, 5, 23, 37, 58] (env1 := [(0, _), (2, _), (4, _), (5, _), (23, _), (37, _), (58, _)]) rfl ?_
    refine C.ret ?_
    refine ⟨_, rfl, _, [], Same.of_eq (List.append_nil _).symm, _, _, _, _, _, _, _, _, _, _, _, rfl, hasl, ?_, rfl, .inr ⟨bad_corrupt _, dynR_30 h14 h286 (by omega), ⟨_, hA⟩, cs1, cs2, raw_len hraw1, raw_len hraw2, rfl⟩⟩
    exact hcsl
   ·
    have h30 : ¬ 30 < takeB dt (p + 5) 5 + 1 := by omega
    refine C.skip ?_
    refine C.seq ?_
    refine C.region ?_
    refine E.pure (S.move rfl) rfl ?_
    refine E.pure (S.nilPtr rfl) rfl ?_
    refine E.pure (S.field rfl fa153_3) rfl ?_
    refine E.still (S.load 3 (k := 3) rfl rfl rfl Tryd.isAgg52) rfl ?_
    refine E.pure (S.shr (b := ((5 : Nat) : Int)) rfl rfl (by omega) (N.shr_u32 (by omega) _)) rfl ?_
    refine E.reslot (v := .int .u32 ((b / 2 ^ 5 / 2 ^ 5 : Nat) : Int)) (congrArg (fun y : Nat => Value.int .u32 (y : Int)) (by rw [Nat.shiftRight_eq_div_pow])) ?_
    refine E.pure (S.nilPtr rfl) rfl ?_
    refine E.pure (S.field rfl fa153_3) rfl ?_
    refine E.loud0 (X.store 3 (k := 3) rfl rfl rfl rfl rfl Tryd.sizeOf52) ?_; rintro _ _ ⟨rfl, rfl⟩; refine E.relist (L2 := [_, _, _, _, _, _, _, _, _, _]) rfl ?_
    refine E.keep [0, 4, 5, 23, 37, 58] (env1 := [(0, _), (4, _), (5, _), (23, _), (37, _), (58, _)]) rfl ?_
    refine C.seq ?_
    refine C.region ?_
    refine E.pure (S.move rfl) rfl ?_
    refine E.pure (S.nilPtr rfl) rfl ?_
    refine E.pure (S.field rfl fa153_3) rfl ?_
    refine E.still (S.load 3 (k := 3) rfl rfl rfl Tryd.isAgg52) rfl ?_
    refine E.pure (S.and (b := ((15 : Nat) : Int)) rfl rfl (N.and_u32 (by omega) (by omega))) rfl ?_
    refine E.reslot (v := .int .u32 ((takeB dt (p + 10) 4 : Nat) : Int)) (congrArg (fun y : Nat => Value.int .u32 (y : Int)) (by exact mask_take (n := 4) hB10.2 (by omega))) ?_
    refine E.pure (S.conv rfl Tryd.underlying52 Tryd.underlying3 (N.i64n (by omega))) rfl ?_
    refine E.pure (S.add (b := ((4 : Nat) : Int)) rfl rfl (N.add64 (by omega))) rfl ?_
    refine E.pure (S.assign rfl) rfl ?_
    refine E.keep [0, 4, 5, 6, 23, 37, 58] (env1 := [(0, _), (4, _), (5, _), (6, _), (23, _), (37, _), (58, _)]) rfl ?_
    refine C.seq ?_
    refine C.region ?_
    refine E.pure (S.move rfl) rfl ?_
    refine E.pure (S.nilPtr rfl) rfl ?_
    refine E.pure (S.field rfl fa153_3) rfl ?_
    refine E.still (S.load 3 (k := 3) rfl rfl rfl Tryd.isAgg52) rfl ?_
    refine E.pure (S.shr (b := ((4 : Nat) : Int)) rfl rfl (by omega) (N.shr_u32 (by omega) _)) rfl ?_
    refine E.reslot (v := .int .u32 ((b / 2 ^ 5 / 2 ^ 5 / 2 ^ 4 : Nat) : Int)) (congrArg (fun y : Nat => Value.int .u32 (y : Int)) (by rw [Nat.shiftRight_eq_div_pow])) ?_
    refine E.pure (S.nilPtr rfl) rfl ?_
    refine E.pure (S.field rfl fa153_3) rfl ?_
    refine E.loud0 (X.store 3 (k := 3) rfl rfl rfl rfl rfl Tryd.sizeOf52) ?_; rintro _ _ ⟨rfl, rfl⟩; refine E.relist (L2 := [_, _, _, _, _, _, _, _, _, _]) rfl ?_
    refine E.keep [0, 4, 5, 6, 23, 37, 58] (env1 := [(0, _), (4, _), (5, _), (6, _), (23, _), (37, _), (58, _)]) rfl ?_
    refine C.seq ?_
    refine C.region ?_
    refine E.pure (S.move rfl) rfl ?_
    refine E.pure (S.nilPtr rfl) rfl ?_
    refine E.pure (S.field rfl fa153_4) rfl ?_
    refine E.still (S.load 3 (k := 4) rfl rfl rfl Tryd.isAgg92) rfl ?_
    refine E.pure (S.sub (b := ((14 : Nat) : Int)) rfl rfl (N.sub_u64 (by omega) (by omega))) rfl ?_
    refine E.reslot (v := .int .u64 ((nb - 5 - 5 - 4 : Nat) : Int)) (congrArg (fun y : Nat => Value.int .u64 (y : Int)) (by omega)) ?_
    refine E.pure (S.nilPtr rfl) rfl ?_
    refine E.pure (S.field rfl fa153_4) rfl ?_
    refine E.loud0 (X.store 3 (k := 4) rfl rfl rfl rfl rfl Tryd.sizeOf92) ?_; rintro _ _ ⟨rfl, rfl⟩; refine E.relist (L2 := [_, _, _, _, _, _, _, _, _, _]) rfl ?_
    refine E.keep [0, 4, 5, 6, 23, 37, 58] (env1 := [(0, _), (4, _), (5, _), (6, _), (23, _), (37, _), (58, _)]) rfl ?_
    refine C.seq ?_
    refine C.seq ?_
    refine C.region ?_
    refine E.pure (S.assign rfl) rfl ?_
    refine E.keep [0, 4, 5, 6, 7, 23, 37, 58] (env1 := [(0, _), (4, _), (5, _), (6, _), (7, _), (23, _), (37, _), (58, _)]) rfl ?_
    refine C.block ?_
    refine C.loop (fun mm ee ll => ∃ (i : Nat), ∃ (cs : List Value), ∃ (q : Nat), ∃ (b : Nat), ∃ (nb : Nat), ∃ (ro : Int), ∃ (g1 : Frag), ∃ (g2 : Frag), ∃ (g3 : Frag), keeps ee [0, 4, 5, 6, 7] = some [(0, .pointer (some ⟨fb, 0, none⟩)), (4, .int .i64 ((takeB dt p 5 + 257 : Nat) : Int)), (5, .int .i64 ((takeB dt (p + 5) 5 + 1 : Nat) : Int)), (6, .int .i64 ((takeB dt (p + 10) 4 + 4 : Nat) : Int)), (7, .int .i64 ((i : Nat) : Int))] ∧ ll = [g1, g2, g3, ⟨fb, 0, [.iface src.t src.v, .pointer none, .int .i64 (ro), .int .u32 (((b) : Nat) : Int), .int .u64 (((nb) : Nat) : Int)]⟩, ⟨fb, 1045, [s0, s1, s2, s3, s4, s5, s6, s7, s8]⟩, ⟨fb, 1035, [.pointer (some ⟨ab, 0, none⟩), .pointer (some ⟨cb, 0, none⟩)]⟩, ⟨ab, 0, av⟩, ⟨cb, 0, cs⟩, ⟨fb, 5, cs1⟩, ⟨fb, 520, cs2⟩] ∧ (src.At (dt.drop q) g1 g2 g3) ∧ (BitsIn dt (p + 14 + 3 * i) q b nb) ∧ (nb < 8) ∧ (i ≤ takeB dt (p + 10) 4 + 4) ∧ (CbOk dt (p + 14) (takeB dt (p + 10) 4 + 4) i cs) ∧ mm = takeB dt (p + 10) 4 + 4 - i) (_) ⟨0, cs, q, _, _, _, _, _, _, rfl, rfl, hA, hB14, by omega, by omega, ⟨hcsl, fun s _ h => by omega⟩, rfl⟩ ?_
    rintro m1 _ _ ⟨i, cs, q, b, nb, ro, g1, g2, g3, hk1, rfl, hA, hB, hnb, hi, hcb, hm1⟩
    refine C.weaken _ hk1 ?_
    refine C.seq ?_
    refine C.seq ?_
    refine C.region ?_
    refine E.pure (S.move rfl) rfl ?_
    refine E.pure (S.move rfl) rfl ?_
    refine E.pure (S.lt rfl rfl) rfl ?_
    refine E.keep [0, 4, 5, 6, 7, 94] (env1 := [(0, _), (4, _), (5, _), (6, _), (7, _), (94, _)]) rfl ?_
    refine C.ifp rfl (fun h94 => ?_) (fun h94 => ?_)
    ·
     have hi19 : i < 19 := by omega
     have hoi := (ord_idx i hi19).2
     refine C.skip ?_
     refine C.seq ?_
     refine C.block ?_
     refine C.seq ?_
     refine C.block ?_
     refine C.loop (fun mm ee ll => ∃ (q : Nat), ∃ (b : Nat), ∃ (nb : Nat), ∃ (ro : Int), ∃ (g1 : Frag), ∃ (g2 : Frag), ∃ (g3 : Frag), keeps ee [0, 4, 5, 6, 7] = some [(0, .pointer (some ⟨fb, 0, none⟩)), (4, .int .i64 ((takeB dt p 5 + 257 : Nat) : Int)), (5, .int .i64 ((takeB dt (p + 5) 5 + 1 : Nat) : Int)), (6, .int .i64 ((takeB dt (p + 10) 4 + 4 : Nat) : Int)), (7, .int .i64 ((i : Nat) : Int))] ∧ ll = [g1, g2, g3, ⟨fb, 0, [.iface src.t src.v, .pointer none, .int .i64 (ro), .int .u32 (((b) : Nat) : Int), .int .u64 (((nb) : Nat) : Int)]⟩, ⟨fb, 1045, [s0, s1, s2, s3, s4, s5, s6, s7, s8]⟩, ⟨fb, 1035, [.pointer (some ⟨ab, 0, none⟩), .pointer (some ⟨cb, 0, none⟩)]⟩, ⟨ab, 0, av⟩, ⟨cb, 0, cs⟩, ⟨fb, 5, cs1⟩, ⟨fb, 520, cs2⟩] ∧ (src.At (dt.drop q) g1 g2 g3) ∧ (BitsIn dt (p + 14 + 3 * i) q b nb) ∧ (nb < 8 ∨ nb < 3 + 8) ∧ mm = 3 - nb) (_) ⟨q, b, nb, ro, g1, g2, g3, rfl, rfl, hA, hB, .inl hnb, rfl⟩ ?_
     rintro m2 _ _ ⟨q, b, nb, ro, g1, g2, g3, hk2, rfl, hA, hB, hnl, hm2⟩
     refine C.weaken _ hk2 ?_
     refine C.seq ?_
     refine C.seq ?_
     refine C.region ?_
     refine E.pure (S.move rfl) rfl ?_
     refine E.pure (S.nilPtr rfl) rfl ?_
     refine E.pure (S.field rfl fa153_4) rfl ?_
     refine E.still (S.load 3 (k := 4) rfl rfl rfl Tryd.isAgg92) rfl ?_
     refine E.pure (S.lt (b := ((3 : Nat) : Int)) rfl rfl) rfl ?_
     refine E.keep [0, 4, 5, 6, 7, 101] (env1 := [(0, _), (4, _), (5, _), (6, _), (7, _), (101, _)]) rfl ?_
     refine C.ifp rfl (fun h101 => ?_) (fun h101 => ?_)
     ·
      refine C.skip ?_
      refine C.block ?_
      refine C.seq ?_
      refine C.region ?_
      refine E.pure (S.move rfl) rfl ?_
      refine E.loud1 (OpX.pick [0, 0, 0, 0] (F := [_, _, _, _, _, _]) rfl (X.call rfl Tryd.call71 (moreBits_e hs src _ _ _ fb _ dt _ _ _ _ hA hB (by omega)))) rfl ?_; rintro _ _ ⟨_, ⟨k1, k2, k3, e4, b4, nb4, ro4, rfl, rfl, hE4⟩, rfl⟩; refine E.relist (L2 := [_, _, _, _, _, _, _, _, _, _]) rfl ?_
      refine E.perml [0, 0, 0, 0, 0, 0, 0, 0, 0, 0] rfl ?_
      refine E.relist (L2 := [_, _, _, _, _, _, _, _, _, _]) rfl ?_
      refine E.pure (S.assign rfl) rfl ?_
      refine E.keep [0, 4, 5, 6, 7, 8, 101] (env1 := [(0, _), (4, _), (5, _), (6, _), (7, _), (8, _), (101, _)]) rfl ?_
      refine C.seq ?_
      refine C.region ?_
      refine E.pure (S.move rfl) rfl ?_
      refine E.still (S.neErNil rfl) rfl ?_
      refine E.keep [0, 4, 5, 6, 7, 8, 101, 105] (env1 := [(0, _), (4, _), (5, _), (6, _), (7, _), (8, _), (101, _), (105, _)]) rfl ?_
      first | refine C.ifp rfl (fun h105 => ?_) (fun h105 => ?_) | refine C.ifNone rfl (fun h105 => ?_) (fun h105 => ?_) | refine C.ifSome rfl (fun h105 => ?_) (fun h105 => ?_) | refine C.ifSe rfl (fun h105 => ?_) (fun h105 => ?_) | refine C.ifNotSe rfl (fun h105 => ?_) (fun h105 => ?_) | refine C.cond rfl (fun h105 => ?_) (fun h105 => ?_)
      ·
       obtain ⟨hb5, hqe, lx, hAx⟩ := hE4.resolve_left fun h => h105 h.1
       have hle := hB.left_eq
       refine C.seq ?_
       refine C.region ?_
       refine E.pure (S.move rfl) rfl ?_
       refine E.pure (S.assign rfl) rfl ?_
       refine E.keep [0, 2, 4, 5, 6, 7, 8, 101, 105] (env1 := [(0, _), (2, _), (4, _), (5, _), (6, _), (7, _), (8, _), (101, _), (105, _)]) rfl ?_
       refine C.ret ?_
       refine ⟨_, rfl, _, [], Same.of_eq (List.append_nil _).symm, _, _, _, _, _, _, _, _, _, _, _, rfl, hasl, ?_, rfl, .inr ⟨hb5, dynR_cl h14 h286 h30 (by rw [left_add] at hle; omega), ⟨_, hAx⟩, cs1, cs2, raw_len hraw1, raw_len hraw2, rfl⟩⟩
       first | exact hcsl | exact hcb.len
      ·
       obtain ⟨_, hA4, hB4, hn4⟩ := hE4.resolve_right fun h => h.1.2 h105
       subst hn4
       refine C.skip ?_
       refine ⟨_, ?_, _, _, _, _, _, _, _, rfl, rfl, hA4, hB4, .inr (by omega), rfl⟩; omega
     ·
      have hn3 : 3 ≤ nb := by omega
      have hb2 := hB.lt32 (by omega)
      have t3 := takeB_lt dt (p + 14 + 3 * i) 3
      refine C.exit rfl ?_
      refine C.seq ?_
      refine C.draw [0, 1, 2, 4, 0, 16, 32, 0, 128, 256, 512, 1024, 2048, 8, 16383, 24575] (.pure 0 8176 (.pure 1 8177 (.pure 2 8179 (.pure 4 16271 (.pure 5 16287 (.pure 7 8319 (.pure 8 8447 (.pure 9 8703 (.seg [(3, 8183), (6, 16319), (10, 9215), (11, 10239), (12, 12287), (13, 8191), (14, 16383)] (.alt 15 .done .stop)))))))))) mixed (by decide +kernel) ?_
      refine D.pure rfl (S.move rfl) rfl ?_
      refine D.pure rfl (S.nilPtr rfl) rfl ?_
      refine D.pure rfl (S.field rfl fa153_8) rfl ?_
      refine D.pure rfl (S.move rfl) rfl ?_
      refine D.pure rfl (S.ixArr rfl rfl (by omega) Tryd.underlying156 Tryd.sizeOf3) rfl ?_
      refine D.pure rfl (S.move rfl) rfl ?_
      refine D.pure rfl (S.nilPtr rfl) rfl ?_
      refine D.pure rfl (S.field rfl fa153_3) rfl ?_
      refine D.seg (by decide) ?_
      refine W.still rfl (S.load 5 (k := 1) rfl rfl rfl Tryd.isAgg146) rfl ?_
      refine W.still rfl (S.loadBase rfl (hc.cell i hi19) Tryd.isAgg3) rfl ?_
      refine W.still rfl (S.load 3 (k := 3) rfl rfl rfl Tryd.isAgg52) rfl ?_
      refine W.pure rfl (S.and (b := ((7 : Nat) : Int)) rfl rfl (N.and_u32 (by omega) (by omega))) rfl ?_
      refine W.reslot (v := .int .u32 ((takeB dt (p + 14 + 3 * i) 3 : Nat) : Int)) (congrArg (fun y : Nat => Value.int .u32 (y : Int)) (by exact mask_take (n := 3) hB (by omega))) ?_
      refine W.pure rfl (S.conv rfl Tryd.underlying52 Tryd.underlying3 (N.i64n (by omega))) rfl ?_
      refine W.pure rfl (S.nilPtr rfl) rfl ?_
      refine W.pure rfl (S.ixArr rfl rfl (by omega) Tryd.underlying156 Tryd.sizeOf3) rfl ?_
      refine W.nil ?_
      refine D.one ?_
      refine O.loud0 rfl (X.store 7 (k := ordL.getD i 0 * 1) rfl rfl rfl rfl (by rw [Nat.blt_eq, hcb.len]; omega) Tryd.sizeOf3) ?_; rintro _ _ ⟨rfl, rfl⟩; refine D.relist (L2 := [_, _, _, _, _, _, _, _, _, _]) rfl ?_
      refine D.keep [0, 4, 5, 6, 7, 101] (env1 := [(0, _), (4, _), (5, _), (6, _), (7, _), (101, _)]) rfl ?_
      refine C.seq ?_
      refine C.region ?_
      refine E.pure (S.move rfl) rfl ?_
      refine E.pure (S.nilPtr rfl) rfl ?_
      refine E.pure (S.field rfl fa153_3) rfl ?_
      refine E.still (S.load 3 (k := 3) rfl rfl rfl Tryd.isAgg52) rfl ?_
      refine E.pure (S.shr (b := ((3 : Nat) : Int)) rfl rfl (by omega) (N.shr_u32 (by omega) _)) rfl ?_
      refine E.reslot (v := .int .u32 ((b / 2 ^ 3 : Nat) : Int)) (congrArg (fun y : Nat => Value.int .u32 (y : Int)) (by rw [Nat.shiftRight_eq_div_pow])) ?_
      refine E.pure (S.nilPtr rfl) rfl ?_
      refine E.pure (S.field rfl fa153_3) rfl ?_
      refine E.loud0 (X.store 3 (k := 3) rfl rfl rfl rfl rfl Tryd.sizeOf52) ?_; rintro _ _ ⟨rfl, rfl⟩; refine E.relist (L2 := [_, _, _, _, _, _, _, _, _, _]) rfl ?_
      refine E.keep [0, 4, 5, 6, 7, 101] (env1 := [(0, _), (4, _), (5, _), (6, _), (7, _), (101, _)]) rfl ?_
      refine C.region ?_
      refine E.pure (S.move rfl) rfl ?_
      refine E.pure (S.nilPtr rfl) rfl ?_
      refine E.pure (S.field rfl fa153_4) rfl ?_
      refine E.still (S.load 3 (k := 4) rfl rfl rfl Tryd.isAgg92) rfl ?_
      refine E.pure (S.sub (b := ((3 : Nat) : Int)) rfl rfl (N.sub_u64 (by omega) (by omega))) rfl ?_
      refine E.pure (S.nilPtr rfl) rfl ?_
      refine E.pure (S.field rfl fa153_4) rfl ?_
      refine E.loud0 (X.store 3 (k := 4) rfl rfl rfl rfl rfl Tryd.sizeOf92) ?_; rintro _ _ ⟨rfl, rfl⟩; refine E.relist (L2 := [_, _, _, _, _, _, _, _, _, _]) rfl ?_
      refine E.keep [0, 4, 5, 6, 7, 101] (env1 := [(0, _), (4, _), (5, _), (6, _), (7, _), (101, _)]) rfl ?_
      refine C.region ?_
      refine E.pure (S.move rfl) rfl ?_
      refine E.pure (S.add (b := ((1 : Nat) : Int)) rfl rfl (N.add64 (by omega))) rfl ?_
      refine E.pure (S.assign rfl) rfl ?_
      refine E.keep [0, 4, 5, 6, 7, 101] (env1 := [(0, _), (4, _), (5, _), (6, _), (7, _), (101, _)]) rfl ?_
      refine ⟨_, ?_, i + 1, _, _, _, _, _, _, _, _, rfl, rfl, hA, (by rw [show p + 14 + 3 * (i + 1) = p + 14 + 3 * i + 3 by omega]; exact (hB.take (n := 3) (by omega)).2), by omega, by omega, (hcb.next hi19 (by rw [clv, (ord_idx i hi19).1, if_pos (by omega)])), rfl⟩; omega
    ·
     have hiN : i = takeB dt (p + 10) 4 + 4 := by omega
     subst hiN
     have hcl3 : ¬ left dt (p + 14) < 3 * (takeB dt (p + 10) 4 + 4) := by have := hB.at8; have := hB.le; unfold left; omega
     refine C.exit rfl ?_
     refine C.seq ?_
     refine C.seq ?_
     refine C.region ?_
     refine E.pure (S.move rfl) rfl ?_
     refine E.pure (S.assign rfl) rfl ?_
     refine E.keep [0, 4, 5, 6, 7, 9, 94] (env1 := [(0, _), (4, _), (5, _), (6, _), (7, _), (9, _), (94, _)]) rfl ?_
     refine C.block ?_
     refine C.loop (fun mm ee ll => ∃ (i : Nat), ∃ (cs : List Value), keeps ee [0, 4, 5, 9] = some [(0, .pointer (some ⟨fb, 0, none⟩)), (4, .int .i64 ((takeB dt p 5 + 257 : Nat) : Int)), (5, .int .i64 ((takeB dt (p + 5) 5 + 1 : Nat) : Int)), (9, .int .i64 ((i : Nat) : Int))] ∧ ll = [g1, g2, g3, ⟨fb, 0, [.iface src.t src.v, .pointer none, .int .i64 (ro), .int .u32 (((b) : Nat) : Int), .int .u64 (((nb) : Nat) : Int)]⟩, ⟨fb, 1045, [s0, s1, s2, s3, s4, s5, s6, s7, s8]⟩, ⟨fb, 1035, [.pointer (some ⟨ab, 0, none⟩), .pointer (some ⟨cb, 0, none⟩)]⟩, ⟨ab, 0, av⟩, ⟨cb, 0, cs⟩, ⟨fb, 5, cs1⟩, ⟨fb, 520, cs2⟩] ∧ (takeB dt (p + 10) 4 + 4 ≤ i) ∧ (i ≤ 19) ∧ (CbOk dt (p + 14) (takeB dt (p + 10) 4 + 4) i cs) ∧ mm = 19 - i) (_) ⟨takeB dt (p + 10) 4 + 4, cs, rfl, rfl, Nat.le_refl _, by omega, hcb, rfl⟩ ?_
     rintro m3 _ _ ⟨i, cs, hk3, rfl, hi, hi9, hcb, hm3⟩
     refine C.weaken _ hk3 ?_
     refine C.seq ?_
     refine C.seq ?_
     refine C.region ?_
     refine E.pure (S.move rfl) rfl ?_
     refine E.pure (S.lt (b := ((19 : Nat) : Int)) rfl rfl) rfl ?_
     refine E.keep [0, 4, 5, 9, 138] (env1 := [(0, _), (4, _), (5, _), (9, _), (138, _)]) rfl ?_
     refine C.ifp rfl (fun h138 => ?_) (fun h138 => ?_)
     ·
      have hi19 : i < 19 := by omega
      have hoi := (ord_idx i hi19).2
      refine C.skip ?_
      refine C.seq ?_
      refine C.block ?_
      refine C.draw [0, 1, 2, 4, 0, 16, 32, 8, 255, 383] (.pure 0 112 (.pure 1 113 (.pure 2 115 (.pure 4 143 (.pure 5 159 (.seg [(3, 119), (6, 191), (7, 127), (8, 255)] (.alt 9 .done .stop))))))) mixed (by decide +kernel) ?_
      refine D.pure rfl (S.move rfl) rfl ?_
      refine D.pure rfl (S.nilPtr rfl) rfl ?_
      refine D.pure rfl (S.field rfl fa153_8) rfl ?_
      refine D.pure rfl (S.move rfl) rfl ?_
      refine D.pure rfl (S.ixArr rfl rfl (by omega) Tryd.underlying156 Tryd.sizeOf3) rfl ?_
      refine D.seg (by decide) ?_
      refine W.still rfl (S.load 5 (k := 1) rfl rfl rfl Tryd.isAgg146) rfl ?_
      refine W.still rfl (S.loadBase rfl (hc.cell i hi19) Tryd.isAgg3) rfl ?_
      refine W.pure rfl (S.nilPtr rfl) rfl ?_
      refine W.pure rfl (S.ixArr rfl rfl (by omega) Tryd.underlying156 Tryd.sizeOf3) rfl ?_
      refine W.nil ?_
      refine D.one ?_
      refine O.loud0 rfl (X.store 7 (k := ordL.getD i 0 * 1) rfl rfl rfl rfl (by rw [Nat.blt_eq, hcb.len]; omega) Tryd.sizeOf3) ?_; rintro _ _ ⟨rfl, rfl⟩; refine D.relist (L2 := [_, _, _, _, _, _, _, _, _, _]) rfl ?_
      refine D.keep [0, 4, 5, 9, 138] (env1 := [(0, _), (4, _), (5, _), (9, _), (138, _)]) rfl ?_
      refine C.region ?_
      refine E.pure (S.move rfl) rfl ?_
      refine E.pure (S.add (b := ((1 : Nat) : Int)) rfl rfl (N.add64 (by omega))) rfl ?_
      refine E.pure (S.assign rfl) rfl ?_
      refine E.keep [0, 4, 5, 9, 138] (env1 := [(0, _), (4, _), (5, _), (9, _), (138, _)]) rfl ?_
      refine ⟨_, ?_, i + 1, _, rfl, rfl, by omega, by omega, (hcb.next hi19 (by rw [clv, (ord_idx i hi19).1, if_neg (by omega)])), rfl⟩; omega
     ·
      have hi19 : i = 19 := by omega
      subst hi19
      refine C.exit rfl ?_
      refine C.seq ?_
      refine C.seq ?_
      have hcs := hcb.full
      have hcl9 := hcb.len
      rw [hcs] at hcl9
      subst hcs
      refine C.perml [8, 7] rfl ?_
      refine C.relist (L2 := [_, _, _, _, _, _, _, _, _, _]) rfl ?_
      refine C.draw [0, 1, 2, 0, 8, 16, 32, 64, 128, 260, 512] (.pure 0 504 (.pure 1 505 (.pure 2 507 (.pure 3 7 (.pure 4 15 (.pure 5 31 (.seg [(6, 63), (7, 127), (8, 255)] (.alt 9 (.pure 10 1023 .done) .stop)))))))) mixed (by decide +kernel) ?_
      refine D.pure rfl (S.move rfl) rfl ?_
      refine D.pure rfl (S.nilPtr rfl) rfl ?_
      refine D.pure rfl (S.field rfl fa153_5) rfl ?_
      refine D.pure rfl (S.move rfl) rfl ?_
      refine D.pure rfl (S.nilPtr rfl) rfl ?_
      refine D.pure rfl (S.field rfl fa153_8) rfl ?_
      refine D.seg (by decide) ?_
      refine W.still rfl (S.load 7 (k := 1) rfl rfl rfl Tryd.isAgg146) rfl ?_
      refine W.pure rfl (S.nilPtr rfl) rfl ?_
      refine W.pure rfl (S.slArr (l := 0) (h := 19) (k' := .i64) rfl rfl rfl (by omega) (by omega) Tryd.underlying156 Tryd.sizeOf3) rfl ?_
      refine W.reslot (v := .slice (some ⟨cb, 0, none⟩) ((clL dt (p + 14) (takeB dt (p + 10) 4 + 4)).length) (19)) (slice_to (by simp [part]) (clL_len _ _ _).symm rfl) ?_
      refine W.nil ?_
      refine D.one ?_
      refine O.loud1 rfl (X.call rfl Tryd.call80 (init_in fb 5 cb 0 19 _ [] (clL dt (p + 14) (takeB dt (p + 10) 4 + 4)) hraw1 (clL_le _ _ _) (by rw [clL_len]; decide) _)) rfl ?_; rintro _ _ ⟨LC, ok1, rfl, hC, rfl⟩; refine D.relist (L2 := (_ :: _ :: _ :: _ :: _ :: _ :: _ :: _ :: _ :: _)) rfl ?_
      refine D.pure rfl (S.notB rfl) rfl ?_
      refine D.keep [0, 4, 5, 9, 138, 160] (env1 := [(0, _), (4, _), (5, _), (9, _), (138, _), (160, _)]) rfl ?_
      first | refine C.ifp rfl (fun h160 => ?_) (fun h160 => ?_) | refine C.ifNone rfl (fun h160 => ?_) (fun h160 => ?_) | refine C.ifSome rfl (fun h160 => ?_) (fun h160 => ?_) | refine C.ifSe rfl (fun h160 => ?_) (fun h160 => ?_) | refine C.ifNotSe rfl (fun h160 => ?_) (fun h160 => ?_) | refine C.cond rfl (fun h160 => ?_) (fun h160 => ?_)
      ·
       obtain ⟨_, hno, hz, hzl, rfl⟩ := hC.resolve_left (fun h => by rw [h.1] at h160; cases h160)
       refine C.seq ?_
       refine C.region ?_
       refine E.pure (S.move rfl) rfl ?_
       refine E.pure (S.nilPtr rfl) rfl ?_
       refine E.pure (S.field rfl fa153_2) rfl ?_
       refine E.still (S.load 4 (k := 2) rfl rfl rfl Tryd.isAgg2) rfl ?_
       refine E.pure (S.mkIface rfl conc165) rfl ?_
       refine E.reslot (v := Er.val ea (.corrupt _)) (rfl) ?_
       refine E.pure (S.assign rfl) rfl ?_
       refine E.keep [0, 2, 4, 5, 9, 138, 160] (env1 := [(0, _), (2, _), (4, _), (5, _), (9, _), (138, _), (160, _)]) rfl ?_
       refine C.ret ?_
       refine ⟨_, rfl, _, [], (Same.perm (picks_perm (A := [_, _, _, _, _, _, _, _, _, _]) (F := []) (is := [1, 1, 1, 1, 1, 1, 1, 0, 1, 0]) rfl)).trans (Same.of_eq rfl), _, _, _, _, _, _, _, _, _, _, _, rfl, hasl, ?_, rfl, .inr ⟨bad_corrupt _, ?_, ⟨_, hA⟩, hz, cs2, hzl, raw_len hraw2, rfl⟩⟩
       · exact hcl9
       · rw [dynR_eq h14 h286 h30 hcl3, if_pos hno]
      ·
       obtain ⟨_, hok, hC1⟩ := hC.resolve_right (fun h => by rw [h.1] at h160; cases h160)
       have hmin15 := min_15 (le_lenOf (clL_le dt (p + 14) (takeB dt (p + 10) 4 + 4)))
       have hdy := dynR_eq h14 h286 h30 hcl3
       rw [if_neg (fun h => h hok)] at hdy
       refine C.skip ?_
       refine C.seq ?_
       refine C.seq ?_
       refine C.perml [1, 1, 1, 1, 1, 1, 1, 0] rfl ?_
       refine C.relist (L2 := _ :: _ :: _ :: _ :: _ :: _ :: _ :: _ :: _ :: _) rfl ?_
       refine C.region ?_
       refine E.pure (S.move rfl) rfl ?_
       refine E.pure (S.move rfl) rfl ?_
       refine E.pure (S.add rfl rfl (N.add64 (by omega))) rfl ?_
       refine E.pure (S.assign rfl) rfl ?_
       refine E.pure (S.assign rfl) rfl ?_
       refine E.keep [0, 4, 5, 9, 10, 11, 138, 160] (env1 := [(0, _), (4, _), (5, _), (9, _), (10, _), (11, _), (138, _), (160, _)]) rfl ?_
       refine C.block ?_
       refine C.loop (fun mm ee ll => ∃ (acc : List Nat), ∃ (rest : List Value), ∃ (pp : Nat), ∃ (i : Nat), ∃ (q : Nat), ∃ (b : Nat), ∃ (nb : Nat), ∃ (ro : Int), ∃ (g1 : Frag), ∃ (g2 : Frag), ∃ (g3 : Frag), keeps ee [0, 4, 5, 10, 11] = some [(0, .pointer (some ⟨fb, 0, none⟩)), (4, .int .i64 ((takeB dt p 5 + 257 : Nat) : Int)), (5, .int .i64 ((takeB dt (p + 5) 5 + 1 : Nat) : Int)), (10, .int .i64 ((i : Nat) : Int)), (11, .int .i64 ((takeB dt p 5 + 257 + (takeB dt (p + 5) 5 + 1) : Nat) : Int))] ∧ ll = [g1, g2, g3, ⟨fb, 0, [.iface src.t src.v, .pointer none, .int .i64 (ro), .int .u32 (((b) : Nat) : Int), .int .u64 (((nb) : Nat) : Int)]⟩, ⟨fb, 1045, [s0, s1, s2, s3, s4, s5, s6, s7, s8]⟩, ⟨fb, 1035, [.pointer (some ⟨ab, 0, none⟩), .pointer (some ⟨cb, 0, none⟩)]⟩, ⟨ab, 0, intsV acc ++ rest⟩, ⟨cb, 0, intsV (clL dt (p + 14) (takeB dt (p + 10) 4 + 4)) ++ []⟩, ⟨fb, 520, cs2⟩] ++ LC ∧ (src.At (dt.drop q) g1 g2 g3) ∧ (BitsIn dt pp q b nb) ∧ (nb < 8) ∧ (lensGo dt (clL dt (p + 14) (takeB dt (p + 10) 4 + 4)) (takeB dt p 5 + 257 + (takeB dt (p + 5) 5 + 1)) [] (p + 14 + 3 * (takeB dt (p + 10) 4 + 4)) = lensGo dt (clL dt (p + 14) (takeB dt (p + 10) 4 + 4)) (takeB dt p 5 + 257 + (takeB dt (p + 5) 5 + 1)) acc pp) ∧ (i = acc.length) ∧ (acc.length ≤ takeB dt p 5 + 257 + (takeB dt (p + 5) 5 + 1)) ∧ (acc.length + rest.length = 316) ∧ (∀ x ∈ acc, x ≤ 15) ∧ mm = takeB dt p 5 + 257 + (takeB dt (p + 5) 5 + 1) - acc.length) (_) ⟨[], av, p + 14 + 3 * (takeB dt (p + 10) 4 + 4), 0, _, _, _, _, _, _, _, rfl, rfl, hA, hB, hnb, rfl, rfl, (by simp), (by simpa using hasl), (fun x h => by cases h), rfl⟩ ?_
       rintro m4 _ _ ⟨acc, rest, pp, i, q, b, nb, ro, g1, g2, g3, hk4, rfl, hA, hB, hnb, hgo, hia, hal, hrl, ha15, hm4⟩
       refine C.weaken _ hk4 ?_
       subst hia
       refine C.seq ?_
       refine C.seq ?_
       refine C.region ?_
       refine E.pure (S.move rfl) rfl ?_
       refine E.pure (S.move rfl) rfl ?_
       refine E.pure (S.lt rfl rfl) rfl ?_
       refine E.keep [0, 4, 5, 10, 11, 171] (env1 := [(0, _), (4, _), (5, _), (10, _), (11, _), (171, _)]) rfl ?_
       refine C.ifp rfl (fun h171 => ?_) (fun h171 => ?_)
       ·
        refine C.skip ?_
        refine C.block ?_
        refine C.seq ?_
        refine C.region ?_
        refine E.pure (S.move rfl) rfl ?_
        refine E.pure (S.move rfl) rfl ?_
        refine E.pure (S.nilPtr rfl) rfl ?_
        refine E.pure (S.field rfl fa153_5) rfl ?_
        refine E.loud1 (X.call rfl Tryd.call81 (huffSym_end hs src _ _ _ fb _ _ _ _ _ _ _ _ _ _ fb 5 dt _ _ _ _ hA hB (by omega) (clL dt (p + 14) (takeB dt (p + 10) 4 + 4)) (minL (clL dt (p + 14) (takeB dt (p + 10) 4 + 4))) hok (le_lenOf (clL_le _ _ _)) (Nat.le_refl _) hmin15 LC [⟨fb, 1035, [.pointer (some ⟨ab, 0, none⟩), .pointer (some ⟨cb, 0, none⟩)]⟩, ⟨ab, 0, intsV acc ++ rest⟩, ⟨cb, 0, intsV (clL dt (p + 14) (takeB dt (p + 10) 4 + 4)) ++ []⟩, ⟨fb, 520, cs2⟩] hC1)) rfl ?_; rintro _ _ ⟨e, vi, y1, y2, y3, a1, b1, c1, ev2, rfl, hE, rfl⟩; refine E.relist (L2 := (_ :: _ :: _ :: _ :: _ :: _ :: _ :: _ :: _ :: _)) rfl ?_
        refine E.pure (S.move rfl) rfl ?_
        refine E.pure (S.extract rfl rfl) rfl ?_
        refine E.pure (S.extract rfl rfl) rfl ?_
        refine E.pure (S.assign rfl) rfl ?_
        refine E.pure (S.assign rfl) rfl ?_
        refine E.keep [0, 4, 5, 10, 11, 12, 13, 171] (env1 := [(0, _), (4, _), (5, _), (10, _), (11, _), (12, _), (13, _), (171, _)]) rfl ?_
        refine C.seq ?_
        refine C.seq ?_
        refine C.region ?_
        refine E.pure (S.move rfl) rfl ?_
        refine E.still (S.neErNil rfl) rfl ?_
        refine E.keep [0, 4, 5, 10, 11, 12, 13, 171, 181] (env1 := [(0, _), (4, _), (5, _), (10, _), (11, _), (12, _), (13, _), (171, _), (181, _)]) rfl ?_
        first | refine C.ifp rfl (fun h181 => ?_) (fun h181 => ?_) | refine C.ifNone rfl (fun h181 => ?_) (fun h181 => ?_) | refine C.ifSome rfl (fun h181 => ?_) (fun h181 => ?_) | refine C.ifSe rfl (fun h181 => ?_) (fun h181 => ?_) | refine C.ifNotSe rfl (fun h181 => ?_) (fun h181 => ?_) | refine C.cond rfl (fun h181 => ?_) (fun h181 => ?_)
        ·
         obtain ⟨hb5, hsn, lx, hAx⟩ := hE.resolve_left fun h => h181 h.1
         refine C.seq ?_
         refine C.region ?_
         refine E.pure (S.move rfl) rfl ?_
         refine E.pure (S.assign rfl) rfl ?_
         refine E.keep [0, 2, 4, 5, 10, 11, 12, 13, 171, 181] (env1 := [(0, _), (2, _), (4, _), (5, _), (10, _), (11, _), (12, _), (13, _), (171, _), (181, _)]) rfl ?_
         refine C.ret ?_
         exact ⟨_, rfl, rh_bad2 hC1 (hb5) (hdy.trans (by rw [hgo, lensGo_none (by omega) hsn])) hAx (by rw [List.length_append, intsV_length]; exact hrl) hcl9 (raw_len hraw2)⟩
        ·
         obtain ⟨_, v, rfl, hsy, hvl, q2, b2, nb2, ro2, hA2, hB2, hn31, hbd, rfl, rfl, rfl, hev⟩ := hE.resolve_right fun h => h.1.2 h181
         rw [hev]
         clear hev hE
         rw [clL_len] at hvl
         have hm5 := (symR_some hsy).1
         have hmin5 : minL (clL dt (p + 14) (takeB dt (p + 10) 4 + 4)) ≤ lenOf (clL dt (p + 14) (takeB dt (p + 10) 4 + 4)) v := by rw [lenOf_get (lenOf_lt hm5.1)]; exact (minL_spec _).2.1 _ (List.getElem_mem _) (by have := hm5.1; rw [lenOf_get (lenOf_lt hm5.1)] at this; omega)
         rw [Nat.max_eq_right hmin5] at hbd
         have hn8 : nb2 < 8 := by omega
         have hiN : acc.length < takeB dt p 5 + 257 + (takeB dt (p + 5) 5 + 1) := by omega
         refine C.skip ?_
         refine C.seq ?_
         refine C.seq ?_
         refine C.region ?_
         refine E.pure (S.move rfl) rfl ?_
         refine E.pure (S.lt (b := ((16 : Nat) : Int)) rfl rfl) rfl ?_
         refine E.keep [0, 4, 5, 10, 11, 12, 13, 171, 181, 184] (env1 := [(0, _), (4, _), (5, _), (10, _), (11, _), (12, _), (13, _), (171, _), (181, _), (184, _)]) rfl ?_
         refine C.ifp rfl (fun h184 => ?_) (fun h184 => ?_)
         ·
          have hv : v < 16 := by omega
          refine C.seq ?_
          refine C.region ?_
          refine E.pure (S.move rfl) rfl ?_
          refine E.pure (S.nilPtr rfl) rfl ?_
          refine E.pure (S.field rfl fa153_7) rfl ?_
          refine E.still (S.load 5 (k := 0) rfl rfl rfl Tryd.isAgg145) rfl ?_
          refine E.pure (S.move rfl) rfl ?_
          refine E.pure (S.move rfl) rfl ?_
          refine E.pure (S.nilPtr rfl) rfl ?_
          refine E.pure (S.ixArr rfl rfl (by omega) Tryd.underlying155 Tryd.sizeOf3) rfl ?_
          refine E.loud0 (X.store 6 (k := acc.length * 1) rfl rfl rfl rfl (by rw [Nat.blt_eq, List.length_append, intsV_length]; omega) Tryd.sizeOf3) ?_
          rintro _ _ ⟨rfl, rfl⟩
          refine E.relist (L2 := [y1, y2, y3, ⟨fb, 0, [.iface src.t src.v, .pointer none, .int .i64 (ro2), .int .u32 (((b2) : Nat) : Int), .int .u64 (((nb2) : Nat) : Int)]⟩, ⟨fb, 1045, [s0, s1, s2, s3, s4, s5, s6, s7, s8]⟩, ⟨fb, 1035, [.pointer (some ⟨ab, 0, none⟩), .pointer (some ⟨cb, 0, none⟩)]⟩, ⟨ab, 0, intsV (acc ++ [v]) ++ rest.drop 1⟩, ⟨cb, 0, intsV (clL dt (p + 14) (takeB dt (p + 10) 4 + 4)) ++ []⟩, ⟨fb, 520, cs2⟩] ++ LC) (congrArg (fun q => ([y1, y2, y3, ⟨fb, 0, [.iface src.t src.v, .pointer none, .int .i64 (ro2), .int .u32 (((b2) : Nat) : Int), .int .u64 (((nb2) : Nat) : Int)]⟩, ⟨fb, 1045, [s0, s1, s2, s3, s4, s5, s6, s7, s8]⟩, ⟨fb, 1035, [.pointer (some ⟨ab, 0, none⟩), .pointer (some ⟨cb, 0, none⟩)]⟩, ⟨ab, 0, q⟩, ⟨cb, 0, intsV (clL dt (p + 14) (takeB dt (p + 10) 4 + 4)) ++ []⟩, ⟨fb, 520, cs2⟩] ++ LC : Frags)) (acc_set v (by omega))) ?_
          refine E.keep [0, 4, 5, 10, 11, 12, 13, 171, 181, 184] (env1 := [(0, _), (4, _), (5, _), (10, _), (11, _), (12, _), (13, _), (171, _), (181, _), (184, _)]) rfl ?_
          refine C.seq ?_
          refine C.region ?_
          refine E.pure (S.move rfl) rfl ?_
          refine E.pure (S.add (b := ((1 : Nat) : Int)) rfl rfl (N.add64 (by omega))) rfl ?_
          refine E.pure (S.assign rfl) rfl ?_
          refine E.keep [0, 4, 5, 10, 11, 12, 13, 171, 181, 184] (env1 := [(0, _), (4, _), (5, _), (10, _), (11, _), (12, _), (13, _), (171, _), (181, _), (184, _)]) rfl ?_
          refine C.exit rfl ?_
          refine ⟨_, ?_, acc ++ [v], rest.drop 1, _, acc.length + 1, _, _, _, _, _, _, _, rfl, rfl, hA2, hB2, hn8, (hgo.trans (lensGo_lit hiN hsy hv)), (by rw [List.length_append, List.length_singleton]), (by rw [List.length_append, List.length_singleton]; omega), (by rw [List.length_append, List.length_singleton, List.length_drop]; omega), (fun x hx => (List.mem_append.1 hx).elim (ha15 x) fun h => by rw [List.mem_singleton.1 h]; omega), rfl⟩; rw [List.length_append, List.length_singleton]; omega
         ·
          have hv16 : 16 ≤ v := by omega
          refine C.skip ?_
          refine C.seq ?_
          refine C.region ?_
          refine E.pure (S.assign rfl) rfl ?_
          refine E.keep [0, 4, 5, 10, 11, 12, 13, 14, 171, 181, 184] (env1 := [(0, _), (4, _), (5, _), (10, _), (11, _), (12, _), (13, _), (14, _), (171, _), (181, _), (184, _)]) rfl ?_
          refine C.seq ?_
          refine C.region ?_
          refine E.pure (S.assign rfl) rfl ?_
          refine E.keep [0, 4, 5, 10, 11, 12, 13, 14, 15, 171, 181, 184] (env1 := [(0, _), (4, _), (5, _), (10, _), (11, _), (12, _), (13, _), (14, _), (15, _), (171, _), (181, _), (184, _)]) rfl ?_
          refine C.seq ?_
          refine C.region ?_
          refine E.pure (S.assign rfl) rfl ?_
          refine E.keep [0, 4, 5, 10, 11, 12, 13, 14, 15, 16, 171, 181, 184] (env1 := [(0, _), (4, _), (5, _), (10, _), (11, _), (12, _), (13, _), (14, _), (15, _), (16, _), (171, _), (181, _), (184, _)]) rfl ?_
          refine C.cut (M := fun ee ll => keeps ee [0, 4, 5, 10, 11, 14, 15, 16] = some [(0, .pointer (some ⟨fb, 0, none⟩)), (4, .int .i64 ((takeB dt p 5 + 257 : Nat) : Int)), (5, .int .i64 ((takeB dt (p + 5) 5 + 1 : Nat) : Int)), (10, .int .i64 ((acc.length : Nat) : Int)), (11, .int .i64 ((takeB dt p 5 + 257 + (takeB dt (p + 5) 5 + 1) : Nat) : Int)), (14, .int .i64 ((repB v : Nat) : Int)), (15, .int .u64 ((repN v : Nat) : Int)), (16, .int .i64 (((if v = 16 then acc.getLastD 0 else 0) : Nat) : Int))] ∧ ll = [y1, y2, y3, ⟨fb, 0, [.iface src.t src.v, .pointer none, .int .i64 (ro2), .int .u32 (((b2) : Nat) : Int), .int .u64 (((nb2) : Nat) : Int)]⟩, ⟨fb, 1045, [s0, s1, s2, s3, s4, s5, s6, s7, s8]⟩, ⟨fb, 1035, [.pointer (some ⟨ab, 0, none⟩), .pointer (some ⟨cb, 0, none⟩)]⟩, ⟨ab, 0, intsV acc ++ rest⟩, ⟨cb, 0, intsV (clL dt (p + 14) (takeB dt (p + 10) 4 + 4)) ++ []⟩, ⟨fb, 520, cs2⟩] ++ LC ∧ (¬ (v = 16 ∧ acc = []))) ?_ ?_
          ·
           refine C.seq ?_
           refine C.region ?_
           refine E.pure (S.move rfl) rfl ?_
           refine E.keep [0, 4, 5, 10, 11, 12, 13, 14, 15, 16, 171, 181, 184, 195] (env1 := [(0, _), (4, _), (5, _), (10, _), (11, _), (12, _), (13, _), (14, _), (15, _), (16, _), (171, _), (181, _), (184, _), (195, _)]) rfl ?_
           refine C.block ?_
           refine C.seq ?_
           refine C.region ?_
           refine E.pure (S.eq (b := ((16 : Nat) : Int)) rfl rfl) rfl ?_
           refine E.pure (S.assign rfl) rfl ?_
           refine E.keep [0, 4, 5, 10, 11, 12, 13, 14, 15, 16, 171, 181, 184, 195, 197] (env1 := [(0, _), (4, _), (5, _), (10, _), (11, _), (12, _), (13, _), (14, _), (15, _), (16, _), (171, _), (181, _), (184, _), (195, _), (197, _)]) rfl ?_
           refine C.ifp rfl (fun h197 => ?_) (fun h197 => ?_)
           ·
            have hv : v = 16 := by omega
            refine C.seq ?_
            refine C.region ?_
            refine E.pure (S.assign rfl) rfl ?_
            refine E.reslot (v := .int .i64 ((repB v : Nat) : Int)) (congrArg (fun y : Nat => Value.int .i64 (y : Int)) (by subst hv; rfl)) ?_
            refine E.keep [0, 4, 5, 10, 11, 12, 13, 14, 15, 16, 171, 181, 184, 195, 197] (env1 := [(0, _), (4, _), (5, _), (10, _), (11, _), (12, _), (13, _), (14, _), (15, _), (16, _), (171, _), (181, _), (184, _), (195, _), (197, _)]) rfl ?_
            refine C.seq ?_
            refine C.region ?_
            refine E.pure (S.assign rfl) rfl ?_
            refine E.reslot (v := .int .u64 ((repN v : Nat) : Int)) (congrArg (fun y : Nat => Value.int .u64 (y : Int)) (by subst hv; rfl)) ?_
            refine E.keep [0, 4, 5, 10, 11, 12, 13, 14, 15, 16, 171, 181, 184, 195, 197] (env1 := [(0, _), (4, _), (5, _), (10, _), (11, _), (12, _), (13, _), (14, _), (15, _), (16, _), (171, _), (181, _), (184, _), (195, _), (197, _)]) rfl ?_
            refine C.seq ?_
            refine C.seq ?_
            refine C.region ?_
            refine E.pure (S.move rfl) rfl ?_
            refine E.pure (S.eq (b := ((0 : Nat) : Int)) rfl rfl) rfl ?_
            refine E.keep [0, 4, 5, 10, 11, 12, 13, 14, 15, 16, 171, 181, 184, 195, 197, 200] (env1 := [(0, _), (4, _), (5, _), (10, _), (11, _), (12, _), (13, _), (14, _), (15, _), (16, _), (171, _), (181, _), (184, _), (195, _), (197, _), (200, _)]) rfl ?_
            refine C.ifp rfl (fun h200 => ?_) (fun h200 => ?_)
            ·
             have hac : acc = [] := List.eq_nil_of_length_eq_zero (by omega)
             refine C.seq ?_
             refine C.region ?_
             refine E.pure (S.move rfl) rfl ?_
             refine E.pure (S.nilPtr rfl) rfl ?_
             refine E.pure (S.field rfl fa153_2) rfl ?_
             refine E.still (S.load 3 (k := 2) rfl rfl rfl Tryd.isAgg2) rfl ?_
             refine E.pure (S.mkIface rfl conc165) rfl ?_
             refine E.reslot (v := Er.val ea (.corrupt _)) (rfl) ?_
             refine E.pure (S.assign rfl) rfl ?_
             refine E.keep [0, 2, 4, 5, 10, 11, 12, 13, 14, 15, 16, 171, 181, 184, 195, 197, 200] (env1 := [(0, _), (2, _), (4, _), (5, _), (10, _), (11, _), (12, _), (13, _), (14, _), (15, _), (16, _), (171, _), (181, _), (184, _), (195, _), (197, _), (200, _)]) rfl ?_
             refine C.ret ?_
             exact ⟨_, rfl, rh_bad2 hC1 (bad_corrupt _) (hdy.trans (by rw [hgo, lensGo_empty (by omega) (by rw [hsy, hv]) hac])) hA2 (by rw [List.length_append, intsV_length]; exact hrl) hcl9 (raw_len hraw2)⟩
            ·
             have hac : acc ≠ [] := fun h => by subst h; simp at h200
             refine C.skip ?_
             refine C.region ?_
             refine E.pure (S.move rfl) rfl ?_
             refine E.pure (S.nilPtr rfl) rfl ?_
             refine E.pure (S.field rfl fa153_7) rfl ?_
             refine E.still (S.load 5 (k := 0) rfl rfl rfl Tryd.isAgg145) rfl ?_
             refine E.pure (S.move rfl) rfl ?_
             refine E.pure (S.sub (b := ((1 : Nat) : Int)) rfl rfl (N.sub64 (by omega) (by omega))) rfl ?_
             refine E.pure (S.nilPtr rfl) rfl ?_
             refine E.pure (S.ixArr rfl rfl (by omega) Tryd.underlying155 Tryd.sizeOf3) rfl ?_
             refine E.still (S.load 6 (k := (acc.length - 1) * 1) rfl rfl (last_get hac) Tryd.isAgg3) rfl ?_
             refine E.reslot (v := .int .i64 (((if v = 16 then acc.getLastD 0 else 0) : Nat) : Int)) (congrArg (fun y : Nat => Value.int .i64 (y : Int)) (by rw [if_pos hv])) ?_
             refine E.pure (S.assign rfl) rfl ?_
             refine E.keep [0, 4, 5, 10, 11, 12, 13, 14, 15, 16, 171, 181, 184, 195, 197, 200] (env1 := [(0, _), (4, _), (5, _), (10, _), (11, _), (12, _), (13, _), (14, _), (15, _), (16, _), (171, _), (181, _), (184, _), (195, _), (197, _), (200, _)]) rfl ?_
             exact ⟨rfl, rfl, by first | exact fun h => hac h.2 | (intro h; omega)⟩
           ·
            refine C.seq ?_
            refine C.region ?_
            refine E.pure (S.eq (b := ((17 : Nat) : Int)) rfl rfl) rfl ?_
            refine E.pure (S.assign rfl) rfl ?_
            refine E.keep [0, 4, 5, 10, 11, 12, 13, 14, 15, 16, 171, 181, 184, 195, 197, 215] (env1 := [(0, _), (4, _), (5, _), (10, _), (11, _), (12, _), (13, _), (14, _), (15, _), (16, _), (171, _), (181, _), (184, _), (195, _), (197, _), (215, _)]) rfl ?_
            refine C.ifp rfl (fun h215 => ?_) (fun h215 => ?_)
            ·
             have hv : v = 17 := by omega
             refine C.seq ?_
             refine C.region ?_
             refine E.pure (S.assign rfl) rfl ?_
             refine E.reslot (v := .int .i64 ((repB v : Nat) : Int)) (congrArg (fun y : Nat => Value.int .i64 (y : Int)) (by subst hv; rfl)) ?_
             refine E.keep [0, 4, 5, 10, 11, 12, 13, 14, 15, 16, 171, 181, 184, 195, 197, 215] (env1 := [(0, _), (4, _), (5, _), (10, _), (11, _), (12, _), (13, _), (14, _), (15, _), (16, _), (171, _), (181, _), (184, _), (195, _), (197, _), (215, _)]) rfl ?_
             refine C.seq ?_
             refine C.region ?_
             refine E.pure (S.assign rfl) rfl ?_
             refine E.reslot (v := .int .u64 ((repN v : Nat) : Int)) (congrArg (fun y : Nat => Value.int .u64 (y : Int)) (by subst hv; rfl)) ?_
             refine E.keep [0, 4, 5, 10, 11, 12, 13, 14, 15, 16, 171, 181, 184, 195, 197, 215] (env1 := [(0, _), (4, _), (5, _), (10, _), (11, _), (12, _), (13, _), (14, _), (15, _), (16, _), (171, _), (181, _), (184, _), (195, _), (197, _), (215, _)]) rfl ?_
             refine C.region ?_
             refine E.pure (S.assign rfl) rfl ?_
             refine E.reslot (v := .int .i64 (((if v = 16 then acc.getLastD 0 else 0) : Nat) : Int)) (congrArg (fun y : Nat => Value.int .i64 (y : Int)) (by rw [if_neg (by omega)])) ?_
             refine E.keep [0, 4, 5, 10, 11, 12, 13, 14, 15, 16, 171, 181, 184, 195, 197, 215] (env1 := [(0, _), (4, _), (5, _), (10, _), (11, _), (12, _), (13, _), (14, _), (15, _), (16, _), (171, _), (181, _), (184, _), (195, _), (197, _), (215, _)]) rfl ?_
             exact ⟨rfl, rfl, by first | exact fun h => hac h.2 | (intro h; omega)⟩
            ·
             refine C.seq ?_
             refine C.region ?_
             refine E.pure (S.eq (b := ((18 : Nat) : Int)) rfl rfl) rfl ?_
             refine E.pure (S.assign rfl) rfl ?_
             refine E.keep [0, 4, 5, 10, 11, 12, 13, 14, 15, 16, 171, 181, 184, 195, 197, 215, 217] (env1 := [(0, _), (4, _), (5, _), (10, _), (11, _), (12, _), (13, _), (14, _), (15, _), (16, _), (171, _), (181, _), (184, _), (195, _), (197, _), (215, _), (217, _)]) rfl ?_
             refine C.ifp rfl (fun h217 => ?_) (fun h217 => ?_)
             ·
              have hv : v = 18 := by omega
              refine C.seq ?_
              refine C.region ?_
              refine E.pure (S.assign rfl) rfl ?_
              refine E.reslot (v := .int .i64 ((repB v : Nat) : Int)) (congrArg (fun y : Nat => Value.int .i64 (y : Int)) (by subst hv; rfl)) ?_
              refine E.keep [0, 4, 5, 10, 11, 12, 13, 14, 15, 16, 171, 181, 184, 195, 197, 215, 217] (env1 := [(0, _), (4, _), (5, _), (10, _), (11, _), (12, _), (13, _), (14, _), (15, _), (16, _), (171, _), (181, _), (184, _), (195, _), (197, _), (215, _), (217, _)]) rfl ?_
              refine C.seq ?_
              refine C.region ?_
              refine E.pure (S.assign rfl) rfl ?_
              refine E.reslot (v := .int .u64 ((repN v : Nat) : Int)) (congrArg (fun y : Nat => Value.int .u64 (y : Int)) (by subst hv; rfl)) ?_
              refine E.keep [0, 4, 5, 10, 11, 12, 13, 14, 15, 16, 171, 181, 184, 195, 197, 215, 217] (env1 := [(0, _), (4, _), (5, _), (10, _), (11, _), (12, _), (13, _), (14, _), (15, _), (16, _), (171, _), (181, _), (184, _), (195, _), (197, _), (215, _), (217, _)]) rfl ?_
              refine C.region ?_
              refine E.pure (S.assign rfl) rfl ?_
              refine E.reslot (v := .int .i64 (((if v = 16 then acc.getLastD 0 else 0) : Nat) : Int)) (congrArg (fun y : Nat => Value.int .i64 (y : Int)) (by rw [if_neg (by omega)])) ?_
              refine E.keep [0, 4, 5, 10, 11, 12, 13, 14, 15, 16, 171, 181, 184, 195, 197, 215, 217] (env1 := [(0, _), (4, _), (5, _), (10, _), (11, _), (12, _), (13, _), (14, _), (15, _), (16, _), (171, _), (181, _), (184, _), (195, _), (197, _), (215, _), (217, _)]) rfl ?_
              exact ⟨rfl, rfl, by first | exact fun h => hac h.2 | (intro h; omega)⟩
             ·
              exfalso
              omega
          ·
           rintro _ _ ⟨hq59, rfl, hne⟩
           refine C.weaken _ hq59 ?_
           obtain ⟨hrn7, hrb11⟩ := rep_facts hv16
           refine C.seq ?_
           refine C.block ?_
           refine C.loop (fun mm ee ll => ∃ (q : Nat), ∃ (b : Nat), ∃ (nb : Nat), ∃ (ro : Int), ∃ (g1 : Frag), ∃ (g2 : Frag), ∃ (g3 : Frag), keeps ee [0, 4, 5, 10, 11, 14, 15, 16] = some [(0, .pointer (some ⟨fb, 0, none⟩)), (4, .int .i64 ((takeB dt p 5 + 257 : Nat) : Int)), (5, .int .i64 ((takeB dt (p + 5) 5 + 1 : Nat) : Int)), (10, .int .i64 ((acc.length : Nat) : Int)), (11, .int .i64 ((takeB dt p 5 + 257 + (takeB dt (p + 5) 5 + 1) : Nat) : Int)), (14, .int .i64 ((repB v : Nat) : Int)), (15, .int .u64 ((repN v : Nat) : Int)), (16, .int .i64 (((if v = 16 then acc.getLastD 0 else 0) : Nat) : Int))] ∧ ll = [g1, g2, g3, ⟨fb, 0, [.iface src.t src.v, .pointer none, .int .i64 (ro), .int .u32 (((b) : Nat) : Int), .int .u64 (((nb) : Nat) : Int)]⟩, ⟨fb, 1045, [s0, s1, s2, s3, s4, s5, s6, s7, s8]⟩, ⟨fb, 1035, [.pointer (some ⟨ab, 0, none⟩), .pointer (some ⟨cb, 0, none⟩)]⟩, ⟨ab, 0, intsV acc ++ rest⟩, ⟨cb, 0, intsV (clL dt (p + 14) (takeB dt (p + 10) 4 + 4)) ++ []⟩, ⟨fb, 520, cs2⟩] ++ LC ∧ (src.At (dt.drop q) g1 g2 g3) ∧ (BitsIn dt (pp + lenOf (clL dt (p + 14) (takeB dt (p + 10) 4 + 4)) v) q b nb) ∧ (nb < 8 ∨ nb < repN v + 8) ∧ mm = repN v - nb) (_) ⟨q2, b2, nb2, ro2, y1, y2, y3, rfl, rfl, hA2, hB2, .inl hn8, rfl⟩ ?_
           rintro m5 _ _ ⟨q, b, nb, ro, g1, g2, g3, hk5, rfl, hA, hB, hnl, hm5⟩
           refine C.weaken _ hk5 ?_
           refine C.seq ?_
           refine C.seq ?_
           refine C.region ?_
           refine E.pure (S.move rfl) rfl ?_
           refine E.pure (S.nilPtr rfl) rfl ?_
           refine E.pure (S.field rfl fa153_4) rfl ?_
           refine E.still (S.load 3 (k := 4) rfl rfl rfl Tryd.isAgg92) rfl ?_
           refine E.pure (S.move rfl) rfl ?_
           refine E.pure (S.lt rfl rfl) rfl ?_
           refine E.keep [0, 4, 5, 10, 11, 14, 15, 16, 224] (env1 := [(0, _), (4, _), (5, _), (10, _), (11, _), (14, _), (15, _), (16, _), (224, _)]) rfl ?_
           refine C.ifp rfl (fun h224 => ?_) (fun h224 => ?_)
           ·
            refine C.skip ?_
            refine C.block ?_
            refine C.seq ?_
            refine C.region ?_
            refine E.pure (S.move rfl) rfl ?_
            refine E.loud1 (OpX.pick [0, 0, 0, 0] (F := (_ :: _ :: _ :: _ :: _ :: _)) rfl (X.call rfl Tryd.call71 (moreBits_e hs src _ _ _ fb _ dt _ _ _ _ hA hB (by omega)))) rfl ?_; rintro _ _ ⟨_, ⟨k1, k2, k3, e4, b4, nb4, ro4, rfl, rfl, hE4⟩, rfl⟩; refine E.relist (L2 := (_ :: _ :: _ :: _ :: _ :: _ :: _ :: _ :: _ :: _)) rfl ?_
            refine E.perml [0, 0, 0, 0, 0, 0, 0, 0, 0] rfl ?_
            refine E.relist (L2 := (_ :: _ :: _ :: _ :: _ :: _ :: _ :: _ :: _ :: _)) rfl ?_
            refine E.pure (S.assign rfl) rfl ?_
            refine E.keep [0, 4, 5, 10, 11, 14, 15, 16, 17, 224] (env1 := [(0, _), (4, _), (5, _), (10, _), (11, _), (14, _), (15, _), (16, _), (17, _), (224, _)]) rfl ?_
            refine C.seq ?_
            refine C.region ?_
            refine E.pure (S.move rfl) rfl ?_
            refine E.still (S.neErNil rfl) rfl ?_
            refine E.keep [0, 4, 5, 10, 11, 14, 15, 16, 17, 224, 228] (env1 := [(0, _), (4, _), (5, _), (10, _), (11, _), (14, _), (15, _), (16, _), (17, _), (224, _), (228, _)]) rfl ?_
            first | refine C.ifp rfl (fun h228 => ?_) (fun h228 => ?_) | refine C.ifNone rfl (fun h228 => ?_) (fun h228 => ?_) | refine C.ifSome rfl (fun h228 => ?_) (fun h228 => ?_) | refine C.ifSe rfl (fun h228 => ?_) (fun h228 => ?_) | refine C.ifNotSe rfl (fun h228 => ?_) (fun h228 => ?_) | refine C.cond rfl (fun h228 => ?_) (fun h228 => ?_)
            ·
             obtain ⟨hb5, hqe, lx, hAx⟩ := hE4.resolve_left fun h => h228 h.1
             have hle := hB.left_eq
             refine C.seq ?_
             refine C.region ?_
             refine E.pure (S.move rfl) rfl ?_
             refine E.pure (S.assign rfl) rfl ?_
             refine E.keep [0, 2, 4, 5, 10, 11, 14, 15, 16, 17, 224, 228] (env1 := [(0, _), (2, _), (4, _), (5, _), (10, _), (11, _), (14, _), (15, _), (16, _), (17, _), (224, _), (228, _)]) rfl ?_
             refine C.ret ?_
             exact ⟨_, rfl, rh_bad2 hC1 (hb5) (hdy.trans (by rw [hgo, lensGo_short (by omega) hsy hv16 hne (by omega)])) hAx (by rw [List.length_append, intsV_length]; exact hrl) hcl9 (raw_len hraw2)⟩
            ·
             obtain ⟨_, hA4, hB4, hn4⟩ := hE4.resolve_right fun h => h.1.2 h228
             subst hn4
             refine C.skip ?_
             refine ⟨_, ?_, _, _, _, _, _, _, _, rfl, rfl, hA4, hB4, .inr (by omega), rfl⟩; omega
           ·
            have hnn : repN v ≤ nb := by omega
            have hb3 := hB.lt32 (by omega)
            have hle := hB.left_eq
            have htk := hB.take hnn
            have htl := takeB_lt dt (pp + lenOf (clL dt (p + 14) (takeB dt (p + 10) 4 + 4)) v) (repN v)
            have h2r : 2 ^ repN v ≤ 2 ^ 7 := Nat.pow_le_pow_right (by omega) hrn7
            have h2r0 : 0 < 2 ^ repN v := Nat.pow_pos (by omega)
            have hrs : ¬ left dt (pp + lenOf (clL dt (p + 14) (takeB dt (p + 10) 4 + 4)) v) < repN v := by omega
            refine C.exit rfl ?_
            refine C.seq ?_
            refine C.region ?_
            refine E.pure (S.move rfl) rfl ?_
            refine E.pure (S.move rfl) rfl ?_
            refine E.pure (S.nilPtr rfl) rfl ?_
            refine E.pure (S.field rfl fa153_3) rfl ?_
            refine E.still (S.load 3 (k := 3) rfl rfl rfl Tryd.isAgg52) rfl ?_
            refine E.pure (S.move rfl) rfl ?_
            refine E.pure (S.shl (a := ((1 : Nat) : Int)) rfl rfl (by omega) (N.shl_u32 _ _)) rfl ?_
            refine E.reslot (v := .int .u32 ((2 ^ repN v : Nat) : Int)) (congrArg (fun y : Nat => Value.int .u32 (y : Int)) (by rw [Nat.one_shiftLeft]; exact Nat.mod_eq_of_lt (by omega))) ?_
            refine E.pure (S.sub (b := ((1 : Nat) : Int)) rfl rfl (N.sub_u32 (by omega) (by omega))) rfl ?_
            refine E.pure (S.and rfl rfl (N.and_u32 (by omega) (by omega))) rfl ?_
            refine E.reslot (v := .int .u32 ((takeB dt (pp + lenOf (clL dt (p + 14) (takeB dt (p + 10) 4 + 4)) v) (repN v) : Nat) : Int)) (congrArg (fun y : Nat => Value.int .u32 (y : Int)) (by exact mask_take hB (by omega))) ?_
            refine E.pure (S.conv rfl Tryd.underlying52 Tryd.underlying3 (N.i64n (by omega))) rfl ?_
            refine E.pure (S.add rfl rfl (N.add64 (by omega))) rfl ?_
            refine E.pure (S.assign rfl) rfl ?_
            refine E.keep [0, 4, 5, 10, 11, 14, 15, 16, 224] (env1 := [(0, _), (4, _), (5, _), (10, _), (11, _), (14, _), (15, _), (16, _), (224, _)]) rfl ?_
            refine C.seq ?_
            refine C.region ?_
            refine E.pure (S.move rfl) rfl ?_
            refine E.pure (S.nilPtr rfl) rfl ?_
            refine E.pure (S.field rfl fa153_3) rfl ?_
            refine E.still (S.load 3 (k := 3) rfl rfl rfl Tryd.isAgg52) rfl ?_
            refine E.pure (S.move rfl) rfl ?_
            refine E.pure (S.shr rfl rfl (by omega) (N.shr_u32 (by omega) _)) rfl ?_
            refine E.reslot (v := .int .u32 ((b / 2 ^ repN v : Nat) : Int)) (congrArg (fun y : Nat => Value.int .u32 (y : Int)) (by rw [Nat.shiftRight_eq_div_pow])) ?_
            refine E.pure (S.nilPtr rfl) rfl ?_
            refine E.pure (S.field rfl fa153_3) rfl ?_
            refine E.loud0 (X.store 3 (k := 3) rfl rfl rfl rfl rfl Tryd.sizeOf52) ?_; rintro _ _ ⟨rfl, rfl⟩; refine E.relist (L2 := (_ :: _ :: _ :: _ :: _ :: _ :: _ :: _ :: _ :: _)) rfl ?_
            refine E.keep [0, 4, 5, 10, 11, 14, 15, 16, 224] (env1 := [(0, _), (4, _), (5, _), (10, _), (11, _), (14, _), (15, _), (16, _), (224, _)]) rfl ?_
            refine C.seq ?_
            refine C.region ?_
            refine E.pure (S.move rfl) rfl ?_
            refine E.pure (S.nilPtr rfl) rfl ?_
            refine E.pure (S.field rfl fa153_4) rfl ?_
            refine E.still (S.load 3 (k := 4) rfl rfl rfl Tryd.isAgg92) rfl ?_
            refine E.pure (S.move rfl) rfl ?_
            refine E.pure (S.sub rfl rfl (N.sub_u64 (by omega) (by omega))) rfl ?_
            refine E.pure (S.nilPtr rfl) rfl ?_
            refine E.pure (S.field rfl fa153_4) rfl ?_
            refine E.loud0 (X.store 3 (k := 4) rfl rfl rfl rfl rfl Tryd.sizeOf92) ?_; rintro _ _ ⟨rfl, rfl⟩; refine E.relist (L2 := (_ :: _ :: _ :: _ :: _ :: _ :: _ :: _ :: _ :: _)) rfl ?_
            refine E.keep [0, 4, 5, 10, 11, 14, 15, 16, 224] (env1 := [(0, _), (4, _), (5, _), (10, _), (11, _), (14, _), (15, _), (16, _), (224, _)]) rfl ?_
            refine C.seq ?_
            refine C.seq ?_
            refine C.region ?_
            refine E.pure (S.move rfl) rfl ?_
            refine E.pure (S.move rfl) rfl ?_
            refine E.pure (S.add rfl rfl (N.add64 (by omega))) rfl ?_
            refine E.pure (S.move rfl) rfl ?_
            refine E.pure (S.gt rfl rfl) rfl ?_
            refine E.keep [0, 4, 5, 10, 11, 14, 15, 16, 224, 261] (env1 := [(0, _), (4, _), (5, _), (10, _), (11, _), (14, _), (15, _), (16, _), (224, _), (261, _)]) rfl ?_
            refine C.ifp rfl (fun h261 => ?_) (fun h261 => ?_)
            ·
             refine C.seq ?_
             refine C.region ?_
             refine E.pure (S.move rfl) rfl ?_
             refine E.pure (S.nilPtr rfl) rfl ?_
             refine E.pure (S.field rfl fa153_2) rfl ?_
             refine E.still (S.load 3 (k := 2) rfl rfl rfl Tryd.isAgg2) rfl ?_
             refine E.pure (S.mkIface rfl conc165) rfl ?_
             refine E.reslot (v := Er.val ea (.corrupt _)) (rfl) ?_
             refine E.pure (S.assign rfl) rfl ?_
             refine E.keep [0, 2, 4, 5, 10, 11, 14, 15, 16, 224, 261] (env1 := [(0, _), (2, _), (4, _), (5, _), (10, _), (11, _), (14, _), (15, _), (16, _), (224, _), (261, _)]) rfl ?_
             refine C.ret ?_
             exact ⟨_, rfl, rh_bad2 hC1 (bad_corrupt _) (hdy.trans (by rw [hgo, lensGo_over (by omega) hsy hv16 hne hrs (by omega)])) hA (by rw [List.length_append, intsV_length]; exact hrl) hcl9 (raw_len hraw2)⟩
            ·
             have hro : ¬ takeB dt p 5 + 257 + (takeB dt (p + 5) 5 + 1) < acc.length + (repB v + takeB dt (pp + lenOf (clL dt (p + 14) (takeB dt (p + 10) 4 + 4)) v) (repN v)) := by omega
             refine C.skip ?_
             refine C.seq ?_
             refine C.region ?_
             refine E.pure (S.assign rfl) rfl ?_
             refine E.keep [0, 4, 5, 10, 11, 14, 15, 16, 18, 224, 261] (env1 := [(0, _), (4, _), (5, _), (10, _), (11, _), (14, _), (15, _), (16, _), (18, _), (224, _), (261, _)]) rfl ?_
             refine C.block ?_
             refine C.loop (fun mm ee ll => ∃ (j : Nat), ∃ (i2 : Nat), keeps ee [0, 4, 5, 10, 11, 14, 16, 18] = some [(0, .pointer (some ⟨fb, 0, none⟩)), (4, .int .i64 ((takeB dt p 5 + 257 : Nat) : Int)), (5, .int .i64 ((takeB dt (p + 5) 5 + 1 : Nat) : Int)), (10, .int .i64 ((i2 : Nat) : Int)), (11, .int .i64 ((takeB dt p 5 + 257 + (takeB dt (p + 5) 5 + 1) : Nat) : Int)), (14, .int .i64 ((repB v + takeB dt (pp + lenOf (clL dt (p + 14) (takeB dt (p + 10) 4 + 4)) v) (repN v) : Nat) : Int)), (16, .int .i64 (((if v = 16 then acc.getLastD 0 else 0) : Nat) : Int)), (18, .int .i64 ((j : Nat) : Int))] ∧ ll = [g1, g2, g3, ⟨fb, 0, [.iface src.t src.v, .pointer none, .int .i64 (ro), .int .u32 ((((b / 2 ^ repN v)) : Nat) : Int), .int .u64 ((((nb - repN v)) : Nat) : Int)]⟩, ⟨fb, 1045, [s0, s1, s2, s3, s4, s5, s6, s7, s8]⟩, ⟨fb, 1035, [.pointer (some ⟨ab, 0, none⟩), .pointer (some ⟨cb, 0, none⟩)]⟩, ⟨ab, 0, intsV (acc ++ List.replicate j (if v = 16 then acc.getLastD 0 else 0)) ++ rest.drop j⟩, ⟨cb, 0, intsV (clL dt (p + 14) (takeB dt (p + 10) 4 + 4)) ++ []⟩, ⟨fb, 520, cs2⟩] ++ LC ∧ (i2 = acc.length + j) ∧ (j ≤ repB v + takeB dt (pp + lenOf (clL dt (p + 14) (takeB dt (p + 10) 4 + 4)) v) (repN v)) ∧ mm = (repB v + takeB dt (pp + lenOf (clL dt (p + 14) (takeB dt (p + 10) 4 + 4)) v) (repN v)) - j) (_) ⟨0, acc.length, rfl, (by simp), by omega, by omega, rfl⟩ ?_
             rintro m6 _ _ ⟨j, i2, hk6, rfl, hi2, hj, hm6⟩
             refine C.weaken _ hk6 ?_
             subst hi2
             refine C.seq ?_
             refine C.seq ?_
             refine C.region ?_
             refine E.pure (S.move rfl) rfl ?_
             refine E.pure (S.move rfl) rfl ?_
             refine E.pure (S.lt rfl rfl) rfl ?_
             refine E.keep [0, 4, 5, 10, 11, 14, 16, 18, 269] (env1 := [(0, _), (4, _), (5, _), (10, _), (11, _), (14, _), (16, _), (18, _), (269, _)]) rfl ?_
             refine C.ifp rfl (fun h269 => ?_) (fun h269 => ?_)
             ·
              have hjr : 0 < (rest.drop j).length := by rw [List.length_drop]; omega
              refine C.skip ?_
              refine C.seq ?_
              refine C.block ?_
              refine C.seq ?_
              refine C.region ?_
              refine E.pure (S.move rfl) rfl ?_
              refine E.pure (S.nilPtr rfl) rfl ?_
              refine E.pure (S.field rfl fa153_7) rfl ?_
              refine E.still (S.load 5 (k := 0) rfl rfl rfl Tryd.isAgg145) rfl ?_
              refine E.pure (S.move rfl) rfl ?_
              refine E.pure (S.move rfl) rfl ?_
              refine E.pure (S.nilPtr rfl) rfl ?_
              refine E.pure (S.ixArr rfl rfl (by omega) Tryd.underlying155 Tryd.sizeOf3) rfl ?_
              refine E.loud0 (X.store 6 (k := (acc.length + j) * 1) rfl rfl rfl rfl (by rw [Nat.blt_eq, List.length_append, intsV_length, List.length_append, List.length_replicate]; omega) Tryd.sizeOf3) ?_
              rintro _ _ ⟨rfl, rfl⟩
              refine E.relist (L2 := [g1, g2, g3, ⟨fb, 0, [.iface src.t src.v, .pointer none, .int .i64 (ro), .int .u32 ((((b / 2 ^ repN v)) : Nat) : Int), .int .u64 ((((nb - repN v)) : Nat) : Int)]⟩, ⟨fb, 1045, [s0, s1, s2, s3, s4, s5, s6, s7, s8]⟩, ⟨fb, 1035, [.pointer (some ⟨ab, 0, none⟩), .pointer (some ⟨cb, 0, none⟩)]⟩, ⟨ab, 0, intsV (acc ++ List.replicate (j + 1) (if v = 16 then acc.getLastD 0 else 0)) ++ rest.drop (j + 1)⟩, ⟨cb, 0, intsV (clL dt (p + 14) (takeB dt (p + 10) 4 + 4)) ++ []⟩, ⟨fb, 520, cs2⟩] ++ LC) (congrArg (fun q => ([g1, g2, g3, ⟨fb, 0, [.iface src.t src.v, .pointer none, .int .i64 (ro), .int .u32 ((((b / 2 ^ repN v)) : Nat) : Int), .int .u64 ((((nb - repN v)) : Nat) : Int)]⟩, ⟨fb, 1045, [s0, s1, s2, s3, s4, s5, s6, s7, s8]⟩, ⟨fb, 1035, [.pointer (some ⟨ab, 0, none⟩), .pointer (some ⟨cb, 0, none⟩)]⟩, ⟨ab, 0, q⟩, ⟨cb, 0, intsV (clL dt (p + 14) (takeB dt (p + 10) 4 + 4)) ++ []⟩, ⟨fb, 520, cs2⟩] ++ LC : Frags)) (rep_set hjr)) ?_
              refine E.keep [0, 4, 5, 10, 11, 14, 16, 18, 269] (env1 := [(0, _), (4, _), (5, _), (10, _), (11, _), (14, _), (16, _), (18, _), (269, _)]) rfl ?_
              refine C.region ?_
              refine E.pure (S.move rfl) rfl ?_
              refine E.pure (S.add (b := ((1 : Nat) : Int)) rfl rfl (N.add64 (by omega))) rfl ?_
              refine E.pure (S.assign rfl) rfl ?_
              refine E.keep [0, 4, 5, 10, 11, 14, 16, 18, 269] (env1 := [(0, _), (4, _), (5, _), (10, _), (11, _), (14, _), (16, _), (18, _), (269, _)]) rfl ?_
              refine C.region ?_
              refine E.pure (S.move rfl) rfl ?_
              refine E.pure (S.add (b := ((1 : Nat) : Int)) rfl rfl (N.add64 (by omega))) rfl ?_
              refine E.pure (S.assign rfl) rfl ?_
              refine E.keep [0, 4, 5, 10, 11, 14, 16, 18, 269] (env1 := [(0, _), (4, _), (5, _), (10, _), (11, _), (14, _), (16, _), (18, _), (269, _)]) rfl ?_
              refine ⟨_, ?_, j + 1, acc.length + j + 1, rfl, rfl, by omega, by omega, rfl⟩; omega
             ·
              have hj2 : j = repB v + takeB dt (pp + lenOf (clL dt (p + 14) (takeB dt (p + 10) 4 + 4)) v) (repN v) := by omega
              subst hj2
              have hgo2 := hgo.trans (lensGo_rep (by omega) hsy hv16 hne hrs hro)
              have hlen2 : (acc ++ List.replicate (repB v + takeB dt (pp + lenOf (clL dt (p + 14) (takeB dt (p + 10) 4 + 4)) v) (repN v)) (if v = 16 then acc.getLastD 0 else 0)).length = acc.length + (repB v + takeB dt (pp + lenOf (clL dt (p + 14) (takeB dt (p + 10) 4 + 4)) v) (repN v)) := by rw [List.length_append, List.length_replicate]
              have hi3 := hlen2.symm
              have hal2 : (acc ++ List.replicate (repB v + takeB dt (pp + lenOf (clL dt (p + 14) (takeB dt (p + 10) 4 + 4)) v) (repN v)) (if v = 16 then acc.getLastD 0 else 0)).length ≤ takeB dt p 5 + 257 + (takeB dt (p + 5) 5 + 1) := by rw [hlen2]; omega
              have hrl2 : (acc ++ List.replicate (repB v + takeB dt (pp + lenOf (clL dt (p + 14) (takeB dt (p + 10) 4 + 4)) v) (repN v)) (if v = 16 then acc.getLastD 0 else 0)).length + (rest.drop (repB v + takeB dt (pp + lenOf (clL dt (p + 14) (takeB dt (p + 10) 4 + 4)) v) (repN v))).length = 316 := by rw [hlen2, List.length_drop]; omega
              have ha2 : ∀ x ∈ acc ++ List.replicate (repB v + takeB dt (pp + lenOf (clL dt (p + 14) (takeB dt (p + 10) 4 + 4)) v) (repN v)) (if v = 16 then acc.getLastD 0 else 0), x ≤ 15 := fun x hx => by
                rcases List.mem_append.1 hx with h | h
                · exact ha15 x h
                · rw [(List.mem_replicate.1 h).2]; exact last_le ha15 v
              refine C.exit rfl ?_
              refine ⟨_, ?_, acc ++ List.replicate (repB v + takeB dt (pp + lenOf (clL dt (p + 14) (takeB dt (p + 10) 4 + 4)) v) (repN v)) (if v = 16 then acc.getLastD 0 else 0), rest.drop (repB v + takeB dt (pp + lenOf (clL dt (p + 14) (takeB dt (p + 10) 4 + 4)) v) (repN v)), _, acc.length + (repB v + takeB dt (pp + lenOf (clL dt (p + 14) (takeB dt (p + 10) 4 + 4)) v) (repN v)), _, _, _, _, _, _, _, rfl, rfl, hA, htk.2, by omega, hgo2, hi3, hal2, hrl2, ha2, rfl⟩; have hrb0 : 0 < repB v := (by unfold repB; split <;> omega); rw [hlen2]; omega
       ·
        have haN : acc.length = takeB dt p 5 + 257 + (takeB dt (p + 5) 5 + 1) := by omega
        rw [hgo, lensGo_done (by omega)] at hdy
        simp only at hdy
        have htl : (acc.take (takeB dt p 5 + 257)).length = takeB dt p 5 + 257 := by rw [List.length_take]; omega
        have hdl : (acc.drop (takeB dt p 5 + 257)).length = takeB dt (p + 5) 5 + 1 := by rw [List.length_drop]; omega
        refine C.exit rfl ?_
        refine C.seq ?_
        refine C.seq ?_
        have hsp : intsV acc ++ rest = (intsV (acc.take (takeB dt p 5 + 257)) ++ []) ++ (intsV (acc.drop (takeB dt p 5 + 257)) ++ rest) := by
          rw [List.append_nil, ← List.append_assoc, intsV, intsV, intsV, ← List.map_append, List.take_append_drop]
        refine C.same (Same.splitAt (k := takeB dt p 5 + 257) (o' := takeB dt p 5 + 257) 6 rfl rfl hsp (by rw [List.append_nil, intsV_length, htl]) (by omega)) ?_
        obtain ⟨c1, J, hraw3, hS⟩ := same_raw hC1 [⟨ab, 0, intsV (acc.take (takeB dt p 5 + 257)) ++ []⟩, ⟨ab, takeB dt p 5 + 257, intsV (acc.drop (takeB dt p 5 + 257)) ++ rest⟩, g1, g2, g3, ⟨fb, 0, [.iface src.t src.v, .pointer none, .int .i64 (ro), .int .u32 (((b) : Nat) : Int), .int .u64 (((nb) : Nat) : Int)]⟩, ⟨fb, 1045, [s0, s1, s2, s3, s4, s5, s6, s7, s8]⟩, ⟨fb, 1035, [.pointer (some ⟨ab, 0, none⟩), .pointer (some ⟨cb, 0, none⟩)]⟩, ⟨cb, 0, intsV (clL dt (p + 14) (takeB dt (p + 10) 4 + 4)) ++ []⟩, ⟨fb, 520, cs2⟩]
        refine C.same hS ?_
        refine C.forget [0, 0, 0, 0, 0, 0, 0, 0, 0, 0, 0] (A := [_, _, _, _, _, _, _, _, _, _, _]) rfl ?_
        refine C.relist (L2 := [⟨fb, 5, c1⟩, ⟨ab, 0, intsV (acc.take (takeB dt p 5 + 257)) ++ []⟩, ⟨ab, takeB dt p 5 + 257, intsV (acc.drop (takeB dt p 5 + 257)) ++ rest⟩, g1, g2, g3, ⟨fb, 0, [.iface src.t src.v, .pointer none, .int .i64 (ro), .int .u32 (((b) : Nat) : Int), .int .u64 (((nb) : Nat) : Int)]⟩, ⟨fb, 1045, [s0, s1, s2, s3, s4, s5, s6, s7, s8]⟩, ⟨fb, 1035, [.pointer (some ⟨ab, 0, none⟩), .pointer (some ⟨cb, 0, none⟩)]⟩, ⟨cb, 0, intsV (clL dt (p + 14) (takeB dt (p + 10) 4 + 4)) ++ []⟩, ⟨fb, 520, cs2⟩]) rfl ?_
        refine C.draw [0, 1, 2, 0, 8, 16, 32, 64, 0, 384, 516, 1024, 3072, 4096, 12288, 20480, 4096, 69632, 135168, 266240, 528384, 4096, 4096, 4096, 12587008, 19927040, 33591296, 67112960, 134221824] (.pure 0 1016 (.pure 1 1017 (.pure 2 1019 (.pure 3 263 (.pure 4 271 (.pure 5 287 (.pure 8 255 (.seg [(6, 319), (7, 383), (9, 511)] (.alt 10 (.pure 11 2047 (.pure 12 4095 (.pure 13 67051519 (.pure 14 67059711 (.pure 15 67076095 (.pure 16 31522815 (.pure 17 31588351 (.pure 18 31719423 (.pure 21 31457279 (.pure 22 12582911 (.pure 23 8388607 (.pure 24 16777215 (.seg [(19, 31981567), (20, 32505855), (25, 33554431)] (.alt 26 (.pure 27 134217727 (.pure 28 268435455 .done)) .stop)))))))))))))) .stop))))))))) mixed (by decide +kernel) ?_
        refine D.pure rfl (S.move rfl) rfl ?_
        refine D.pure rfl (S.nilPtr rfl) rfl ?_
        refine D.pure rfl (S.field rfl fa153_5) rfl ?_
        refine D.pure rfl (S.move rfl) rfl ?_
        refine D.pure rfl (S.nilPtr rfl) rfl ?_
        refine D.pure rfl (S.field rfl fa153_7) rfl ?_
        refine D.pure rfl (S.move rfl) rfl ?_
        refine D.seg (by decide) ?_
        refine W.still rfl (S.load 8 (k := 0) rfl rfl rfl Tryd.isAgg145) rfl ?_
        refine W.pure rfl (S.nilPtr rfl) rfl ?_
        refine W.pure rfl (S.slArr (l := 0) rfl rfl rfl (by omega) (by omega) Tryd.underlying155 Tryd.sizeOf3) rfl ?_
        refine W.reslot (v := .slice (some ⟨ab, 0, none⟩) ((acc.take (takeB dt p 5 + 257)).length) (316)) (slice_to (by simp [part]) (by rw [htl]; rfl) rfl) ?_
        refine W.nil ?_
        refine D.one ?_
        refine O.loud1 rfl (X.call rfl Tryd.call80 (init_in fb 5 ab 0 316 _ [] (acc.take (takeB dt p 5 + 257)) hraw3 (fun x h => ha15 x (List.mem_of_mem_take h)) (by omega) _)) rfl ?_; rintro _ _ ⟨L1, ok2, rfl, hI1, rfl⟩; refine D.relist (L2 := (_ :: _ :: _ :: _ :: _ :: _ :: _ :: _ :: _ :: _ :: _)) rfl ?_
        refine D.pure rfl (S.notB rfl) rfl ?_
        refine D.pure rfl (S.move rfl) rfl ?_
        first | refine D.fork (fun g294 => ?_) (fun g294 => ?_) | refine D.forkB (fun g294 => ?_) (fun g294 => ?_)
        ·
         refine D.skip 294 true rfl rfl rfl rfl rfl ?_
         refine D.skip 294 true rfl rfl rfl rfl rfl ?_
         refine D.skip 294 true rfl rfl rfl rfl rfl ?_
         refine D.skip 294 true rfl rfl rfl rfl rfl ?_
         refine D.skip 294 true rfl rfl rfl rfl rfl ?_
         refine D.skip 294 true rfl rfl rfl rfl rfl ?_
         refine D.skip 294 true rfl rfl rfl rfl rfl ?_
         refine D.skip 294 true rfl rfl rfl rfl rfl ?_
         refine D.skip 294 true rfl rfl rfl rfl rfl ?_
         refine D.skip 294 true rfl rfl rfl rfl rfl ?_
         refine D.seg (by decide) ?_
         refine W.skip 294 true rfl rfl rfl rfl rfl ?_
         refine W.skip 294 true rfl rfl rfl rfl rfl ?_
         refine W.skip 294 true rfl rfl rfl rfl rfl ?_
         refine W.nil ?_
         refine D.one ?_
         refine O.skip 294 true rfl rfl rfl rfl rfl ?_
         refine D.skip 294 true rfl rfl rfl rfl rfl ?_
         refine D.pure rfl (S.pickT rfl rfl) rfl ?_
         refine D.keep [0, 4, 5, 10, 11, 171, 310] (env1 := [(0, _), (4, _), (5, _), (10, _), (11, _), (171, _), (310, _)]) rfl ?_
         refine C.yes rfl (rfl) ?_
         refine C.seq ?_
         obtain ⟨_, hno, hz, hzl, rfl⟩ := hI1.resolve_left (fun h => by rw [h.1] at g294; cases g294)
         refine C.same (Same.joinAt 0 0 rfl rfl (by rw [List.append_nil, intsV_length, htl, Nat.zero_add])) ?_
         refine C.relist (L2 := [⟨ab, 0, intsV acc ++ rest⟩, g1, g2, g3, ⟨fb, 0, [.iface src.t src.v, .pointer none, .int .i64 (ro), .int .u32 (((b) : Nat) : Int), .int .u64 (((nb) : Nat) : Int)]⟩, ⟨fb, 1045, [s0, s1, s2, s3, s4, s5, s6, s7, s8]⟩, ⟨fb, 1035, [.pointer (some ⟨ab, 0, none⟩), .pointer (some ⟨cb, 0, none⟩)]⟩, ⟨cb, 0, intsV (clL dt (p + 14) (takeB dt (p + 10) 4 + 4)) ++ []⟩, ⟨fb, 520, cs2⟩, ⟨fb, 5, hz⟩]) (by rw [hsp]; rfl) ?_
         refine C.region ?_
         refine E.pure (S.move rfl) rfl ?_
         refine E.pure (S.nilPtr rfl) rfl ?_
         refine E.pure (S.field rfl fa153_2) rfl ?_
         refine E.still (S.load 4 (k := 2) rfl rfl rfl Tryd.isAgg2) rfl ?_
         refine E.pure (S.mkIface rfl conc165) rfl ?_
         refine E.reslot (v := Er.val ea (.corrupt _)) (rfl) ?_
         refine E.pure (S.assign rfl) rfl ?_
         refine E.keep [0, 2, 4, 5, 10, 11, 171, 310] (env1 := [(0, _), (2, _), (4, _), (5, _), (10, _), (11, _), (171, _), (310, _)]) rfl ?_
         refine C.ret ?_
         refine ⟨_, rfl, _, [], (Same.perm (picks_perm (A := [_, _, _, _, _, _, _, _, _, _]) (F := []) (is := [1, 1, 1, 1, 1, 1, 0, 0, 1, 0]) rfl)).trans (Same.of_eq rfl), _, _, _, _, _, _, _, _, _, _, _, rfl, ?_, ?_, rfl, .inr ⟨bad_corrupt _, ?_, ⟨_, hA⟩, hz, cs2, hzl, raw_len hraw2, rfl⟩⟩
         · rw [List.length_append, intsV_length]; exact hrl
         · exact hcl9
         · rw [hdy, if_neg (fun h => hno h.1)]
        ·
         refine D.yes 294 rfl rfl rfl (OpP.toK (S.move rfl)) rfl ?_
         refine D.yes 294 rfl rfl rfl (OpP.toK (S.nilPtr rfl)) rfl ?_
         refine D.yes 294 rfl rfl rfl (OpP.toK (S.field rfl fa153_6)) rfl ?_
         refine D.yes 294 rfl rfl rfl (OpP.toK (S.move rfl)) rfl ?_
         refine D.yes 294 rfl rfl rfl (OpP.toK (S.nilPtr rfl)) rfl ?_
         refine D.yes 294 rfl rfl rfl (OpP.toK (S.field rfl fa153_7)) rfl ?_
         refine D.yes 294 rfl rfl rfl (OpP.toK (S.move rfl)) rfl ?_
         refine D.yes 294 rfl rfl rfl (OpP.toK (S.move rfl)) rfl ?_
         refine D.yes 294 rfl rfl rfl (OpP.toK (S.move rfl)) rfl ?_
         refine D.yes 294 rfl rfl rfl (OpP.toK (S.add rfl rfl (N.add64 (by omega)))) rfl ?_
         refine D.seg (by decide) ?_
         refine W.yes 294 rfl rfl rfl (S.load 7 (k := 0) rfl rfl rfl Tryd.isAgg145) rfl ?_
         refine W.yes 294 rfl rfl rfl (fun a w hf _ => (S.nilPtr rfl) a w hf) rfl ?_
         refine W.yes 294 rfl rfl rfl (fun a w hf _ => (S.slArr rfl rfl rfl (by omega) (by omega) Tryd.underlying155 Tryd.sizeOf3) a w hf) rfl ?_
         refine W.reslot (v := .slice (some ⟨ab, takeB dt p 5 + 257, none⟩) ((acc.drop (takeB dt p 5 + 257)).length) (316 - (takeB dt p 5 + 257))) (slice_to (by rw [part, if_neg (by omega)]; omega) (by rw [hdl]; omega) rfl) ?_
         refine W.nil ?_
         refine D.one ?_
         refine O.yes 294 rfl rfl rfl (OpX.perm (picks_perm (is := [9, 1]) (A := [_, _]) (F := _ :: _ :: _ :: _ :: _ :: _ :: _ :: _ :: _) rfl) (X.call rfl Tryd.call80 (init_in fb 520 ab (takeB dt p 5 + 257) (316 - (takeB dt p 5 + 257)) _ rest (acc.drop (takeB dt p 5 + 257)) hraw2 (fun x h => ha15 x (List.mem_of_mem_drop h)) (by omega) _))) rfl ?_; rintro _ _ ⟨L2, ok3, rfl, hI2, rfl⟩; refine D.relist (L2 := (_ :: _ :: _ :: _ :: _ :: _ :: _ :: _ :: _ :: _)) rfl ?_
         refine D.yes 294 rfl rfl rfl (OpP.toK (S.notB rfl)) rfl ?_
         refine D.pure rfl (S.pickF rfl rfl) rfl ?_
         refine D.keep [0, 4, 5, 10, 11, 171, 310] (env1 := [(0, _), (4, _), (5, _), (10, _), (11, _), (171, _), (310, _)]) rfl ?_
         first | refine C.ifp rfl (fun h310 => ?_) (fun h310 => ?_) | refine C.ifNone rfl (fun h310 => ?_) (fun h310 => ?_) | refine C.ifSome rfl (fun h310 => ?_) (fun h310 => ?_) | refine C.ifSe rfl (fun h310 => ?_) (fun h310 => ?_) | refine C.ifNotSe rfl (fun h310 => ?_) (fun h310 => ?_) | refine C.cond rfl (fun h310 => ?_) (fun h310 => ?_)
         ·
          obtain ⟨_, hno, hz, hzl, rfl⟩ := hI2.resolve_left (fun h => by rw [h.1] at h310; cases h310)
          obtain ⟨_, hok1, hH1⟩ := hI1.resolve_right (fun h => by rw [h.1] at g294; cases g294)
          refine C.seq ?_
          refine C.same (Same.joinAt 1 0 rfl rfl (by rw [List.append_nil, intsV_length, htl, Nat.zero_add])) ?_
          refine C.relist (L2 := ⟨ab, 0, intsV acc ++ rest⟩ :: g1 :: g2 :: g3 :: ⟨fb, 0, [.iface src.t src.v, .pointer none, .int .i64 (ro), .int .u32 (((b) : Nat) : Int), .int .u64 (((nb) : Nat) : Int)]⟩ :: ⟨fb, 1045, [s0, s1, s2, s3, s4, s5, s6, s7, s8]⟩ :: ⟨fb, 1035, [.pointer (some ⟨ab, 0, none⟩), .pointer (some ⟨cb, 0, none⟩)]⟩ :: ⟨cb, 0, intsV (clL dt (p + 14) (takeB dt (p + 10) 4 + 4)) ++ []⟩ :: (L1 ++ [⟨fb, 520, hz⟩])) (by rw [hsp]; rfl) ?_
          refine C.region ?_
          refine E.pure (S.move rfl) rfl ?_
          refine E.pure (S.nilPtr rfl) rfl ?_
          refine E.pure (S.field rfl fa153_2) rfl ?_
          refine E.still (S.load 4 (k := 2) rfl rfl rfl Tryd.isAgg2) rfl ?_
          refine E.pure (S.mkIface rfl conc165) rfl ?_
          refine E.reslot (v := Er.val ea (.corrupt _)) (rfl) ?_
          refine E.pure (S.assign rfl) rfl ?_
          refine E.keep [0, 2, 4, 5, 10, 11, 171, 310] (env1 := [(0, _), (2, _), (4, _), (5, _), (10, _), (11, _), (171, _), (310, _)]) rfl ?_
          refine C.ret ?_
          exact ⟨_, rfl, rh_bad3 hH1 (bad_corrupt _) (by rw [hdy, if_neg (fun h => hno h.2)]) hA (by rw [List.length_append, intsV_length]; exact hrl) hcl9 hzl⟩
         ·
          obtain ⟨_, hok2, hH2⟩ := hI2.resolve_right (fun h => by rw [h.1] at h310; cases h310)
          obtain ⟨_, hok1, hH1⟩ := hI1.resolve_right (fun h => by rw [h.1] at g294; cases g294)
          refine C.skip ?_
          refine C.seq ?_
          refine C.seq ?_
          obtain ⟨f, g, nt, nk, lv, T1, hTab, hfb, hgb, hnk0, hnk64, hke, hz0, rfl, hT⟩ := hH1
          refine C.same (Same.joinAt 1 0 rfl rfl (by rw [List.append_nil, intsV_length, htl, Nat.zero_add])) ?_
          refine C.relist (L2 := ⟨ab, 0, intsV acc ++ rest⟩ :: g1 :: g2 :: g3 :: ⟨fb, 0, [.iface src.t src.v, .pointer none, .int .i64 (ro), .int .u32 (((b) : Nat) : Int), .int .u64 (((nb) : Nat) : Int)]⟩ :: ⟨fb, 1045, [s0, s1, s2, s3, s4, s5, s6, s7, s8]⟩ :: ⟨fb, 1035, [.pointer (some ⟨ab, 0, none⟩), .pointer (some ⟨cb, 0, none⟩)]⟩ :: ⟨cb, 0, intsV (clL dt (p + 14) (takeB dt (p + 10) 4 + 4)) ++ []⟩ :: ⟨fb, 5, [.int .i64 ((minL (acc.take (takeB dt p 5 + 257)) : Nat) : Int)]⟩ :: ⟨fb, 5 + 1, cellsU 512 f⟩ :: ⟨fb, 5 + 513, [lv, .int .u32 ((nk - 1 : Nat) : Int)]⟩ :: (T1 ++ L2)) (by rw [hsp]; rfl) ?_
          refine C.draw [0, 1, 2, 4, 8, 0, 32, 64, 128, 256, 512, 1024, 2064] (.pure 0 4064 (.pure 1 4065 (.pure 2 4067 (.pure 3 4071 (.pure 5 31 (.pure 6 63 (.pure 7 127 (.seg [(4, 4079), (8, 255), (9, 511), (10, 1023), (11, 2047), (12, 4095)] .done)))))))) mixed (by decide +kernel) ?_
          refine D.pure rfl (S.move rfl) rfl ?_
          refine D.pure rfl (S.nilPtr rfl) rfl ?_
          refine D.pure rfl (S.field rfl fa153_5) rfl ?_
          refine D.pure rfl (S.field rfl fa144_0) rfl ?_
          refine D.pure rfl (S.move rfl) rfl ?_
          refine D.pure rfl (S.nilPtr rfl) rfl ?_
          refine D.pure rfl (S.field rfl fa153_7) rfl ?_
          refine D.seg (by decide) ?_
          refine W.still rfl (S.load 8 (k := 0) rfl rfl rfl Tryd.isAgg3) rfl ?_
          refine W.still rfl (S.load 6 (k := 0) rfl rfl rfl Tryd.isAgg145) rfl ?_
          refine W.pure rfl (S.nilPtr rfl) rfl ?_
          refine W.pure rfl (S.ixArr (i := 256) rfl rfl (by omega) Tryd.underlying155 Tryd.sizeOf3) rfl ?_
          refine W.still rfl (S.load 0 (k := 256 * 1) rfl rfl (get_256 (by omega)) Tryd.isAgg3) rfl ?_
          refine W.pure rfl (S.lt rfl rfl) rfl ?_
          refine W.nil ?_
          refine D.keep [0, 4, 5, 10, 11, 171, 310, 328] (env1 := [(0, _), (4, _), (5, _), (10, _), (11, _), (171, _), (310, _), (328, _)]) rfl ?_
          refine C.ifp rfl (fun h328 => ?_) (fun h328 => ?_)
          ·
           refine C.region ?_
           refine E.pure (S.move rfl) rfl ?_
           refine E.pure (S.move rfl) rfl ?_
           refine E.pure (S.nilPtr rfl) rfl ?_
           refine E.pure (S.field rfl fa153_7) rfl ?_
           refine E.still (S.load 6 (k := 0) rfl rfl rfl Tryd.isAgg145) rfl ?_
           refine E.pure (S.nilPtr rfl) rfl ?_
           refine E.pure (S.ixArr (i := 256) rfl rfl (by omega) Tryd.underlying155 Tryd.sizeOf3) rfl ?_
           refine E.still (S.load 0 (k := 256 * 1) rfl rfl (get_256 (by omega)) Tryd.isAgg3) rfl ?_
           refine E.pure (S.nilPtr rfl) rfl ?_
           refine E.pure (S.field rfl fa153_5) rfl ?_
           refine E.pure (S.field rfl fa144_0) rfl ?_
           refine E.loud0 (X.store 8 (k := 0) rfl rfl rfl rfl rfl Tryd.sizeOf3) ?_; rintro _ _ ⟨rfl, rfl⟩; refine E.relist (L2 := (_ :: _ :: _ :: _ :: _ :: _ :: _ :: _ :: _ :: _ :: _ :: _)) rfl ?_
           refine E.keep [0, 4, 5, 10, 11, 171, 310, 328] (env1 := [(0, _), (4, _), (5, _), (10, _), (11, _), (171, _), (310, _), (328, _)]) rfl ?_
           refine C.seq ?_
           refine C.region ?_
           refine E.pure (S.assign (v := Er.val ea .none) rfl) rfl ?_
           refine E.keep [0, 2, 4, 5, 10, 11, 171, 310, 328] (env1 := [(0, _), (2, _), (4, _), (5, _), (10, _), (11, _), (171, _), (310, _), (328, _)]) rfl ?_
           refine C.ret ?_
           have h256 : 256 < acc.length := by omega
           have he : lenOf (acc.take (takeB dt p 5 + 257)) 256 = acc.getD 256 0 := by rw [lenOf, List.getD_eq_getElem?_getD, List.getElem?_take, if_pos (by omega), ← List.getD_eq_getElem?_getD]
           have hl15 : ∀ s, lenOf (acc.take (takeB dt p 5 + 257)) s ≤ 15 := le_lenOf fun x h => ha15 x (List.mem_of_mem_take h)
           have hd15 : ∀ s, lenOf (acc.drop (takeB dt p 5 + 257)) s ≤ 15 := le_lenOf fun x h => ha15 x (List.mem_of_mem_drop h)
           rw [if_pos ⟨hok1, hok2⟩, ← he] at hdy
           have hm15 := min_15 hl15
           have hm256 := hl15 256
           have hmx : acc.getD 256 0 = max (minL (acc.take (takeB dt p 5 + 257))) (lenOf (acc.take (takeB dt p 5 + 257)) 256) := by rw [he]; omega
           have hH3 : HufT (acc.take (takeB dt p 5 + 257)) (max (minL (acc.take (takeB dt p 5 + 257))) (lenOf (acc.take (takeB dt p 5 + 257)) 256)) fb 5 ([⟨fb, 5, [.int .i64 ((acc.getD 256 0 : Nat) : Int)]⟩, ⟨fb, 5 + 1, cellsU 512 f⟩, ⟨fb, 5 + 513, [lv, .int .u32 ((nk - 1 : Nat) : Int)]⟩] ++ T1) := by
             rw [← hmx]; exact ⟨f, g, nt, nk, lv, T1, hTab, hfb, hgb, hnk0, hnk64, hke, fun h => by omega, rfl, hT⟩
           refine ⟨_, rfl, _, [], (Same.perm (picks_perm (A := [_, _, _, _, _, _, _, _]) (F := _) (is := [1, 1, 1, 1, 1, 1, 0, 0]) rfl)).trans (Same.of_eq (List.append_nil _).symm), _, _, _, _, _, _, _, _, _, _, _, rfl, ?_, hcl9, rfl, .inl ⟨rfl, _, pp, q, b, nb, ro, _, L2, hdy, hA, hB, hnb, ⟨hH3, hok1, hl15, Nat.le_max_left _ _, (by show max _ _ ≤ 15; omega), ?_, by simp only; omega⟩, .inr ⟨fb, 520, rfl, hH2, hok2, hd15, by simp only; omega⟩, rfl, rfl, rfl, rfl, rfl⟩⟩
           · rw [List.length_append, intsV_length]; exact hrl
           · simp only
             rcases Nat.eq_zero_or_pos (lenOf (acc.take (takeB dt p 5 + 257)) 256) with h0 | h0
             · exact .inl h0
             · right
               have h6 : minL (acc.take (takeB dt p 5 + 257)) ≤ lenOf (acc.take (takeB dt p 5 + 257)) 256 := by have hlt0 := lenOf_lt h0; rw [lenOf_get hlt0] at h0 ⊢; exact (minL_spec _).2.1 _ (List.getElem_mem _) (by omega)
               omega
          ·
           refine C.skip ?_
           refine C.seq ?_
           refine C.region ?_
           refine E.pure (S.assign (v := Er.val ea .none) rfl) rfl ?_
           refine E.keep [0, 2, 4, 5, 10, 11, 171, 310, 328] (env1 := [(0, _), (2, _), (4, _), (5, _), (10, _), (11, _), (171, _), (310, _), (328, _)]) rfl ?_
           refine C.ret ?_
           have h256 : 256 < acc.length := by omega
           have he : lenOf (acc.take (takeB dt p 5 + 257)) 256 = acc.getD 256 0 := by rw [lenOf, List.getD_eq_getElem?_getD, List.getElem?_take, if_pos (by omega), ← List.getD_eq_getElem?_getD]
           have hl15 : ∀ s, lenOf (acc.take (takeB dt p 5 + 257)) s ≤ 15 := le_lenOf fun x h => ha15 x (List.mem_of_mem_take h)
           have hd15 : ∀ s, lenOf (acc.drop (takeB dt p 5 + 257)) s ≤ 15 := le_lenOf fun x h => ha15 x (List.mem_of_mem_drop h)
           rw [if_pos ⟨hok1, hok2⟩, ← he] at hdy
           have hm15 := min_15 hl15
           have hm256 := hl15 256
           have hmx : minL (acc.take (takeB dt p 5 + 257)) = max (minL (acc.take (takeB dt p 5 + 257))) (lenOf (acc.take (takeB dt p 5 + 257)) 256) := by rw [he]; omega
           have hH3 : HufT (acc.take (takeB dt p 5 + 257)) (max (minL (acc.take (takeB dt p 5 + 257))) (lenOf (acc.take (takeB dt p 5 + 257)) 256)) fb 5 ([⟨fb, 5, [.int .i64 ((minL (acc.take (takeB dt p 5 + 257)) : Nat) : Int)]⟩, ⟨fb, 5 + 1, cellsU 512 f⟩, ⟨fb, 5 + 513, [lv, .int .u32 ((nk - 1 : Nat) : Int)]⟩] ++ T1) := by
             rw [← hmx]; exact ⟨f, g, nt, nk, lv, T1, hTab, hfb, hgb, hnk0, hnk64, hke, hz0, rfl, hT⟩
           refine ⟨_, rfl, _, [], (Same.perm (picks_perm (A := [_, _, _, _, _, _, _, _]) (F := _) (is := [1, 1, 1, 1, 1, 1, 0, 0]) rfl)).trans (Same.of_eq (List.append_nil _).symm), _, _, _, _, _, _, _, _, _, _, _, rfl, ?_, hcl9, rfl, .inl ⟨rfl, _, pp, q, b, nb, ro, _, L2, hdy, hA, hB, hnb, ⟨hH3, hok1, hl15, Nat.le_max_left _ _, (by show max _ _ ≤ 15; omega), ?_, by simp only; omega⟩, .inr ⟨fb, 520, rfl, hH2, hok2, hd15, by simp only; omega⟩, rfl, rfl, rfl, rfl, rfl⟩⟩
           · rw [List.length_append, intsV_length]; exact hrl
           · simp only
             rcases Nat.eq_zero_or_pos (lenOf (acc.take (takeB dt p 5 + 257)) 256) with h0 | h0
             · exact .inl h0
             · right
               have h6 : minL (acc.take (takeB dt p 5 + 257)) ≤ lenOf (acc.take (takeB dt p 5 + 257)) 256 := by have hlt0 := lenOf_lt h0; rw [lenOf_get hlt0] at h0 ⊢; exact (minL_spec _).2.1 _ (List.getElem_mem _) (by omega)
               omega
end Go.Eng
namespace Go.Eng
open Go Go.Proofs
set_option maxRecDepth 100000

/-! ### All of the output begins with what was told -/

theorem copyN_pre (out : List UInt8) (d : Nat) : ∀ n, ∃ s, copyN out d n = out ++ s
  | 0 => ⟨[], (List.append_nil _).symm⟩
  | n + 1 => by
    obtain ⟨s, hs⟩ := copyN_pre out d n
    exact ⟨s ++ [(copyN out d n).getD ((copyN out d n).length - d) 0], by rw [copyN, hs, List.append_assoc]⟩

theorem run_pre_aux (D : List UInt8) : ∀ k ph out p, 8 * D.length - p < k → ∃ s, (run D ph out p).1 = out ++ s := by
  intro k
  induction k with
  | zero => exact fun ph out p hk => absurd hk (Nat.not_lt_zero _)
  | succ k ih =>
    intro ph out p hk
    have nl : ∀ s, ∃ s', out ++ s = out ++ s' := fun s => ⟨s, rfl⟩
    have n0 : ∃ s', out = out ++ s' := ⟨[], (List.append_nil _).symm⟩
    have st : ∀ ph s p2, p < p2 ∧ p2 ≤ 8 * D.length → ∃ s', (run D ph (out ++ s) p2).1 = out ++ s' := fun ph s p2 h => by
      obtain ⟨s', hs⟩ := ih ph (out ++ s) p2 (by omega)
      exact ⟨s ++ s', by rw [hs, List.append_assoc]⟩
    have s0 : ∀ ph p2, p < p2 ∧ p2 ≤ 8 * D.length → ∃ s', (run D ph out p2).1 = out ++ s' := fun ph p2 h => ih ph out p2 (by omega)
    have cp : ∀ ph d n p2, p < p2 ∧ p2 ≤ 8 * D.length → ∃ s', (run D ph (copyN out d n) p2).1 = out ++ s' := fun ph d n p2 h => by
      obtain ⟨s, hs⟩ := copyN_pre out d n
      rw [hs]; exact st _ _ _ h
    rw [run.eq_def]
    repeat (first
      | exact n0
      | exact nl _
      | (rename_i h; exact st _ _ _ h)
      | (rename_i h; exact s0 _ _ h)
      | (rename_i h; exact cp _ _ _ _ h)
      | split)

theorem run_pre (D : List UInt8) (ph : Ph) (out : List UInt8) (p : Nat) : ∃ s, (run D ph out p).1 = out ++ s := run_pre_aux D _ ph out p (Nat.le_refl _)
theorem stored_pre (D : List UInt8) (last : Bool) (n : Nat) (out : List UInt8) (q : Nat) : ∃ s, (stored D last n out q).1 = out ++ s := by
  unfold stored
  split
  · exact ⟨_, rfl⟩
  · split
    · exact ⟨_, rfl⟩
    · obtain ⟨s, hs⟩ := run_pre D .next (out ++ (D.drop q).take n) (8 * (q + n))
      exact ⟨(D.drop q).take n ++ s, by rw [hs, List.append_assoc]⟩

/-! ### What is read out of the window -/

theorem TR.drop {hb n : Nat} {h pend : List UInt8} {a : Option Addr} {c : Nat} (t : TR hb h pend (.slice a pend.length c)) (hn : n ≤ pend.length) {a2 : Option Addr} {c2 : Nat} (ha : ∀ off, a = some ⟨hb, off, none⟩ → n < pend.length → pend.length ≤ c → a2 = some ⟨hb, off + n, none⟩ ∧ pend.length - n ≤ c2) :
    TR hb h (pend.drop n) (.slice a2 (pend.length - n) c2) := by
  obtain ⟨a', c', e, h1, h2⟩ := t
  cases e
  refine ⟨a2, c2, by rw [List.length_drop], by rw [List.length_drop]; omega, ?_⟩
  rcases Nat.lt_or_ge n pend.length with hlt | hge
  · right
    rcases h2 with rfl | ⟨off, e2, h3, h5⟩
    · simp at hlt
    · refine ⟨off + n, (ha off e2 hlt h5).1, ?_, by rw [List.length_drop]; exact (ha off e2 hlt h5).2⟩
      have h4 : ((h.drop off).take pend.length).drop n = pend.drop n := by rw [h3]
      rw [List.drop_take] at h4
      rw [List.length_drop, ← List.drop_drop]
      exact h4
  · exact .inl (List.drop_eq_nil_of_le hge)

/-- n of the waiting bytes are given. -/
theorem WinSt.give {fb hb gv n : Nat} {out pend : List UInt8} {trv trv2 : Value} {h : List UInt8} {wr rd : Nat} {full : Bool} {A B : Frag} (W : WinSt fb hb gv out pend trv h wr rd full A B) (hn : n ≤ pend.length) (ht : TR hb h (pend.drop n) trv2) :
    WinSt fb hb (gv + n) out (pend.drop n) trv2 h wr rd full A B := by
  refine ⟨W.hist, W.rdLe, W.wrLt, ?_, ?_, ht, W.isA, W.isB⟩
  · have := W.sum
    rw [List.length_drop]; omega
  · have := W.pendIs
    rw [List.length_drop, ← List.drop_drop, ← List.drop_take, ← this]

/-! ### The rest of a decompressor -/

/-- With both decoders raw. -/
def RawTL (fb : Nat) (TL : Frags) : Prop :=
  ∃ ab cb ws av cs c1 c2, ws.length = 4 ∧ av.length = 316 ∧ cs.length = 19 ∧ RawH c1 ∧ RawH c2 ∧ TL = [⟨fb, 1041, ws⟩, ⟨fb, 1035, [.pointer (some ⟨ab, 0, none⟩), .pointer (some ⟨cb, 0, none⟩)]⟩, ⟨ab, 0, av⟩, ⟨cb, 0, cs⟩, ⟨fb, 5, c1⟩, ⟨fb, 520, c2⟩]
/-- With decoders that are of no use any more. -/
def JunkTL (fb : Nat) (TL : Frags) : Prop :=
  ∃ ab cb ws av cs c1 c2, ws.length = 4 ∧ av.length = 316 ∧ cs.length = 19 ∧ c1.length = 515 ∧ c2.length = 515 ∧ TL = [⟨fb, 1041, ws⟩, ⟨fb, 1035, [.pointer (some ⟨ab, 0, none⟩), .pointer (some ⟨cb, 0, none⟩)]⟩, ⟨ab, 0, av⟩, ⟨cb, 0, cs⟩, ⟨fb, 5, c1⟩, ⟨fb, 520, c2⟩]
/-- With the tables of a block. -/
def SymTL (fb : Nat) (t : Tabs) (hl hd : Value) (TL : Frags) : Prop :=
  ∃ ab cb ws av cs lb lo hp HL HD RT, ws.length = 4 ∧ av.length = 316 ∧ cs.length = 19 ∧ hl = .pointer (some ⟨lb, lo, none⟩) ∧ hd = .pointer hp ∧ LitT t lb lo HL ∧ DistT t hp HD ∧
    TL = ⟨fb, 1041, ws⟩ :: ⟨fb, 1035, [.pointer (some ⟨ab, 0, none⟩), .pointer (some ⟨cb, 0, none⟩)]⟩ :: ⟨ab, 0, av⟩ :: ⟨cb, 0, cs⟩ :: (RT ++ (HL ++ HD)) ∧
    ∃ c1 c2 J, RawH c1 ∧ RawH c2 ∧ ∀ G, Same (G ++ (RT ++ (HL ++ HD))) ((G ++ [⟨fb, 5, c1⟩, ⟨fb, 520, c2⟩]) ++ J)

theorem RawTL.junk {fb : Nat} {TL : Frags} (h : RawTL fb TL) : JunkTL fb TL := by
  obtain ⟨ab, cb, ws, av, cs, c1, c2, h1, h2, h3, h4, h5, h6⟩ := h
  exact ⟨ab, cb, ws, av, cs, c1, c2, h1, h2, h3, raw_len h4, raw_len h5, h6⟩
theorem SymTL.raw {fb : Nat} {t : Tabs} {hl hd : Value} {TL : Frags} (h : SymTL fb t hl hd TL) (G : Frags) : ∃ TL2 J, RawTL fb TL2 ∧ Same (G ++ TL) ((G ++ TL2) ++ J) := by
  obtain ⟨ab, cb, ws, av, cs, lb, lo, hp, HL, HD, RT, h1, h2, h3, h4, h5, h6, h7, rfl, c1, c2, J, h8, h9, hS⟩ := h
  refine ⟨[_, _, _, _, _, _], J, ⟨ab, cb, ws, av, cs, c1, c2, h1, h2, h3, h8, h9, rfl⟩, ?_⟩
  have := hS (G ++ [⟨fb, 1041, ws⟩, ⟨fb, 1035, [.pointer (some ⟨ab, 0, none⟩), .pointer (some ⟨cb, 0, none⟩)]⟩, ⟨ab, 0, av⟩, ⟨cb, 0, cs⟩])
  simpa only [List.append_assoc, List.cons_append, List.nil_append] using this

/-- The tables of a block with codes of its own. -/
theorem symTL_own {fb ab cb : Nat} {t : Tabs} {HL HD : Frags} {ws av cs : List Value} (h1 : ws.length = 4) (h2 : av.length = 316) (h3 : cs.length = 19) (hL : LitT t fb 5 HL) (hD : DistT t (some ⟨fb, 520, none⟩) HD) :
    SymTL fb t (.pointer (some ⟨fb, 5, none⟩)) (.pointer (some ⟨fb, 520, none⟩)) (⟨fb, 1041, ws⟩ :: ⟨fb, 1035, [.pointer (some ⟨ab, 0, none⟩), .pointer (some ⟨cb, 0, none⟩)]⟩ :: ⟨ab, 0, av⟩ :: ⟨cb, 0, cs⟩ :: (HL ++ HD)) := by
  obtain ⟨c1, J1, r1, s1⟩ := huf_raw hL.huf
  obtain ⟨c2, J2, r2, s2⟩ : ∃ c2 J2, RawH c2 ∧ ∀ F, Same (HD ++ F) (⟨fb, 520, c2⟩ :: (J2 ++ F)) := by
    rcases hD with ⟨h, _⟩ | ⟨db, dO, e, hh, _⟩
    · cases h
    · cases e; exact huf_raw hh
  refine ⟨ab, cb, ws, av, cs, fb, 5, _, HL, HD, [], h1, h2, h3, rfl, rfl, hL, hD, rfl, c1, c2, J1 ++ J2, r1, r2, fun G => ?_⟩
  refine (Same.appendL G (s1 HD)).trans ?_
  have p1 : (G ++ (⟨fb, 5, c1⟩ :: (J1 ++ HD))).Perm (HD ++ (G ++ (⟨fb, 5, c1⟩ :: J1))) := by
    rw [show G ++ (⟨fb, 5, c1⟩ :: (J1 ++ HD)) = (G ++ (⟨fb, 5, c1⟩ :: J1)) ++ HD by simp]
    exact List.perm_append_comm
  refine (Same.perm p1).trans ((s2 _).trans (Same.perm ?_))
  have p2 : (⟨fb, 520, c2⟩ :: (J2 ++ (G ++ (⟨fb, 5, c1⟩ :: J1)))).Perm (⟨fb, 520, c2⟩ :: ((G ++ (⟨fb, 5, c1⟩ :: J1)) ++ J2)) := .cons _ List.perm_append_comm
  refine p2.trans ?_
  rw [show ((G ++ [⟨fb, 5, c1⟩, ⟨fb, 520, c2⟩]) ++ (J1 ++ J2)) = (G ++ [⟨fb, 5, c1⟩]) ++ (⟨fb, 520, c2⟩ :: (J1 ++ J2)) by simp]
  refine List.Perm.trans ?_ List.perm_middle.symm
  rw [show (G ++ (⟨fb, 5, c1⟩ :: J1)) ++ J2 = (G ++ [⟨fb, 5, c1⟩]) ++ (J1 ++ J2) by simp]
/-- The tables of a block with the fixed codes. -/
theorem symTL_fix {fb ab cb qb : Nat} {HL : Frags} {t : Tabs} {ws av cs c1 c2 : List Value} (h1 : ws.length = 4) (h2 : av.length = 316) (h3 : cs.length = 19) (r1 : RawH c1) (r2 : RawH c2) (hL : LitT t qb 0 HL) (hD : DistT t none []) :
    SymTL fb t (.pointer (some ⟨qb, 0, none⟩)) (.pointer none) (⟨fb, 1041, ws⟩ :: ⟨fb, 1035, [.pointer (some ⟨ab, 0, none⟩), .pointer (some ⟨cb, 0, none⟩)]⟩ :: ⟨ab, 0, av⟩ :: ⟨cb, 0, cs⟩ :: ⟨fb, 5, c1⟩ :: ⟨fb, 520, c2⟩ :: HL) :=
  ⟨ab, cb, ws, av, cs, qb, 0, _, HL, [], [⟨fb, 5, c1⟩, ⟨fb, 520, c2⟩], h1, h2, h3, rfl, rfl, hL, hD, by rw [List.append_nil]; rfl, c1, c2, HL, r1, r2, fun G => by
    rw [List.append_nil, List.append_assoc]; exact Same.refl _⟩

/-! ### A decompressor between two steps -/

/-- All of a decompressor; m tells how far it is from its end. -/
def DecSt {K : Known} {ea : Fin 5 → Addr} (src : Src K ea) (dt : List UInt8) (fb hb : Nat) (R : ResR) (gv : Nat) (pend : List UInt8) (m : Nat) (x1 x2 x3 A T W H : Frag) (TL : Frags) : Prop :=
  (∃ p, m = 8 * dt.length - p + 1 ∧ NextSt src dt fb hb R gv pend p x1 x2 x3 A T W H ∧ RawTL fb TL) ∨
  (m = 8 * dt.length + 2 ∧ ∃ t last hl hd, SymSt src dt fb hb R gv pend t last hl hd 74 x1 x2 x3 A T W H ∧ SymTL fb t hl hd TL) ∨
  (m = 8 * dt.length + 2 ∧ ∃ q, StorSt src dt fb hb R gv pend q x1 x2 x3 A T W H ∧ RawTL fb TL) ∨
  (m = 0 ∧ EndSt src dt fb hb R gv pend x1 x2 x3 A T W H ∧ JunkTL fb TL)

/-- What a step makes of it: there is something to read, or it is nearer to its end. -/
def StepEnd {K : Known} {ea : Fin 5 → Addr} (src : Src K ea) (dt : List UInt8) (fb hb : Nat) (R : ResR) (gv m : Nat) (r : Value) (L : Frags) : Prop :=
  r = .tuple #[] ∧ ∃ pend m2 y1 y2 y3 A T W H TL, (pend ≠ [] ∨ m2 < m) ∧ DecSt src dt fb hb R gv pend m2 y1 y2 y3 A T W H TL ∧ L = y1 :: y2 :: y3 :: A :: T :: W :: H :: TL

/-- What the code sees of it. -/
structure DecV {K : Known} {ea : Fin 5 → Addr} (src : Src K ea) (dt : List UInt8) (fb hb : Nat) (R : ResR) (gv : Nat) (pend : List UInt8) (m : Nat) (x1 x2 x3 A T W H : Frag) (TL : Frags) (er : Er) (fv c1 c2 c5 c6 c7 c8 trv : Value) (h : List UInt8) (wr rd : Nat) (full : Bool) : Prop where
  isT : T = ⟨fb, 1045, [fv, c1, c2, Er.val ea er, trv, c5, c6, c7, c8]⟩
  isW : W = ⟨fb, 1037, [.slice (some ⟨hb, 0, none⟩) 32768 32768, .int .i64 ((wr : Nat) : Int), .int .i64 ((rd : Nat) : Int), .bool full]⟩
  isH : H = ⟨hb, 0, bytesV h⟩
  len : h.length = 32768
  rdLe : rd ≤ wr
  wrLt : wr < 32768
  tr : TR hb h pend trv
  gvLe : gv + pend.length ≤ R.1.length
  pendIs : pend = (R.1.drop gv).take pend.length
  kind : (er = .none ∧ 0 < m ∧ ∃ k, fv = .func (.func k) #[] #[] ∧ (k = 67 ∨ k = 74 ∨ k = 79)) ∨ (er ≠ .none ∧ m = 0 ∧ EndOk src dt R.2 er x1 x2 x3 ∧ (pend = [] ∨ gv + pend.length = R.1.length))
  give : ∀ n trv2, n ≤ pend.length → TR hb h (pend.drop n) trv2 → DecSt src dt fb hb R (gv + n) (pend.drop n) m x1 x2 x3 A ⟨fb, 1045, [fv, c1, c2, Er.val ea er, trv2, c5, c6, c7, c8]⟩ W H TL
  flush : ∀ v A2, er ≠ .none → pend = [] → FlushEnd fb 1037 hb wr rd full v A2 → DecSt src dt fb hb R gv (R.1.drop gv) 0 x1 x2 x3 A ⟨fb, 1045, [fv, c1, c2, Er.val ea er, v, c5, c6, c7, c8]⟩ A2 H TL

theorem WinSt.facts {fb hb gv : Nat} {out pend : List UInt8} {trv : Value} {h : List UInt8} {wr rd : Nat} {full : Bool} {A B : Frag} (W : WinSt fb hb gv out pend trv h wr rd full A B) {r s : List UInt8} (hr : r = out ++ s) :
    h.length = 32768 ∧ gv + pend.length ≤ r.length ∧ pend = (r.drop gv).take pend.length := by
  have hs := W.sum
  have hl := W.hist.len
  refine ⟨hl, by rw [hr, List.length_append]; omega, ?_⟩
  have := W.pendIs
  rw [hr, List.drop_append_of_le_length (by omega), List.take_append_of_le_length (by rw [List.length_drop]; omega), ← this]

theorem endOk_ne {K : Known} {ea : Fin 5 → Addr} {src : Src K ea} {dt : List UInt8} {e : EndR} {er : Er} {x1 x2 x3 : Frag} (h : EndOk src dt e er x1 x2 x3) : er ≠ .none := by
  rcases h with ⟨q, _, rfl, _⟩ | ⟨_, h, _⟩
  · intro h; cases h
  · exact h.2

theorem DecSt.view {K : Known} {ea : Fin 5 → Addr} {src : Src K ea} {dt : List UInt8} {fb hb : Nat} {R : ResR} {gv : Nat} {pend : List UInt8} {m : Nat} {x1 x2 x3 A T W H : Frag} {TL : Frags} (D : DecSt src dt fb hb R gv pend m x1 x2 x3 A T W H TL) :
    ∃ er fv c1 c2 c5 c6 c7 c8 trv h wr rd full, DecV src dt fb hb R gv pend m x1 x2 x3 A T W H TL er fv c1 c2 c5 c6 c7 c8 trv h wr rd full := by
  rcases D with ⟨p, rfl, ⟨q, nb, out, trv, h, wr, rd, full, ss, fin, hl, hd, cl, cd, hh, hn, hW, rfl, hss, hR⟩, hT⟩ | ⟨rfl, t, last, hl, hd, ⟨p, q, nb, out, trv, h, wr, rd, full, ss, cl, cd, hh, hn, hW, rfl, hR⟩, hT⟩ | ⟨rfl, q, ⟨out, trv, h, wr, rd, full, ss, last, hl, hd, cl, cd, hh, hW, rfl, hss, hcl, hR⟩, hT⟩ | ⟨rfl, ⟨out, e, er, trv, h, wr, rd, full, hE, hA, hW, ⟨a, b, c, d, f, g, i, rfl⟩, hR, hall⟩, hT⟩
  · obtain ⟨s, hs⟩ := run_pre dt .next out p
    rw [← hR] at hs
    have hf := hW.facts hs
    exact ⟨.none, _, _, _, _, _, _, _, trv, h, wr, rd, full, rfl, hW.isA, hW.isB, hf.1, hW.rdLe, hW.wrLt, hW.tr, hf.2.1, hf.2.2, .inl ⟨rfl, by omega, _, rfl, .inl rfl⟩,
      fun n trv2 hn2 ht => .inl ⟨p, rfl, ⟨q, nb, out, trv2, h, wr, rd, full, ss, fin, hl, hd, cl, cd, hh, hn, hW.give hn2 ht, rfl, hss, hR⟩, hT⟩, fun v A2 h1 => absurd rfl h1⟩
  · obtain ⟨s, hs⟩ : ∃ s, R.1 = out ++ s := by
      rcases hR with ⟨_, hR⟩ | ⟨_, _, _, _, hR⟩
      · rw [hR]; exact run_pre _ _ _ _
      · rw [hR]
        obtain ⟨s1, h1⟩ := copyN_pre out cd cl
        obtain ⟨s2, h2⟩ := run_pre dt (.sym last t) (copyN out cd cl) p
        exact ⟨s1 ++ s2, by rw [h2, h1, List.append_assoc]⟩
    have hf := hW.facts hs
    exact ⟨.none, _, _, _, _, _, _, _, trv, h, wr, rd, full, rfl, hW.isA, hW.isB, hf.1, hW.rdLe, hW.wrLt, hW.tr, hf.2.1, hf.2.2, .inl ⟨rfl, by omega, _, rfl, .inr (.inl rfl)⟩,
      fun n trv2 hn2 ht => .inr (.inl ⟨rfl, t, last, hl, hd, ⟨p, q, nb, out, trv2, h, wr, rd, full, ss, cl, cd, hh, hn, hW.give hn2 ht, rfl, hR⟩, hT⟩), fun v A2 h1 => absurd rfl h1⟩
  · obtain ⟨s, hs⟩ := stored_pre dt last cl out q
    rw [← hR] at hs
    have hf := hW.facts hs
    exact ⟨.none, _, _, _, _, _, _, _, trv, h, wr, rd, full, rfl, hW.isA, hW.isB, hf.1, hW.rdLe, hW.wrLt, hW.tr, hf.2.1, hf.2.2, .inl ⟨rfl, by omega, _, rfl, .inr (.inr rfl)⟩,
      fun n trv2 hn2 ht => .inr (.inr (.inl ⟨rfl, q, ⟨out, trv2, h, wr, rd, full, ss, last, hl, hd, cl, cd, hh, hW.give hn2 ht, rfl, hss, hcl, hR⟩, hT⟩)), fun v A2 h1 => absurd rfl h1⟩
  · subst hR
    have hf := hW.facts (r := out) (s := []) (List.append_nil _).symm
    have hsum := hW.sum
    have hrd := hW.rdLe
    refine ⟨er, _, _, _, _, _, _, _, trv, h, wr, rd, full, rfl, hW.isA, hW.isB, hf.1, hW.rdLe, hW.wrLt, hW.tr, hf.2.1, hf.2.2, .inr ⟨endOk_ne hE, rfl, hE, hall.imp id fun h => by subst h; simp only; omega⟩,
      fun n trv2 hn2 ht => .inr (.inr (.inr ⟨rfl, ⟨out, e, er, trv2, h, wr, rd, full, hE, hA, hW.give hn2 ht, ⟨_, _, _, _, _, _, _, rfl⟩, rfl, hall.imp (fun h => by rw [h]; exact List.drop_nil) id⟩, hT⟩)), fun v A2 h1 h2 hfl => ?_⟩
    subst h2
    obtain ⟨wr2, full2, hW2, _, _⟩ := WinSt.flush (gv := gv) hW.hist hrd (by simpa using hsum) hfl
    exact .inr (.inr (.inr ⟨rfl, ⟨out, e, er, v, h, wr2, wr2, full2, hE, hA, by rw [hW.isB]; exact hW2, ⟨_, _, _, _, _, _, _, rfl⟩, rfl, .inr rfl⟩, hT⟩))
end Go.Eng
namespace Go.Eng
open Go Go.Proofs
set_option maxRecDepth 100000

set_option maxHeartbeats 1000000
theorem TR.nilv {hb : Nat} {h : List UInt8} {v : Value} (t : TR hb h [] v) : ∃ a c, v = .slice a 0 c := by
  obtain ⟨a, c, e, _⟩ := t
  exact ⟨a, c, e⟩

section
variable {D : List UInt8} {out : List UInt8} {p : Nat}
theorem run_next_short (h : left D p < 3) : run D .next out p = (out, .bad) := by rw [run, if_pos h]
theorem run_next0 (h3 : ¬ left D p < 3) (h : takeB D (p + 1) 2 = 0) : run D .next out p = storR D (decide (takeB D p 1 = 1)) out ((p + 3 + 7) / 8) := by
  rw [run, storR, if_neg h3, if_pos h]
  cases hs : storedN D ((p + 3 + 7) / 8) with
  | none => rfl
  | some n =>
    simp only [stored]
    split
    · rfl
    · rename_i h4
      by_cases h1 : takeB D p 1 = 1
      · simp only [h1, decide_true, if_true]
      · rw [if_neg h1, dif_pos ⟨by omega, by omega⟩]
        simp [h1]
theorem run_next1 (h3 : ¬ left D p < 3) (h : takeB D (p + 1) 2 = 1) : run D .next out p = run D (.sym (decide (takeB D p 1 = 1)) fixT) out (p + 3) := by
  have hg : p < p + 3 ∧ p + 3 ≤ 8 * D.length := by unfold left at h3; omega
  obtain ⟨r, hr⟩ : ∃ r, r = run D (.sym (decide (takeB D p 1 = 1)) fixT) out (p + 3) := ⟨_, rfl⟩
  rw [← hr, run]
  rw [if_neg h3, if_neg (by omega), if_pos h, dif_pos hg, hr]
theorem run_next2n (h3 : ¬ left D p < 3) (h : takeB D (p + 1) 2 = 2) (hd : dynR D (p + 3) = none) : run D .next out p = (out, .bad) := by
  rw [run]
  rw [if_neg h3, if_neg (by omega), if_neg (by omega), if_pos h, hd]
theorem run_next2 (h3 : ¬ left D p < 3) (h : takeB D (p + 1) 2 = 2) {t : Tabs} {p2 : Nat} (hd : dynR D (p + 3) = some (t, p2)) (hg : p < p2 ∧ p2 ≤ 8 * D.length) : run D .next out p = run D (.sym (decide (takeB D p 1 = 1)) t) out p2 := by
  obtain ⟨r, hr⟩ : ∃ r, r = run D (.sym (decide (takeB D p 1 = 1)) t) out p2 := ⟨_, rfl⟩
  rw [← hr, run]
  rw [if_neg h3, if_neg (by omega), if_neg (by omega), if_pos h, hd]
  simp only
  rw [dif_pos hg, hr]
theorem run_next3 (h3 : ¬ left D p < 3) (h0 : takeB D (p + 1) 2 ≠ 0) (h1 : takeB D (p + 1) 2 ≠ 1) (h2 : takeB D (p + 1) 2 ≠ 2) : run D .next out p = (out, .bad) := by
  rw [run]
  rw [if_neg h3, if_neg h0, if_neg h1, if_neg h2]
end
theorem lensGo_ge {D : List UInt8} {cl : List Nat} {n : Nat} : ∀ k acc p all p2, n - acc.length ≤ k → lensGo D cl n acc p = some (all, p2) → p ≤ p2 := by
  intro k
  induction k with
  | zero =>
    intro acc p all p2 hk h
    rw [lensGo, dif_neg (by omega)] at h
    simp only [Option.some.injEq, Prod.mk.injEq] at h
    omega
  | succ k ih =>
    intro acc p all p2 hk h
    rw [lensGo] at h
    split at h
    · split at h
      · cases h
      · rename_i x hx
        split at h
        · have := ih _ _ _ _ (by rw [List.length_append, List.length_singleton]; omega) h
          omega
        · split at h
          · cases h
          · split at h
            · cases h
            · split at h
              · cases h
              · have hb : 0 < repB x := by unfold repB; split <;> omega
                have := ih _ _ _ _ (by rw [List.length_append, List.length_replicate]; omega) h
                omega
    · simp only [Option.some.injEq, Prod.mk.injEq] at h
      omega
theorem dynR_lt {D : List UInt8} {p : Nat} {t : Tabs} {p2 : Nat} (h : dynR D p = some (t, p2)) : p < p2 := by
  unfold dynR at h
  split at h
  · cases h
  split at h
  · cases h
  split at h
  · cases h
  split at h
  · cases h
  split at h
  · cases h
  split at h
  · cases h
  · rename_i all p3 hg
    have := lensGo_ge _ _ _ _ _ (Nat.le_refl _) hg
    split at h
    · simp only [Option.some.injEq, Prod.mk.injEq] at h
      omega
    · cases h

/-- A block of codes goes on. -/
theorem sym_step {K : Known} {ea : Fin 5 → Addr} (hs : Sents K ea) {src : Src K ea} {dt : List UInt8} {fb hb : Nat} {R : ResR} {gv m stp : Nat} {t : Tabs} {last : Bool} {hl hd trv : Value} {x1 x2 x3 : Frag} {p q b nb : Nat} {ro : Int} {out h : List UInt8} {wr rd : Nat} {full : Bool} {ss cl cd : Nat} {TL : Frags}
    (hA : src.At (dt.drop q) x1 x2 x3) (hB : BitsIn dt p q b nb) (hn : nb < t.mn + 8) (hW : WinSt fb hb gv out [] trv h wr rd full ⟨fb, 1037, [.slice (some ⟨hb, 0, none⟩) 32768 32768, .int .i64 (((wr) : Nat) : Int), .int .i64 (((rd) : Nat) : Int), .bool full]⟩ ⟨hb, 0, bytesV (h)⟩)
    (hR : (SsOk ss cl cd (hsize wr full) ∧ R = run dt (.sym last t) out p) ∨ (ss = 1 ∧ cl ≤ 258 ∧ 1 ≤ cd ∧ cd ≤ hsize wr full ∧ R = run dt (.sym last t) (copyN out cd cl) p)) (hTL : SymTL fb t hl hd TL) (hm : 8 * dt.length - p + 1 ≤ m) (hm1 : 0 < m) :
    Fn Tryd.prog K 74 #[.pointer (some ⟨fb, 0, none⟩)] (x1 :: x2 :: x3 :: ⟨fb, 0, [.iface src.t src.v, .pointer none, .int .i64 (ro), .int .u32 (((b) : Nat) : Int), .int .u64 (((nb) : Nat) : Int)]⟩ :: ⟨fb, 1045, [.func (.func stp) #[] #[], .int .i64 (((ss) : Nat) : Int), .bool last, .nilIface, trv, hl, hd, .int .i64 (((cl) : Nat) : Int), .int .i64 (((cd) : Nat) : Int)]⟩ :: ⟨fb, 1037, [.slice (some ⟨hb, 0, none⟩) 32768 32768, .int .i64 (((wr) : Nat) : Int), .int .i64 (((rd) : Nat) : Int), .bool full]⟩ :: ⟨hb, 0, bytesV (h)⟩ :: TL) (StepEnd src dt fb hb R gv m) := by
  have hsum := hW.sum
  obtain ⟨a0, c0, htr⟩ := hW.tr.nilv
  have hTL0 := hTL
  obtain ⟨ab, cb, ws, av, cs, lb, lo, hp, HL, HD, RT, h1, h2, h3, rfl, rfl, h6, h7, rfl, hraw⟩ := hTL
  have pm : ∀ (X4 RT X : Frags) (X7 : Frags), (X7 ++ (X4 ++ (RT ++ X))).Perm ((X7 ++ X) ++ (X4 ++ RT)) := fun X4 RT X X7 => by
    rw [List.append_assoc, ← List.append_assoc X4]
    exact List.perm_append_comm.append_left _
  refine Fn.lose (Fn.perm (pm [_, _, _, _] RT (HL ++ HD) [_, _, _, _, _, _, _]) (Fn.frame (huffmanBlock_walk hs src dt fb hb R gv t last lb lo hp _ HL HD h6 h7 a0 c0 trv htr x1 x2 x3 p q b nb ro out h wr rd full ss cl cd hA hB hn hW.hist hW.rdLe hW.wrLt (by simpa using hsum) hR))) ?_
  rintro v L' ⟨L1, ⟨rfl, y1, y2, y3, A, T, W, H, rfl, hE⟩, rfl⟩
  have hback : Same ((y1 :: y2 :: y3 :: A :: T :: W :: H :: (HL ++ HD)) ++ ([⟨fb, 1041, ws⟩, ⟨fb, 1035, [.pointer (some ⟨ab, 0, none⟩), .pointer (some ⟨cb, 0, none⟩)]⟩, ⟨ab, 0, av⟩, ⟨cb, 0, cs⟩] ++ RT)) ([y1, y2, y3, A, T, W, H] ++ ([⟨fb, 1041, ws⟩, ⟨fb, 1035, [.pointer (some ⟨ab, 0, none⟩), .pointer (some ⟨cb, 0, none⟩)]⟩, ⟨ab, 0, av⟩, ⟨cb, 0, cs⟩] ++ (RT ++ (HL ++ HD)))) := Same.perm (pm [_, _, _, _] RT (HL ++ HD) [_, _, _, _, _, _, _]).symm
  obtain ⟨TL2, J, hr2, hS2⟩ := hTL0.raw [y1, y2, y3, A, T, W, H]
  rcases hE with ⟨pend, hne, hS⟩ | ⟨p2, hlt, hN⟩ | ⟨pend, hE⟩
  · exact ⟨_, [], hback.trans (Same.of_eq (List.append_nil _).symm), rfl, pend, _, y1, y2, y3, A, T, W, H, _, .inl hne, .inr (.inl ⟨rfl, t, last, _, _, hS, hTL0⟩), rfl⟩
  · refine ⟨_, J, hback.trans hS2, rfl, [], _, y1, y2, y3, A, T, W, H, TL2, .inr ?_, .inl ⟨p2, rfl, hN, hr2⟩, rfl⟩
    obtain ⟨q2, nb2, _, _, _, _, _, _, _, _, _, _, _, _, ⟨_, b2, ro2, hB2, _⟩, _⟩ := hN
    have := hB2.at8
    have := hB2.le
    omega
  · exact ⟨_, J, hback.trans hS2, rfl, pend, _, y1, y2, y3, A, T, W, H, TL2, .inr hm1, .inr (.inr (.inr ⟨rfl, hE, hr2.junk⟩)), rfl⟩

theorem readHuffman_in {K : Known} {ea : Fin 5 → Addr} (hs : Sents K ea) (hc : Codes K) (src : Src K ea) (dt : List UInt8) (fb ab cb : Nat) (s0 s1 s2 s3 s4 s5 s6 s7 s8 : Value) (x1 x2 x3 : Frag) (p q b nb : Nat) (ro : Int) (av cs c1 c2 : List Value) (hasl : av.length = 316) (hcsl : cs.length = 19) (hraw1 : RawH c1) (hraw2 : RawH c2) (hA : src.At (dt.drop q) x1 x2 x3) (hB : BitsIn dt p q b nb) (hnb : nb < 8) (W H X : Frag) :
    Fn Tryd.prog K 75 #[.pointer (some ⟨fb, 0, none⟩)] [x1, x2, x3, ⟨fb, 0, [.iface src.t src.v, .pointer none, .int .i64 (ro), .int .u32 (((b) : Nat) : Int), .int .u64 (((nb) : Nat) : Int)]⟩, ⟨fb, 1045, [s0, s1, s2, s3, s4, s5, s6, s7, s8]⟩, W, H, X, ⟨fb, 1035, [.pointer (some ⟨ab, 0, none⟩), .pointer (some ⟨cb, 0, none⟩)]⟩, ⟨ab, 0, av⟩, ⟨cb, 0, cs⟩, ⟨fb, 5, c1⟩, ⟨fb, 520, c2⟩]
      fun r L => ∃ e y1 y2 y3 a b c ev av cs J, r = Er.val ea e ∧ av.length = 316 ∧ cs.length = 19 ∧
    L = y1 :: y2 :: y3 :: ⟨fb, 0, [.iface src.t src.v, .pointer none, a, b, c]⟩ :: ⟨fb, 1045, [s0, s1, s2, ev, s4, s5, s6, s7, s8]⟩ :: W :: H :: X :: ⟨fb, 1035, [.pointer (some ⟨ab, 0, none⟩), .pointer (some ⟨cb, 0, none⟩)]⟩ :: ⟨ab, 0, av⟩ :: ⟨cb, 0, cs⟩ :: J ∧
    ((e = .none ∧ ∃ t p2 q2 b2 nb2 ro2 HL HD, dynR dt p = some (t, p2) ∧ src.At (dt.drop q2) y1 y2 y3 ∧ BitsIn dt p2 q2 b2 nb2 ∧ nb2 < 8 ∧ LitT t fb 5 HL ∧ DistT t (some ⟨fb, 520, none⟩) HD ∧ a = .int .i64 ro2 ∧ b = .int .u32 ((b2 : Nat) : Int) ∧ c = .int .u64 ((nb2 : Nat) : Int) ∧ ev = s3 ∧ J = HL ++ HD) ∨
     (Bad5 e ∧ dynR dt p = none ∧ (∃ l, src.At l y1 y2 y3) ∧ ∃ h1 h2, h1.length = 515 ∧ h2.length = 515 ∧ J = [⟨fb, 5, h1⟩, ⟨fb, 520, h2⟩])) := by
  refine Fn.lose (Fn.pick [0, 0, 0, 0, 0, 3, 3, 3, 3, 3] (A := [_, _, _, _, _, _, _, _, _, _]) (F := [W, H, X]) rfl (readHuffman_walk hs hc src dt fb ab cb s0 s1 s2 s3 s4 s5 s6 s7 s8 x1 x2 x3 p q b nb ro av cs c1 c2 hasl hcsl hraw1 hraw2 hA hB hnb)) ?_
  rintro v L ⟨L1, ⟨L2, J0, hS, e, y1, y2, y3, a, b', c, ev, av', cs', J, rfl, h1, h2, rfl, hE⟩, rfl⟩
  refine ⟨_, J0, ?_, e, y1, y2, y3, a, b', c, ev, av', cs', J, rfl, h1, h2, rfl, hE⟩
  have s1 := Same.appendL [W, H, X] hS
  refine (Same.perm List.perm_append_comm).trans (s1.trans (Same.perm ?_))
  rw [← List.append_assoc]
  refine List.Perm.append_right _ ?_
  exact picks_perm (is := [3, 3, 3, 3, 3, 0, 0, 0]) (A := [_, _, _, _, _, _, _, _]) rfl
theorem fixed_in {K : Known} (G : Frags) : Fn Tryd.prog K 73 #[] G fun r L => ∃ qb HL, r = .pointer (some ⟨qb, 0, none⟩) ∧ HufT fixLit 7 qb 0 HL ∧ L = G ++ HL := by
  refine Fn.lose (Fn.frame (L := []) (F := G) fixedHuffman_spec) ?_
  rintro v L ⟨L1, ⟨qb, rfl, hH⟩, rfl⟩
  exact ⟨_, [], (Same.perm List.perm_append_comm).trans (Same.of_eq (List.append_nil _).symm), qb, L1, rfl, hH, rfl⟩
theorem fixTabs {qb : Nat} {HL : Frags} (h : HufT fixLit 7 qb 0 HL) : LitT fixT qb 0 HL ∧ DistT fixT none [] :=
  ⟨⟨h, fix_ok, le_lenOf fix_15, by show minL fixLit ≤ 7; rw [fix_min]; exact Nat.le_refl _, by decide, by right; decide, by rw [show fixT.lit = fixLit from rfl, fix_lenL]; decide⟩, .inl ⟨rfl, rfl, rfl⟩⟩

theorem nextBlock_walk {K : Known} {ea : Fin 5 → Addr} (hs : Sents K ea) (hc : Codes K) (src : Src K ea) (dt : List UInt8) (fb hb : Nat) (R : ResR) (gv : Nat) (fin : Bool) (hlv hdv trv : Value) (x1 x2 x3 : Frag) (p q b nb : Nat) (ro : Int) (out h : List UInt8) (wr rd : Nat) (full : Bool) (ss cl cd ab cb : Nat) (ws av cs c1 c2 : List Value) (hws : ws.length = 4) (hav : av.length = 316) (hcs : cs.length = 19) (hr1 : RawH c1) (hr2 : RawH c2) (hA : src.At (dt.drop q) x1 x2 x3) (hB : BitsIn dt p q b nb) (hnb : nb < 8) (hW : WinSt fb hb gv out [] trv h wr rd full ⟨fb, 1037, [.slice (some ⟨hb, 0, none⟩) 32768 32768, .int .i64 (((wr) : Nat) : Int), .int .i64 (((rd) : Nat) : Int), .bool full]⟩ ⟨hb, 0, bytesV (h)⟩) (hss : SsOk ss cl cd (hsize wr full)) (hR : R = run dt .next out p) : Fn Tryd.prog K 67 #[.pointer (some ⟨fb, 0, none⟩)] ([x1, x2, x3, ⟨fb, 0, [.iface src.t src.v, .pointer none, .int .i64 (ro), .int .u32 (((b) : Nat) : Int), .int .u64 (((nb) : Nat) : Int)]⟩, ⟨fb, 1045, [.func (.func 67) #[] #[], .int .i64 (((ss) : Nat) : Int), .bool fin, .nilIface, trv, hlv, hdv, .int .i64 (((cl) : Nat) : Int), .int .i64 (((cd) : Nat) : Int)]⟩, ⟨fb, 1037, [.slice (some ⟨hb, 0, none⟩) 32768 32768, .int .i64 (((wr) : Nat) : Int), .int .i64 (((rd) : Nat) : Int), .bool full]⟩, ⟨hb, 0, bytesV (h)⟩, ⟨fb, 1041, ws⟩, ⟨fb, 1035, [.pointer (some ⟨ab, 0, none⟩), .pointer (some ⟨cb, 0, none⟩)]⟩, ⟨ab, 0, av⟩, ⟨cb, 0, cs⟩, ⟨fb, 5, c1⟩, ⟨fb, 520, c2⟩]) (StepEnd src dt fb hb R gv (8 * dt.length - p + 1)) := by
 refine Fn.intro (args := [.pointer (some ⟨fb, 0, none⟩)]) (RR := Ret0 _) Tryd.func67 rfl rfl Tryd.ntmps67 (res0 Tryd.results67) ?_
 refine C.reenv (env2 := [(0, .pointer (some ⟨fb, 0, none⟩))]) rfl ?_
 refine C.seq ?_
 refine C.block ?_
 refine C.loop (fun mm ee ll => ∃ (q : Nat), ∃ (b : Nat), ∃ (nb : Nat), ∃ (ro : Int), ∃ (g1 : Frag), ∃ (g2 : Frag), ∃ (g3 : Frag), keeps ee [0] = some [(0, .pointer (some ⟨fb, 0, none⟩))] ∧ ll = [g1, g2, g3, ⟨fb, 0, [.iface src.t src.v, .pointer none, .int .i64 (ro), .int .u32 (((b) : Nat) : Int), .int .u64 (((nb) : Nat) : Int)]⟩, ⟨fb, 1045, [.func (.func 67) #[] #[], .int .i64 (((ss) : Nat) : Int), .bool fin, .nilIface, trv, hlv, hdv, .int .i64 (((cl) : Nat) : Int), .int .i64 (((cd) : Nat) : Int)]⟩, ⟨fb, 1037, [.slice (some ⟨hb, 0, none⟩) 32768 32768, .int .i64 (((wr) : Nat) : Int), .int .i64 (((rd) : Nat) : Int), .bool full]⟩, ⟨hb, 0, bytesV (h)⟩, ⟨fb, 1041, ws⟩, ⟨fb, 1035, [.pointer (some ⟨ab, 0, none⟩), .pointer (some ⟨cb, 0, none⟩)]⟩, ⟨ab, 0, av⟩, ⟨cb, 0, cs⟩, ⟨fb, 5, c1⟩, ⟨fb, 520, c2⟩] ∧ (src.At (dt.drop q) g1 g2 g3) ∧ (BitsIn dt (p) q b nb) ∧ (nb < 8 ∨ nb < 3 + 8) ∧ mm = 3 - nb) (_) ⟨q, b, nb, ro, x1, x2, x3, rfl, rfl, hA, hB, .inl hnb, rfl⟩ ?_
 rintro m0 _ _ ⟨q, b, nb, ro, g1, g2, g3, hk0, rfl, hA, hB, hnl, hm0⟩
 refine C.weaken _ hk0 ?_
 refine C.seq ?_
 refine C.seq ?_
 refine C.region ?_
 refine E.pure (S.move rfl) rfl ?_
 refine E.pure (S.nilPtr rfl) rfl ?_
 refine E.pure (S.field rfl fa153_4) rfl ?_
 refine E.still (S.load 3 (k := 4) rfl rfl rfl Tryd.isAgg92) rfl ?_
 refine E.pure (S.lt (b := ((3 : Nat) : Int)) rfl rfl) rfl ?_
 refine E.keep [0, 7] (env1 := [(0, _), (7, _)]) rfl ?_
 refine C.ifp rfl (fun h7 => ?_) (fun h7 => ?_)
 ·
  refine C.skip ?_
  refine C.block ?_
  refine C.seq ?_
  refine C.region ?_
  refine E.pure (S.move rfl) rfl ?_
  refine E.pure (S.move rfl) rfl ?_
  refine E.loud1 (OpX.pick [0, 0, 0, 0] (F := [_, _, _, _, _, _, _, _, _]) rfl (X.call rfl Tryd.call71 (moreBits_e hs src _ _ _ fb _ dt _ _ _ _ hA hB (by omega)))) rfl ?_; rintro _ _ ⟨_, ⟨k1, k2, k3, e4, b4, nb4, ro4, rfl, rfl, hE4⟩, rfl⟩; refine E.relist (L2 := [_, _, _, _, _, _, _, _, _, _, _, _, _]) rfl ?_
  refine E.perml [0, 0, 0, 0, 0, 0, 0, 0, 0, 0, 0, 0, 0] rfl ?_
  refine E.relist (L2 := [_, _, _, _, _, _, _, _, _, _, _, _, _]) rfl ?_
  refine E.pure (S.nilPtr rfl) rfl ?_
  refine E.pure (S.field rfl fa153_14) rfl ?_
  refine E.loud0 (X.store 4 (k := 3) rfl rfl rfl (one_er _) rfl Tryd.sizeOf59) ?_; rintro _ _ ⟨rfl, rfl⟩; refine E.relist (L2 := [_, _, _, _, _, _, _, _, _, _, _, _, _]) rfl ?_
  refine E.keep [0, 7] (env1 := [(0, _), (7, _)]) rfl ?_
  refine C.seq ?_
  refine C.region ?_
  refine E.pure (S.move rfl) rfl ?_
  refine E.pure (S.nilPtr rfl) rfl ?_
  refine E.pure (S.field rfl fa153_14) rfl ?_
  refine E.still (S.load 4 (k := 3) rfl rfl rfl Tryd.isAgg59) rfl ?_
  refine E.still (S.neErNil rfl) rfl ?_
  refine E.keep [0, 7, 17] (env1 := [(0, _), (7, _), (17, _)]) rfl ?_
  first | refine C.ifp rfl (fun h17 => ?_) (fun h17 => ?_) | refine C.ifNone rfl (fun h17 => ?_) (fun h17 => ?_) | refine C.ifSome rfl (fun h17 => ?_) (fun h17 => ?_) | refine C.ifSe rfl (fun h17 => ?_) (fun h17 => ?_) | refine C.ifNotSe rfl (fun h17 => ?_) (fun h17 => ?_) | refine C.cond rfl (fun h17 => ?_) (fun h17 => ?_)
  ·
   obtain ⟨hb5, hqe, lx, hAx⟩ := hE4.resolve_left fun h => h17 h.1
   have hle := hB.left_eq
   refine C.ret ?_
   exact ⟨rfl, [], 0, _, _, _, _, _, _, _, _, .inr (by omega), .inr (.inr (.inr ⟨rfl, ⟨out, .bad, _, trv, h, wr, rd, full, .inr ⟨rfl, hb5, _, hAx⟩, ⟨_, _, _, rfl⟩, hW, ⟨_, _, _, _, _, _, _, rfl⟩, hR.trans (run_next_short (by omega)), .inl rfl⟩, RawTL.junk ⟨ab, cb, ws, av, cs, c1, c2, hws, hav, hcs, hr1, hr2, rfl⟩⟩)), rfl⟩
  ·
   obtain ⟨_, hA4, hB4, hn4⟩ := hE4.resolve_right fun h => h.1.2 h17
   subst hn4
   subst h17
   refine C.skip ?_
   refine ⟨_, ?_, _, _, _, _, _, _, _, rfl, rfl, hA4, hB4, .inr (by omega), rfl⟩; omega
 ·
  have hn3 : 3 ≤ nb := by omega
  have hb2 := hB.lt32 (by omega)
  have hle := hB.left_eq
  have h3 : ¬ left dt p < 3 := by omega
  have hB1 := (hB.take (n := 1) (by omega)).2
  have hB3 := (hB1.take (n := 2) (by omega)).2
  have t1 := takeB_lt dt p 1
  have t2 := takeB_lt dt (p + 1) 2
  have ht8 := hB3.at8
  have htl := hB3.le
  obtain ⟨last, hlast⟩ : ∃ last, last = decide (takeB dt p 1 = 1) := ⟨_, rfl⟩
  refine C.exit rfl ?_
  refine C.seq ?_
  refine C.region ?_
  refine E.pure (S.move rfl) rfl ?_
  refine E.pure (S.move rfl) rfl ?_
  refine E.pure (S.nilPtr rfl) rfl ?_
  refine E.pure (S.field rfl fa153_3) rfl ?_
  refine E.still (S.load 3 (k := 3) rfl rfl rfl Tryd.isAgg52) rfl ?_
  refine E.pure (S.and (b := ((1 : Nat) : Int)) rfl rfl (N.and_u32 (by omega) (by omega))) rfl ?_
  refine E.reslot (v := .int .u32 ((takeB dt p 1 : Nat) : Int)) (congrArg (fun y : Nat => Value.int .u32 (y : Int)) (by exact mask_take (n := 1) hB (by omega))) ?_
  refine E.pure (S.eq (b := ((1 : Nat) : Int)) rfl rfl) rfl ?_
  refine E.reslot (v := .bool last) (congrArg Value.bool (by rw [hlast]; exact decide_eq_decide.2 (by omega))) ?_
  refine E.pure (S.nilPtr rfl) rfl ?_
  refine E.pure (S.field rfl fa153_13) rfl ?_
  refine E.loud0 (X.store 4 (k := 2) rfl rfl rfl rfl rfl Tryd.sizeOf4) ?_; rintro _ _ ⟨rfl, rfl⟩; refine E.relist (L2 := [_, _, _, _, _, _, _, _, _, _, _, _, _]) rfl ?_
  refine E.keep [0, 7] (env1 := [(0, _), (7, _)]) rfl ?_
  refine C.seq ?_
  refine C.region ?_
  refine E.pure (S.move rfl) rfl ?_
  refine E.pure (S.nilPtr rfl) rfl ?_
  refine E.pure (S.field rfl fa153_3) rfl ?_
  refine E.still (S.load 3 (k := 3) rfl rfl rfl Tryd.isAgg52) rfl ?_
  refine E.pure (S.shr (b := ((1 : Nat) : Int)) rfl rfl (by omega) (N.shr_u32 (by omega) _)) rfl ?_
  refine E.reslot (v := .int .u32 ((b / 2 ^ 1 : Nat) : Int)) (congrArg (fun y : Nat => Value.int .u32 (y : Int)) (by rw [Nat.shiftRight_eq_div_pow])) ?_
  refine E.pure (S.nilPtr rfl) rfl ?_
  refine E.pure (S.field rfl fa153_3) rfl ?_
  refine E.loud0 (X.store 3 (k := 3) rfl rfl rfl rfl rfl Tryd.sizeOf52) ?_; rintro _ _ ⟨rfl, rfl⟩; refine E.relist (L2 := [_, _, _, _, _, _, _, _, _, _, _, _, _]) rfl ?_
  refine E.keep [0, 7] (env1 := [(0, _), (7, _)]) rfl ?_
  refine C.seq ?_
  refine C.region ?_
  refine E.pure (S.move rfl) rfl ?_
  refine E.pure (S.nilPtr rfl) rfl ?_
  refine E.pure (S.field rfl fa153_3) rfl ?_
  refine E.still (S.load 3 (k := 3) rfl rfl rfl Tryd.isAgg52) rfl ?_
  refine E.pure (S.and (b := ((3 : Nat) : Int)) rfl rfl (N.and_u32 (by omega) (by omega))) rfl ?_
  refine E.reslot (v := .int .u32 ((takeB dt (p + 1) 2 : Nat) : Int)) (congrArg (fun y : Nat => Value.int .u32 (y : Int)) (by exact mask_take (n := 2) hB1 (by omega))) ?_
  refine E.pure (S.assign rfl) rfl ?_
  refine E.keep [0, 2, 7] (env1 := [(0, _), (2, _), (7, _)]) rfl ?_
  refine C.seq ?_
  refine C.region ?_
  refine E.pure (S.move rfl) rfl ?_
  refine E.pure (S.nilPtr rfl) rfl ?_
  refine E.pure (S.field rfl fa153_3) rfl ?_
  refine E.still (S.load 3 (k := 3) rfl rfl rfl Tryd.isAgg52) rfl ?_
  refine E.pure (S.shr (b := ((2 : Nat) : Int)) rfl rfl (by omega) (N.shr_u32 (by omega) _)) rfl ?_
  refine E.reslot (v := .int .u32 ((b / 2 ^ 1 / 2 ^ 2 : Nat) : Int)) (congrArg (fun y : Nat => Value.int .u32 (y : Int)) (by rw [Nat.shiftRight_eq_div_pow])) ?_
  refine E.pure (S.nilPtr rfl) rfl ?_
  refine E.pure (S.field rfl fa153_3) rfl ?_
  refine E.loud0 (X.store 3 (k := 3) rfl rfl rfl rfl rfl Tryd.sizeOf52) ?_; rintro _ _ ⟨rfl, rfl⟩; refine E.relist (L2 := [_, _, _, _, _, _, _, _, _, _, _, _, _]) rfl ?_
  refine E.keep [0, 2, 7] (env1 := [(0, _), (2, _), (7, _)]) rfl ?_
  refine C.seq ?_
  refine C.region ?_
  refine E.pure (S.move rfl) rfl ?_
  refine E.pure (S.nilPtr rfl) rfl ?_
  refine E.pure (S.field rfl fa153_4) rfl ?_
  refine E.still (S.load 3 (k := 4) rfl rfl rfl Tryd.isAgg92) rfl ?_
  refine E.pure (S.sub (b := ((3 : Nat) : Int)) rfl rfl (N.sub_u64 (by omega) (by omega))) rfl ?_
  refine E.reslot (v := .int .u64 ((nb - 1 - 2 : Nat) : Int)) (congrArg (fun y : Nat => Value.int .u64 (y : Int)) (by omega)) ?_
  refine E.pure (S.nilPtr rfl) rfl ?_
  refine E.pure (S.field rfl fa153_4) rfl ?_
  refine E.loud0 (X.store 3 (k := 4) rfl rfl rfl rfl rfl Tryd.sizeOf92) ?_; rintro _ _ ⟨rfl, rfl⟩; refine E.relist (L2 := [_, _, _, _, _, _, _, _, _, _, _, _, _]) rfl ?_
  refine E.keep [0, 2, 7] (env1 := [(0, _), (2, _), (7, _)]) rfl ?_
  refine C.seq ?_
  refine C.region ?_
  refine E.pure (S.move rfl) rfl ?_
  refine E.keep [0, 2, 7, 53] (env1 := [(0, _), (2, _), (7, _), (53, _)]) rfl ?_
  refine C.block ?_
  refine C.seq ?_
  refine C.region ?_
  refine E.pure (S.eq (b := ((0 : Nat) : Int)) rfl rfl) rfl ?_
  refine E.pure (S.assign rfl) rfl ?_
  refine E.keep [0, 2, 7, 53, 62] (env1 := [(0, _), (2, _), (7, _), (53, _), (62, _)]) rfl ?_
  refine C.ifp rfl (fun h62 => ?_) (fun h62 => ?_)
  ·
   have hty : takeB dt (p + 1) 2 = 0 := by omega
   have hsum := hW.sum
   obtain ⟨a0, c0, htr⟩ := hW.tr.nilv
   have hR0 : R = storR dt last out q := by rw [hR, run_next0 h3 hty, ← hlast, show (p + 3 + 7) / 8 = q by omega]
   refine C.region ?_
   refine E.pure (S.move rfl) rfl ?_
   refine E.loud1 (OpX.pick [0, 0, 0, 0, 0, 0, 0, 0] (F := [_, _, _, _, _]) rfl (X.call rfl Tryd.call72 (dataBlock_spec hs src dt fb hb R gv last hlv hdv _ a0 c0 trv htr g1 g2 g3 (p + 1 + 2) q _ _ _ out h wr rd full ss cl cd ws hws hA hB3 (by omega) hW.hist hW.rdLe hW.wrLt (by simpa using hsum) hss hR0))) rfl ?_; rintro _ _ ⟨_, ⟨rfl, y1, y2, y3, Ay, Ty, Wy, Hy, ws2, hw2, rfl, hDb⟩, rfl⟩; refine E.relist (L2 := [_, _, _, _, _, _, _, _, _, _, _, _, _]) rfl ?_
   refine E.keep [0, 2, 7, 53, 62] (env1 := [(0, _), (2, _), (7, _), (53, _), (62, _)]) rfl ?_
   rcases hDb with ⟨pend, q5, hne, hS⟩ | ⟨pend, p2, hlt, hN⟩ | ⟨pend, hE⟩
   · exact ⟨rfl, pend, _, _, _, _, _, _, _, _, _, .inl hne, .inr (.inr (.inl ⟨rfl, q5, hS, ⟨ab, cb, ws2, av, cs, c1, c2, hw2, hav, hcs, hr1, hr2, rfl⟩⟩)), rfl⟩
   · refine ⟨rfl, pend, _, _, _, _, _, _, _, _, _, .inr ?_, .inl ⟨p2, rfl, hN, ⟨ab, cb, ws2, av, cs, c1, c2, hw2, hav, hcs, hr1, hr2, rfl⟩⟩, rfl⟩
     obtain ⟨q2, nb2, _, _, _, _, _, _, _, _, _, _, _, _, ⟨_, b2, ro2, hB2, _⟩, _⟩ := hN
     have := hB2.at8
     have := hB2.le
     omega
   · exact ⟨rfl, pend, 0, _, _, _, _, _, _, _, _, .inr (by omega), .inr (.inr (.inr ⟨rfl, hE, RawTL.junk ⟨ab, cb, ws2, av, cs, c1, c2, hw2, hav, hcs, hr1, hr2, rfl⟩⟩)), rfl⟩
  ·
   refine C.seq ?_
   refine C.region ?_
   refine E.pure (S.eq (b := ((1 : Nat) : Int)) rfl rfl) rfl ?_
   refine E.pure (S.assign rfl) rfl ?_
   refine E.keep [0, 2, 7, 53, 62, 66] (env1 := [(0, _), (2, _), (7, _), (53, _), (62, _), (66, _)]) rfl ?_
   refine C.ifp rfl (fun h66 => ?_) (fun h66 => ?_)
   ·
    have hty : takeB dt (p + 1) 2 = 1 := by omega
    have hR1 : R = run dt (.sym last fixT) out (p + 1 + 2) := by rw [hR, run_next1 h3 hty, ← hlast]
    refine C.seq ?_
    refine C.region ?_
    refine E.pure (S.move rfl) rfl ?_
    refine E.loud1 (X.call rfl Tryd.call73 (fixed_in _)) rfl ?_; rintro _ _ ⟨qb, HL, rfl, hHL, rfl⟩; refine E.relist (L2 := (_ :: _ :: _ :: _ :: _ :: _ :: _ :: _ :: _ :: _ :: _ :: _ :: _ :: _)) rfl ?_
    refine E.pure (S.nilPtr rfl) rfl ?_
    refine E.pure (S.field rfl fa153_16) rfl ?_
    refine E.loud0 (X.store 4 (k := 5) rfl rfl rfl rfl rfl Tryd.sizeOf151) ?_; rintro _ _ ⟨rfl, rfl⟩; refine E.relist (L2 := (_ :: _ :: _ :: _ :: _ :: _ :: _ :: _ :: _ :: _ :: _ :: _ :: _ :: _)) rfl ?_
    refine E.keep [0, 2, 7, 53, 62, 66] (env1 := [(0, _), (2, _), (7, _), (53, _), (62, _), (66, _)]) rfl ?_
    refine C.seq ?_
    refine C.region ?_
    refine E.pure (S.move rfl) rfl ?_
    refine E.pure (S.nilPtr rfl) rfl ?_
    refine E.pure (S.field rfl fa153_17) rfl ?_
    refine E.loud0 (X.store 4 (k := 6) rfl rfl rfl rfl rfl Tryd.sizeOf151) ?_; rintro _ _ ⟨rfl, rfl⟩; refine E.relist (L2 := (_ :: _ :: _ :: _ :: _ :: _ :: _ :: _ :: _ :: _ :: _ :: _ :: _ :: _)) rfl ?_
    refine E.keep [0, 2, 7, 53, 62, 66] (env1 := [(0, _), (2, _), (7, _), (53, _), (62, _), (66, _)]) rfl ?_
    refine C.region ?_
    refine E.pure (S.move rfl) rfl ?_
    refine E.loud1 (X.call rfl Tryd.call74 (sym_step (m := 8 * dt.length - p + 1) hs hA hB3 (by show nb - 1 - 2 < 7 + 8; omega) hW (.inl ⟨hss, hR1⟩) (symTL_fix hws hav hcs hr1 hr2 (fixTabs hHL).1 (fixTabs hHL).2) (by omega) (by omega))) rfl ?_; rintro _ _ ⟨rfl, pend, m2, y1, y2, y3, Ay, Ty, Wy, Hy, TL2, hlt, hD2, rfl⟩; refine E.relist (L2 := (_ :: _ :: _ :: _ :: _ :: _ :: _ :: _)) rfl ?_
    refine E.keep [0, 2, 7, 53, 62, 66] (env1 := [(0, _), (2, _), (7, _), (53, _), (62, _), (66, _)]) rfl ?_
    exact ⟨rfl, pend, m2, _, _, _, _, _, _, _, _, hlt, hD2, rfl⟩
   ·
    refine C.seq ?_
    refine C.region ?_
    refine E.pure (S.eq (b := ((2 : Nat) : Int)) rfl rfl) rfl ?_
    refine E.pure (S.assign rfl) rfl ?_
    refine E.keep [0, 2, 7, 53, 62, 66, 77] (env1 := [(0, _), (2, _), (7, _), (53, _), (62, _), (66, _), (77, _)]) rfl ?_
    refine C.ifp rfl (fun h77 => ?_) (fun h77 => ?_)
    ·
     have hty : takeB dt (p + 1) 2 = 2 := by omega
     refine C.seq ?_
     refine C.seq ?_
     refine C.region ?_
     refine E.pure (S.move rfl) rfl ?_
     refine E.pure (S.move rfl) rfl ?_
     refine E.loud1 (X.call rfl Tryd.call75 (readHuffman_in hs hc src dt fb ab cb _ _ _ _ _ _ _ _ _ g1 g2 g3 (p + 1 + 2) q _ _ _ av cs c1 c2 hav hcs hr1 hr2 hA hB3 (by omega) _ _ _)) rfl ?_; rintro _ _ ⟨e5, y1, y2, y3, a5, b5, cc5, ev5, av2, cs2, J5, rfl, hav2, hcs2, rfl, hRh⟩; refine E.relist (L2 := (_ :: _ :: _ :: _ :: _ :: _ :: _ :: _ :: _ :: _ :: _ :: _)) rfl ?_
     refine E.pure (S.nilPtr rfl) rfl ?_
     refine E.pure (S.field rfl fa153_14) rfl ?_
     refine E.loud0 (X.store 4 (k := 3) rfl rfl rfl (one_er _) rfl Tryd.sizeOf59) ?_; rintro _ _ ⟨rfl, rfl⟩; refine E.relist (L2 := (_ :: _ :: _ :: _ :: _ :: _ :: _ :: _ :: _ :: _ :: _ :: _)) rfl ?_
     refine E.keep [0, 2, 7, 53, 62, 66, 77] (env1 := [(0, _), (2, _), (7, _), (53, _), (62, _), (66, _), (77, _)]) rfl ?_
     refine C.seq ?_
     refine C.region ?_
     refine E.pure (S.move rfl) rfl ?_
     refine E.pure (S.nilPtr rfl) rfl ?_
     refine E.pure (S.field rfl fa153_14) rfl ?_
     refine E.still (S.load 4 (k := 3) rfl rfl rfl Tryd.isAgg59) rfl ?_
     refine E.still (S.neErNil rfl) rfl ?_
     refine E.keep [0, 2, 7, 53, 62, 66, 77, 88] (env1 := [(0, _), (2, _), (7, _), (53, _), (62, _), (66, _), (77, _), (88, _)]) rfl ?_
     first | refine C.ifp rfl (fun h88 => ?_) (fun h88 => ?_) | refine C.ifNone rfl (fun h88 => ?_) (fun h88 => ?_) | refine C.ifSome rfl (fun h88 => ?_) (fun h88 => ?_) | refine C.ifSe rfl (fun h88 => ?_) (fun h88 => ?_) | refine C.ifNotSe rfl (fun h88 => ?_) (fun h88 => ?_) | refine C.cond rfl (fun h88 => ?_) (fun h88 => ?_)
     ·
      obtain ⟨hb5, hdn, ⟨lx, hAx⟩, z1, z2, hz1, hz2, rfl⟩ := hRh.resolve_left fun h => h88 h.1
      refine C.exit rfl ?_
      exact ⟨rfl, [], 0, _, _, _, _, _, _, _, _, .inr (by omega), .inr (.inr (.inr ⟨rfl, ⟨out, .bad, _, trv, h, wr, rd, full, .inr ⟨rfl, hb5, _, hAx⟩, ⟨_, _, _, rfl⟩, hW, ⟨_, _, _, _, _, _, _, rfl⟩, hR.trans (run_next2n h3 hty hdn), .inl rfl⟩, ⟨ab, cb, ws, av2, cs2, z1, z2, hws, hav2, hcs2, hz1, hz2, rfl⟩⟩)), rfl⟩
     ·
      obtain ⟨_, t, p2, q2, b2, nb2, ro2, HL, HD, hdy, hA2, hB2, hn2, hLt, hDt, rfl, rfl, rfl, rfl, rfl⟩ := hRh.resolve_right fun h => h.1.2 h88
      subst h88
      have hp2 := dynR_lt hdy
      have h28 := hB2.at8
      have h2l := hB2.le
      have hR1 : R = run dt (.sym last t) out p2 := by rw [hR, run_next2 h3 hty hdy (by omega), ← hlast]
      refine C.skip ?_
      refine C.seq ?_
      refine C.region ?_
      refine E.pure (S.move rfl) rfl ?_
      refine E.pure (S.move rfl) rfl ?_
      refine E.pure (S.nilPtr rfl) rfl ?_
      refine E.pure (S.field rfl fa153_5) rfl ?_
      refine E.pure (S.nilPtr rfl) rfl ?_
      refine E.pure (S.field rfl fa153_16) rfl ?_
      refine E.loud0 (X.store 4 (k := 5) rfl rfl rfl rfl rfl Tryd.sizeOf151) ?_; rintro _ _ ⟨rfl, rfl⟩; refine E.relist (L2 := (_ :: _ :: _ :: _ :: _ :: _ :: _ :: _ :: _ :: _ :: _ :: _)) rfl ?_
      refine E.keep [0, 2, 7, 53, 62, 66, 77, 88] (env1 := [(0, _), (2, _), (7, _), (53, _), (62, _), (66, _), (77, _), (88, _)]) rfl ?_
      refine C.seq ?_
      refine C.region ?_
      refine E.pure (S.move rfl) rfl ?_
      refine E.pure (S.move rfl) rfl ?_
      refine E.pure (S.nilPtr rfl) rfl ?_
      refine E.pure (S.field rfl fa153_6) rfl ?_
      refine E.pure (S.nilPtr rfl) rfl ?_
      refine E.pure (S.field rfl fa153_17) rfl ?_
      refine E.loud0 (X.store 4 (k := 6) rfl rfl rfl rfl rfl Tryd.sizeOf151) ?_; rintro _ _ ⟨rfl, rfl⟩; refine E.relist (L2 := (_ :: _ :: _ :: _ :: _ :: _ :: _ :: _ :: _ :: _ :: _ :: _)) rfl ?_
      refine E.keep [0, 2, 7, 53, 62, 66, 77, 88] (env1 := [(0, _), (2, _), (7, _), (53, _), (62, _), (66, _), (77, _), (88, _)]) rfl ?_
      refine C.region ?_
      refine E.pure (S.move rfl) rfl ?_
      refine E.loud1 (X.call rfl Tryd.call74 (sym_step (m := 8 * dt.length - p + 1) hs hA2 hB2 (by omega) hW (.inl ⟨hss, hR1⟩) (symTL_own hws hav2 hcs2 hLt hDt) (by omega) (by omega))) rfl ?_; rintro _ _ ⟨rfl, pend, m2, y1, y2, y3, Ay, Ty, Wy, Hy, TL2, hlt, hD2, rfl⟩; refine E.relist (L2 := (_ :: _ :: _ :: _ :: _ :: _ :: _ :: _)) rfl ?_
      refine E.keep [0, 2, 7, 53, 62, 66, 77, 88] (env1 := [(0, _), (2, _), (7, _), (53, _), (62, _), (66, _), (77, _), (88, _)]) rfl ?_
      exact ⟨rfl, pend, m2, _, _, _, _, _, _, _, _, hlt, hD2, rfl⟩
    ·
     have hty : takeB dt (p + 1) 2 = 3 := by omega
     refine C.region ?_
     refine E.pure (S.move rfl) rfl ?_
     refine E.pure (S.move rfl) rfl ?_
     refine E.pure (S.nilPtr rfl) rfl ?_
     refine E.pure (S.field rfl fa153_2) rfl ?_
     refine E.still (S.load 3 (k := 2) rfl rfl rfl Tryd.isAgg2) rfl ?_
     refine E.pure (S.mkIface rfl conc165) rfl ?_
     refine E.reslot (v := Er.val ea (.corrupt _)) (rfl) ?_
     refine E.pure (S.nilPtr rfl) rfl ?_
     refine E.pure (S.field rfl fa153_14) rfl ?_
     refine E.loud0 (X.store 4 (k := 3) rfl rfl rfl rfl rfl Tryd.sizeOf59) ?_; rintro _ _ ⟨rfl, rfl⟩; refine E.relist (L2 := [_, _, _, _, _, _, _, _, _, _, _, _, _]) rfl ?_
     refine E.keep [0, 2, 7, 53, 62, 66, 77] (env1 := [(0, _), (2, _), (7, _), (53, _), (62, _), (66, _), (77, _)]) rfl ?_
     exact ⟨rfl, [], 0, _, _, _, _, _, _, _, _, .inr (by omega), .inr (.inr (.inr ⟨rfl, ⟨out, .bad, _, trv, h, wr, rd, full, .inr ⟨rfl, bad_corrupt _, _, hA⟩, ⟨_, _, _, rfl⟩, hW, ⟨_, _, _, _, _, _, _, rfl⟩, hR.trans (run_next3 h3 (by omega) (by omega) (by omega)), .inl rfl⟩, RawTL.junk ⟨ab, cb, ws, av, cs, c1, c2, hws, hav, hcs, hr1, hr2, rfl⟩⟩)), rfl⟩
theorem nextBlock_step {K : Known} {ea : Fin 5 → Addr} (hs : Sents K ea) (hc : Codes K) {src : Src K ea} {dt : List UInt8} {fb hb : Nat} {R : ResR} {gv p : Nat} {x1 x2 x3 A T W H : Frag} {TL : Frags}
    (hN : NextSt src dt fb hb R gv [] p x1 x2 x3 A T W H) (hTL : RawTL fb TL) : Fn Tryd.prog K 67 #[.pointer (some ⟨fb, 0, none⟩)] (x1 :: x2 :: x3 :: A :: T :: W :: H :: TL) (StepEnd src dt fb hb R gv (8 * dt.length - p + 1)) := by
  obtain ⟨q, nb, out, trv, h, wr, rd, full, ss, fin, hl, hd, cl, cd, ⟨hA, b, ro, hB, rfl⟩, hn, hW, rfl, hss, hR⟩ := hN
  obtain ⟨ab, cb, ws, av, cs, c1, c2, h1, h2, h3, h4, h5, rfl⟩ := hTL
  have hWA := hW.isA
  have hWB := hW.isB
  subst hWA hWB
  exact nextBlock_walk hs hc src dt fb hb R gv fin hl hd trv x1 x2 x3 p q b nb ro out h wr rd full ss cl cd ab cb ws av cs c1 c2 h1 h2 h3 h4 h5 hA hB hn hW hss hR

end Go.Eng
namespace Go.Eng
open Go Go.Proofs
set_option maxRecDepth 100000

theorem step_spec {K : Known} {ea : Fin 5 → Addr} (hs : Sents K ea) (hc : Codes K) {src : Src K ea} {dt : List UInt8} {fb hb : Nat} {R : ResR} {gv m k : Nat} {x1 x2 x3 A W H : Frag} {vs : List Value} {TL : Frags}
    (D : DecSt src dt fb hb R gv [] m x1 x2 x3 A ⟨fb, 1045, .func (.func k) #[] #[] :: vs⟩ W H TL) (hm : 0 < m) :
    Fn Tryd.prog K k #[.pointer (some ⟨fb, 0, none⟩)] (x1 :: x2 :: x3 :: A :: ⟨fb, 1045, .func (.func k) #[] #[] :: vs⟩ :: W :: H :: TL) (StepEnd src dt fb hb R gv m) := by
  generalize hT : (⟨fb, 1045, .func (.func k) #[] #[] :: vs⟩ : Frag) = T at D ⊢
  rcases D with ⟨p, rfl, hN, hTL⟩ | ⟨rfl, t, last, hl, hd, ⟨p, q, nb, out, trv, h, wr, rd, full, ss, cl, cd, ⟨hA, b, ro, hB, rfl⟩, hn, hW, rfl, hR⟩, hTL⟩ | ⟨rfl, q, ⟨out, trv, h, wr, rd, full, ss, last, hl, hd, cl, cd, ⟨hA, b, ro, hB, rfl⟩, hW, rfl, hss, hcl, hR⟩, hTL⟩ | ⟨rfl, _⟩
  · have hk : k = 67 := by
      obtain ⟨q, nb, out, trv, h, wr, rd, full, ss, fin, hl, hd, cl, cd, _, _, _, rfl, _⟩ := hN
      simp only [ptF, Frag.mk.injEq, List.cons.injEq, Value.func.injEq, Go.Fn.func.injEq] at hT
      exact hT.2.2.1.1
    subst hk
    exact nextBlock_step hs hc hN hTL
  · have hk : k = 74 := by
      simp only [ptF, Frag.mk.injEq, List.cons.injEq, Value.func.injEq, Go.Fn.func.injEq] at hT
      exact hT.2.2.1.1
    subst hk
    clear hT
    have hWA := hW.isA
    have hWB := hW.isB
    subst hWA hWB
    exact sym_step hs hA hB hn hW hR hTL (by omega) (by omega)
  · have hk : k = 79 := by
      simp only [ptF, Frag.mk.injEq, List.cons.injEq, Value.func.injEq, Go.Fn.func.injEq] at hT
      exact hT.2.2.1.1
    subst hk
    clear hT
    have hsum := hW.sum
    obtain ⟨a0, c0, htr⟩ := hW.tr.nilv
    have hWA := hW.isA
    have hWB := hW.isB
    have hq := hB.le
    subst hWA hWB
    have hb0 : b = 0 := by have := hB.lt; omega
    subst hb0
    refine Fn.mono (Fn.frame (F := TL) (copyData_spec hs src dt fb hb R gv last hl hd _ a0 c0 trv htr x1 x2 x3 q ro out h wr rd full ss cl cd hA hq hW.hist hW.rdLe hW.wrLt (by simpa using hsum) hss hcl hR)) ?_
    rintro v L' ⟨L1, ⟨rfl, y1, y2, y3, A, T, W, H, rfl, hE⟩, rfl⟩
    rcases hE with ⟨pend, q2, hne, hS⟩ | ⟨p2, hlt, hN⟩ | ⟨pend, hE⟩
    · exact ⟨rfl, pend, _, y1, y2, y3, A, T, W, H, _, .inl hne, .inr (.inr (.inl ⟨rfl, q2, hS, hTL⟩)), rfl⟩
    · exact ⟨rfl, [], _, y1, y2, y3, A, T, W, H, TL, .inr (by omega), .inl ⟨p2, rfl, hN, hTL⟩, rfl⟩
    · exact ⟨rfl, pend, _, y1, y2, y3, A, T, W, H, TL, .inr (by omega), .inr (.inr (.inr ⟨rfl, hE, hTL.junk⟩)), rfl⟩
  · exact absurd hm (Nat.lt_irrefl 0)
end Go.Eng
namespace Go.Eng
open Go Go.Proofs
set_option maxRecDepth 100000

set_option maxHeartbeats 1000000
theorem reads_win {K : Known} {L : Frags} {hb i off : Nat} {h pend : List UInt8} (hL : L[i]? = some ⟨hb, 0, bytesV h⟩) (hw : (h.drop off).take pend.length = pend) : Reads K L hb off (bytesV pend) := by
  have := Reads.frag (H0 := K) hL (k := off) (vs := bytesV pend) (by rw [bytesV_length]; unfold bytesV; rw [← List.map_drop, ← List.map_take, hw])
  simpa using this
/-- A decompressor between two reads: gv bytes of R's are given. -/
def DecOk {K : Known} {ea : Fin 5 → Addr} (src : Src K ea) (dt : List UInt8) (fb : Nat) (R : ResR) (gv : Nat) (L : Frags) : Prop :=
  ∃ hb pend m x1 x2 x3 A T W H TL, DecSt src dt fb hb R gv pend m x1 x2 x3 A T W H TL ∧ (m = 0 → gv + pend.length = R.1.length) ∧ L = x1 :: x2 :: x3 :: A :: T :: W :: H :: TL
/-- A decompressor that has come to its end. -/
def DecFin {K : Known} {ea : Fin 5 → Addr} (src : Src K ea) (dt : List UInt8) (fb : Nat) (R : ResR) (er : Er) (L : Frags) : Prop :=
  ∃ hb x1 x2 x3 A T W H TL, DecSt src dt fb hb R R.1.length [] 0 x1 x2 x3 A T W H TL ∧ EndOk src dt R.2 er x1 x2 x3 ∧ L = x1 :: x2 :: x3 :: A :: T :: W :: H :: TL
/-- What a read gives. -/
def ReadEnd {K : Known} {ea : Fin 5 → Addr} (src : Src K ea) (dt : List UInt8) (fb : Nat) (R : ResR) (gv pb po n : Nat) (cs : List Value) (r : Value) (L : Frags) : Prop :=
  ∃ k er L1, r = .tuple #[.int .i64 ((k : Nat) : Int), Er.val ea er] ∧ k ≤ n ∧ k ≤ (R.1.drop gv).length ∧ L = L1 ++ [⟨pb, po, bytesV ((R.1.drop gv).take k) ++ cs.drop k⟩] ∧
    ((er = .none ∧ 0 < k ∧ DecOk src dt fb R (gv + k) L1) ∨ (er ≠ .none ∧ gv + k = R.1.length ∧ DecFin src dt fb R er L1))
theorem pend_take {R pend : List UInt8} {gv n : Nat} (h : pend = (R.drop gv).take pend.length) : pend.take n = (R.drop gv).take (Nat.min pend.length n) := by
  conv => lhs; rw [h]
  rw [List.take_take, Nat.min_comm]
theorem same_last (x1 x2 x3 A T W H B : Frag) (TL : Frags) : Same (x1 :: x2 :: x3 :: A :: T :: W :: H :: B :: TL) ((x1 :: x2 :: x3 :: A :: T :: W :: H :: TL) ++ [B]) :=
  Same.perm (List.Perm.append_left [x1, x2, x3, A, T, W, H] (List.perm_append_comm (l₁ := [B])))
/-- How far a reading is from its end. -/
def mz (pend : List UInt8) (m : Nat) : Nat := if pend = [] then m else 0
theorem mz_step {pend : List UInt8} {m m2 : Nat} (hm : 0 < m) (h : pend ≠ [] ∨ m2 < m) : mz pend m2 < mz [] m := by
  unfold mz
  rw [if_pos rfl]
  split
  · rename_i h1; exact h.resolve_left fun h2 => h2 h1
  · exact hm
theorem step_in {K : Known} {ea : Fin 5 → Addr} (hs : Sents K ea) (hc : Codes K) {src : Src K ea} {dt : List UInt8} {fb hb : Nat} {R : ResR} {gv m k : Nat} {x1 x2 x3 A W H : Frag} {vs : List Value} {TL : Frags}
    (D : DecSt src dt fb hb R gv [] m x1 x2 x3 A ⟨fb, 1045, .func (.func k) #[] #[] :: vs⟩ W H TL) (hm : 0 < m) (B : Frag) :
    Fn Tryd.prog K k #[.pointer (some ⟨fb, 0, none⟩)] (x1 :: x2 :: x3 :: A :: ⟨fb, 1045, .func (.func k) #[] #[] :: vs⟩ :: W :: H :: B :: TL) fun r L =>
      r = .tuple #[] ∧ ∃ pend m2 y1 y2 y3 A T W H TL, (pend ≠ [] ∨ m2 < m) ∧ DecSt src dt fb hb R gv pend m2 y1 y2 y3 A T W H TL ∧ L = y1 :: y2 :: y3 :: A :: T :: W :: H :: B :: TL := by
  refine Fn.lose (Fn.perm (List.Perm.append_left [x1, x2, x3, A, _, W, H] (List.perm_append_comm (l₁ := [B]))) (Fn.frame (F := [B]) (step_spec hs hc D hm))) ?_
  rintro v L ⟨L1, ⟨rfl, pend, m2, y1, y2, y3, A, T, W, H, TL, h1, h2, rfl⟩, rfl⟩
  exact ⟨_, [], ((same_last y1 y2 y3 A T W H B TL).symm).trans (Same.of_eq (List.append_nil _).symm), rfl, pend, m2, y1, y2, y3, A, T, W, H, TL, h1, h2, rfl⟩
theorem all_drop {l : List UInt8} {n : Nat} (h : n = l.length) : l.drop n = [] := by rw [h, List.drop_length]

theorem decRead_walk {K : Known} {ea : Fin 5 → Addr} (hs : Sents K ea) (hc : Codes K) (src : Src K ea) (dt : List UInt8) (fb hb : Nat) (R : ResR) (gv pb po n c : Nat) (cs : List Value) (hn : n = cs.length) (hn0 : 0 < n) (pend0 : List UInt8) (m0 : Nat) (x1 x2 x3 A Tf Wf Hf : Frag) (TL : Frags) (hD : DecSt src dt fb hb R gv pend0 m0 x1 x2 x3 A Tf Wf Hf TL) (hall0 : m0 = 0 → gv + pend0.length = R.1.length) : Fn Tryd.prog K 119 #[.pointer (some ⟨fb, 0, none⟩), .slice (some ⟨pb, po, none⟩) (n) (c)] ([x1, x2, x3, A, Tf, Wf, Hf, ⟨pb, po, cs⟩] ++ TL) (fun r L => ∃ L2 J, Same L (L2 ++ J) ∧ ReadEnd src dt fb R gv pb po n cs r L2) := by
 refine Fn.intro (args := [.pointer (some ⟨fb, 0, none⟩), .slice (some ⟨pb, po, none⟩) (n) (c)]) (RR := Ret2 4 5 _) Tryd.func119 rfl rfl Tryd.ntmps119 (res2 Tryd.results119) ?_
 refine C.reenv (env2 := [(0, .pointer (some ⟨fb, 0, none⟩)), (1, .slice (some ⟨pb, po, none⟩) (n) (c))]) rfl ?_
 refine C.seq ?_
 refine C.region ?_
 refine E.pure (S.assign rfl) rfl ?_
 refine E.pure (S.assign (v := Er.val ea .none) rfl) rfl ?_
 refine E.keep [0, 1, 4, 5] (env1 := [(0, _), (1, _), (4, _), (5, _)]) rfl ?_
 refine C.block ?_
 refine C.loop (fun mm ee ll => ∃ (pend : List UInt8), ∃ (m : Nat), ∃ (x1 : Frag), ∃ (x2 : Frag), ∃ (x3 : Frag), ∃ (A : Frag), ∃ (Tf : Frag), ∃ (Wf : Frag), ∃ (Hf : Frag), ∃ (TL : Frags), keeps ee [0, 1] = some [(0, .pointer (some ⟨fb, 0, none⟩)), (1, .slice (some ⟨pb, po, none⟩) (n) (c))] ∧ ll = [x1, x2, x3, A, Tf, Wf, Hf, ⟨pb, po, cs⟩] ++ TL ∧ (DecSt src dt fb hb R gv pend m x1 x2 x3 A Tf Wf Hf TL) ∧ (m = 0 → gv + pend.length = R.1.length) ∧ mm = mz pend m) (_) ⟨pend0, m0, _, _, _, _, _, _, _, _, rfl, rfl, hD, hall0, rfl⟩ ?_
 rintro m0 _ _ ⟨pend, m, x1, x2, x3, A, Tf, Wf, Hf, TL, hk0, rfl, hD, hall0, hm0⟩
 refine C.weaken _ hk0 ?_
 refine C.block ?_
 refine C.seq ?_
 refine C.seq ?_
 obtain ⟨er, fv, c1, c2, c5, c6, c7, c8, trv, h, wr, rd, full, V⟩ := hD.view
 have hT := V.isT
 have hW := V.isW
 have hH := V.isH
 subst hT hW hH
 obtain ⟨a, ca, htv, hl32, hw⟩ := V.tr
 subst htv
 have hgl := V.gvLe
 have hpi := V.pendIs
 have hrl := V.rdLe
 have hwl := V.wrLt
 have hrlen : (R.1.drop gv).length = R.1.length - gv := List.length_drop
 refine C.region ?_
 refine E.pure (S.move rfl) rfl ?_
 refine E.pure (S.nilPtr rfl) rfl ?_
 refine E.pure (S.field rfl fa153_15) rfl ?_
 refine E.still (S.load 4 (k := 4) rfl rfl rfl Tryd.isAgg22) rfl ?_
 refine E.pure (S.lenSl rfl Tryd.underlying22) rfl ?_
 refine E.pure (S.gt (b := ((0 : Nat) : Int)) rfl rfl) rfl ?_
 refine E.keep [0, 1, 12] (env1 := [(0, _), (1, _), (12, _)]) rfl ?_
 refine C.ifp rfl (fun h12 => ?_) (fun h12 => ?_)
 ·
  have hpos : 0 < pend.length := by omega
  obtain ⟨off, rfl, hwin, hcap⟩ := hw.resolve_left (fun h => by rw [h] at hpos; exact absurd hpos (Nat.lt_irrefl _))
  obtain ⟨k, hk⟩ : ∃ k, k = Nat.min pend.length n := ⟨_, rfl⟩
  have hkl : k ≤ pend.length := by rw [hk]; exact Nat.min_le_left _ _
  have hkn : k ≤ n := by rw [hk]; exact Nat.min_le_right _ _
  have hkp : 0 < k := by rw [hk]; exact Nat.lt_min.2 ⟨hpos, hn0⟩
  have hbuf : bytesV (pend.take n) ++ cs.drop (Nat.min pend.length n) = bytesV ((R.1.drop gv).take k) ++ cs.drop k := by rw [pend_take hpi, hk]
  have hpart : ∀ o2, some (⟨hb, off, none⟩ : Addr) = some ⟨hb, o2, none⟩ → k < pend.length → pend.length ≤ ca → some (⟨hb, part off k ca 1, none⟩ : Addr) = some ⟨hb, o2 + k, none⟩ ∧ pend.length - k ≤ ca - k := fun o2 e h1 h2 => by
    cases e
    exact ⟨by rw [part, if_neg (by omega), Nat.mul_one], by omega⟩
  refine C.seq ?_
  refine C.region ?_
  refine E.pure (S.move rfl) rfl ?_
  refine E.pure (S.move rfl) rfl ?_
  refine E.pure (S.nilPtr rfl) rfl ?_
  refine E.pure (S.field rfl fa153_15) rfl ?_
  refine E.still (S.load 4 (k := 4) rfl rfl rfl Tryd.isAgg22) rfl ?_
  refine E.loud1 (X.copyB 7 (l := pend) rfl rfl rfl rfl (.inr ⟨hb, off, rfl, reads_win (i := 6) rfl hwin⟩) (by omega)) rfl ?_; rintro _ _ ⟨rfl, rfl⟩; refine E.relist (L2 := (_ :: _ :: _ :: _ :: _ :: _ :: _ :: _ :: _)) rfl ?_
  refine E.reslot (v := .int .i64 ((k : Nat) : Int)) (by rw [hk]) ?_
  refine E.pure (S.assign rfl) rfl ?_
  refine E.keep [0, 1, 6, 12] (env1 := [(0, _), (1, _), (6, _), (12, _)]) rfl ?_
  refine C.seq ?_
  refine C.region ?_
  refine E.pure (S.move rfl) rfl ?_
  refine E.pure (S.move rfl) rfl ?_
  refine E.pure (S.nilPtr rfl) rfl ?_
  refine E.pure (S.field rfl fa153_15) rfl ?_
  refine E.still (S.load 4 (k := 4) rfl rfl rfl Tryd.isAgg22) rfl ?_
  refine E.pure (S.move rfl) rfl ?_
  refine E.pure (S.slL rfl rfl (by omega) Tryd.underlying22 Tryd.sizeOf5) rfl ?_
  refine E.pure (S.nilPtr rfl) rfl ?_
  refine E.pure (S.field rfl fa153_15) rfl ?_
  refine E.loud0 (X.store 4 (k := 4) rfl rfl rfl rfl rfl Tryd.sizeOf22) ?_; rintro _ _ ⟨rfl, rfl⟩; refine E.relist (L2 := (_ :: _ :: _ :: _ :: _ :: _ :: _ :: _ :: _)) rfl ?_
  refine E.keep [0, 1, 6, 12] (env1 := [(0, _), (1, _), (6, _), (12, _)]) rfl ?_
  refine C.seq ?_
  refine C.seq ?_
  refine C.region ?_
  refine E.pure (S.move rfl) rfl ?_
  refine E.pure (S.nilPtr rfl) rfl ?_
  refine E.pure (S.field rfl fa153_15) rfl ?_
  refine E.still (S.load 4 (k := 4) rfl rfl rfl Tryd.isAgg22) rfl ?_
  refine E.pure (S.lenSl rfl Tryd.underlying22) rfl ?_
  refine E.pure (S.eq (b := ((0 : Nat) : Int)) rfl rfl) rfl ?_
  refine E.keep [0, 1, 6, 12, 33] (env1 := [(0, _), (1, _), (6, _), (12, _), (33, _)]) rfl ?_
  refine C.ifp rfl (fun h33 => ?_) (fun h33 => ?_)
  ·
   refine C.seq ?_
   refine C.draw [0, 0, 2, 4, 8, 1, 63] (.pure 0 30 (.pure 1 33 (.pure 2 35 (.pure 3 39 (.pure 5 31 (.seg [(4, 47), (6, 63)] .done)))))) mixed (by decide +kernel) ?_
   refine D.pure rfl (S.move rfl) rfl ?_
   refine D.pure rfl (S.move rfl) rfl ?_
   refine D.pure rfl (S.nilPtr rfl) rfl ?_
   refine D.pure rfl (S.field rfl fa153_14) rfl ?_
   refine D.pure rfl (S.assign rfl) rfl ?_
   refine D.seg (by decide) ?_
   refine W.still rfl (S.load 4 (k := 3) rfl rfl rfl Tryd.isAgg59) rfl ?_
   refine W.pure rfl (S.assign rfl) rfl ?_
   refine W.nil ?_
   refine D.keep [0, 1, 4, 5, 6, 12, 33] (env1 := [(0, _), (1, _), (4, _), (5, _), (6, _), (12, _), (33, _)]) rfl ?_
   refine C.ret ?_
   have hk : k = pend.length := by omega
   have hg := V.give k _ hkl (V.tr.drop hkl hpart)
   rw [show pend.drop k = [] from all_drop hk] at hg
   rcases V.kind with ⟨rfl, hmp, _⟩ | ⟨hne, rfl, hE, hall⟩
   · exact ⟨_, _, rfl, rfl, _, [], ((same_last _ _ _ _ _ _ _ _ _).trans (Same.of_eq (List.append_nil _).symm)), k, .none, _, rfl, by omega, by omega, congrArg (fun z => _ ++ [(⟨pb, po, z⟩ : Frag)]) hbuf, .inl ⟨rfl, by omega, hb, [], m, _, _, _, _, _, _, _, _, hg, fun h => absurd hmp (by omega), rfl⟩⟩
   · have hgk : gv + k = R.1.length := by
       rcases hall with h | h
       · rw [h] at hpos; exact absurd hpos (Nat.lt_irrefl _)
       · omega
     rw [hgk] at hg
     exact ⟨_, _, rfl, rfl, _, [], ((same_last _ _ _ _ _ _ _ _ _).trans (Same.of_eq (List.append_nil _).symm)), k, er, _, rfl, by omega, by omega, congrArg (fun z => _ ++ [(⟨pb, po, z⟩ : Frag)]) hbuf, .inr ⟨hne, hgk, hb, _, _, _, _, _, _, _, _, hg, hE, rfl⟩⟩
  ·
   refine C.skip ?_
   refine C.seq ?_
   refine C.region ?_
   refine E.pure (S.move rfl) rfl ?_
   refine E.pure (S.assign rfl) rfl ?_
   refine E.pure (S.assign (v := Er.val ea .none) rfl) rfl ?_
   refine E.keep [0, 1, 4, 5, 6, 12, 33] (env1 := [(0, _), (1, _), (4, _), (5, _), (6, _), (12, _), (33, _)]) rfl ?_
   refine C.ret ?_
   have hg := V.give k _ hkl (V.tr.drop hkl hpart)
   exact ⟨_, _, rfl, rfl, _, [], ((same_last _ _ _ _ _ _ _ _ _).trans (Same.of_eq (List.append_nil _).symm)), k, .none, _, rfl, by omega, by omega, congrArg (fun z => _ ++ [(⟨pb, po, z⟩ : Frag)]) hbuf, .inl ⟨rfl, by omega, hb, _, m, _, _, _, _, _, _, _, _, hg, fun h => by have := hall0 h; rw [List.length_drop]; omega, rfl⟩⟩
 ·
  have hp0 : pend = [] := List.eq_nil_of_length_eq_zero (by omega)
  subst hp0
  refine C.skip ?_
  refine C.seq ?_
  refine C.seq ?_
  refine C.region ?_
  refine E.pure (S.move rfl) rfl ?_
  refine E.pure (S.nilPtr rfl) rfl ?_
  refine E.pure (S.field rfl fa153_14) rfl ?_
  refine E.still (S.load 4 (k := 3) rfl rfl rfl Tryd.isAgg59) rfl ?_
  refine E.still (S.neErNil rfl) rfl ?_
  refine E.keep [0, 1, 12, 44] (env1 := [(0, _), (1, _), (12, _), (44, _)]) rfl ?_
  first | refine C.ifp rfl (fun h44 => ?_) (fun h44 => ?_) | refine C.ifNone rfl (fun h44 => ?_) (fun h44 => ?_) | refine C.ifSome rfl (fun h44 => ?_) (fun h44 => ?_) | refine C.ifSe rfl (fun h44 => ?_) (fun h44 => ?_) | refine C.ifNotSe rfl (fun h44 => ?_) (fun h44 => ?_) | refine C.cond rfl (fun h44 => ?_) (fun h44 => ?_)
  ·
   refine C.seq ?_
   refine C.draw [0, 1, 2, 4, 0, 31] (.pure 0 16 (.pure 1 17 (.pure 2 19 (.pure 4 15 (.seg [(3, 23), (5, 31)] .done))))) mixed (by decide +kernel) ?_
   refine D.pure rfl (S.move rfl) rfl ?_
   refine D.pure rfl (S.nilPtr rfl) rfl ?_
   refine D.pure rfl (S.field rfl fa153_14) rfl ?_
   refine D.pure rfl (S.assign rfl) rfl ?_
   refine D.seg (by decide) ?_
   refine W.still rfl (S.load 4 (k := 3) rfl rfl rfl Tryd.isAgg59) rfl ?_
   refine W.pure rfl (S.assign rfl) rfl ?_
   refine W.nil ?_
   refine D.keep [0, 1, 4, 5, 12, 44] (env1 := [(0, _), (1, _), (4, _), (5, _), (12, _), (44, _)]) rfl ?_
   refine C.ret ?_
   obtain ⟨hne, rfl, hE, _⟩ := V.kind.resolve_left fun h => h44 h.1
   have hg0 := hall0 rfl
   simp only [List.length_nil, Nat.add_zero] at hg0
   have hD3 := hD
   rw [hg0] at hD3
   exact ⟨_, _, rfl, rfl, _, [], ((same_last _ _ _ _ _ _ _ _ _).trans (Same.of_eq (List.append_nil _).symm)), 0, er, _, rfl, Nat.zero_le _, Nat.zero_le _, rfl, .inr ⟨hne, by omega, hb, _, _, _, _, _, _, _, _, hD3, hE, rfl⟩⟩
  ·
   obtain ⟨_, hmp, kk, hfv, hkk⟩ := V.kind.resolve_right fun h => h.1 h44
   subst hfv
   have hcal : ∀ args w, (callFunc kk args).run Tryd.prog w = .ok (.enter kk args) w := by rcases hkk with rfl | rfl | rfl; exact Tryd.call67; exact Tryd.call74; exact Tryd.call79
   refine C.skip ?_
   refine C.seq ?_
   refine C.region ?_
   refine E.pure (S.move rfl) rfl ?_
   refine E.pure (S.nilPtr rfl) rfl ?_
   refine E.pure (S.field rfl fa153_11) rfl ?_
   refine E.still (S.load 4 (k := 0) rfl rfl rfl Tryd.isAgg150) rfl ?_
   refine E.pure (S.move rfl) rfl ?_
   refine E.loud1 (X.callv rfl rfl hcal (step_in hs hc hD hmp _)) rfl ?_; rintro _ _ ⟨rfl, pend2, m2, y1, y2, y3, A2, T2, W2, H2, TL2, hlt, hD2, rfl⟩; refine E.relist (L2 := (_ :: _ :: _ :: _ :: _ :: _ :: _ :: _ :: _)) rfl ?_
   refine E.keep [0, 1, 12, 44] (env1 := [(0, _), (1, _), (12, _), (44, _)]) rfl ?_
   obtain ⟨er2, fv2, c12, c22, c52, c62, c72, c82, trv2, h2, wr2, rd2, full2, V2⟩ := hD2.view
   have hT2 := V2.isT
   have hW2 := V2.isW
   have hH2 := V2.isH
   subst hT2 hW2 hH2
   obtain ⟨a2, ca2, htv2, hl322, hw2⟩ := V2.tr
   subst htv2
   have hgl2 := V2.gvLe
   have hrl2 := V2.rdLe
   have hwl2 := V2.wrLt
   refine C.seq ?_
   refine C.region ?_
   refine E.pure (S.move rfl) rfl ?_
   refine E.pure (S.nilPtr rfl) rfl ?_
   refine E.pure (S.field rfl fa153_14) rfl ?_
   refine E.still (S.load 4 (k := 3) rfl rfl rfl Tryd.isAgg59) rfl ?_
   refine E.still (S.neErNil rfl) rfl ?_
   refine E.pure (S.move rfl) rfl ?_
   refine E.forkB (fun g60 => ?_) (fun g60 => ?_)
   ·
    have he2 : er2 ≠ .none := fun h => by rw [h] at g60; exact absurd g60 (by decide)
    refine E.wanted 60 rfl rfl ?_
    refine E.pure (S.move rfl) rfl ?_
    refine E.wanted 60 rfl rfl ?_
    refine E.pure (S.nilPtr rfl) rfl ?_
    refine E.wanted 60 rfl rfl ?_
    refine E.pure (S.field rfl fa153_15) rfl ?_
    refine E.wanted 60 rfl rfl ?_
    refine E.still (S.load 4 (k := 4) rfl rfl rfl Tryd.isAgg22) rfl ?_
    refine E.wanted 60 rfl rfl ?_
    refine E.pure (S.lenSl rfl Tryd.underlying22) rfl ?_
    refine E.wanted 60 rfl rfl ?_
    refine E.pure (S.eq (b := ((0 : Nat) : Int)) rfl rfl) rfl ?_
    refine E.pure (S.pickT rfl rfl) rfl ?_
    refine E.keep [0, 1, 12, 44, 67] (env1 := [(0, _), (1, _), (12, _), (44, _), (67, _)]) rfl ?_
    refine C.ifp rfl (fun h67 => ?_) (fun h67 => ?_)
    ·
     have hp2 : pend2 = [] := List.eq_nil_of_length_eq_zero (by omega)
     refine C.region ?_
     refine E.pure (S.move rfl) rfl ?_
     refine E.pure (S.move rfl) rfl ?_
     refine E.pure (S.nilPtr rfl) rfl ?_
     refine E.pure (S.field rfl fa153_9) rfl ?_
     refine E.loud1 (OpX.pick [5] (F := (_ :: _ :: _ :: _ :: _ :: _ :: _ :: _)) rfl (X.call rfl Tryd.call77 (readFlush_spec fb 1037 hb wr2 rd2 full2 hrl2 (by omega)))) rfl ?_; rintro _ _ ⟨_, ⟨Aw, hfl, rfl⟩, rfl⟩; refine E.relist (L2 := (_ :: _ :: _ :: _ :: _ :: _ :: _ :: _ :: _)) rfl ?_
     refine E.perml [1, 1, 1, 1, 1, 0, 0, 0] rfl ?_
     refine E.relist (L2 := (_ :: _ :: _ :: _ :: _ :: _ :: _ :: _ :: _)) rfl ?_
     refine E.pure (S.nilPtr rfl) rfl ?_
     refine E.pure (S.field rfl fa153_15) rfl ?_
     refine E.loud0 (X.store 4 (k := 4) rfl rfl rfl (flush_one hfl) rfl Tryd.sizeOf22) ?_; rintro _ _ ⟨rfl, rfl⟩; refine E.relist (L2 := (_ :: _ :: _ :: _ :: _ :: _ :: _ :: _ :: _)) rfl ?_
     refine E.keep [0, 1, 12, 44, 67] (env1 := [(0, _), (1, _), (12, _), (44, _), (67, _)]) rfl ?_
     refine ⟨_, ?_, R.1.drop gv, 0, _, _, _, _, _, _, _, _, rfl, rfl, V2.flush _ _ he2 hp2 hfl, fun _ => (by rw [hrlen]; omega), rfl⟩; rw [hm0]; exact mz_step hmp (.inr hmp)
    ·
     refine C.skip ?_
     have hne2 : pend2 ≠ [] := fun h => by rw [h] at h67; exact h67 rfl
     obtain ⟨_, hm20, _, hal2⟩ := V2.kind.resolve_left fun h => he2 h.1
     refine ⟨_, ?_, pend2, m2, _, _, _, _, _, _, _, _, rfl, rfl, hD2, fun _ => hal2.resolve_left hne2, rfl⟩; rw [hm0]; exact mz_step hmp hlt
   ·
    have he2 : er2 = .none := Er.isNone_iff.1 (by simpa using g60)
    refine E.guardNo 60 false rfl rfl rfl rfl ?_
    refine E.guardNo 60 false rfl rfl rfl rfl ?_
    refine E.guardNo 60 false rfl rfl rfl rfl ?_
    refine E.guardNo 60 false rfl rfl rfl rfl ?_
    refine E.guardNo 60 false rfl rfl rfl rfl ?_
    refine E.guardNo 60 false rfl rfl rfl rfl ?_
    refine E.pure (S.pickF rfl rfl) rfl ?_
    refine E.keep [0, 1, 12, 44, 67] (env1 := [(0, _), (1, _), (12, _), (44, _), (67, _)]) rfl ?_
    refine C.no rfl (rfl) ?_
    refine C.skip ?_
    obtain ⟨_, hm20, _⟩ := V2.kind.resolve_right fun h => h.1 he2
    refine ⟨_, ?_, pend2, m2, _, _, _, _, _, _, _, _, rfl, rfl, hD2, fun h => absurd hm20 (by omega), rfl⟩; rw [hm0]; exact mz_step hmp hlt
end Go.Eng
namespace Go.Eng
open Go Go.Proofs
set_option maxRecDepth 100000

set_option maxHeartbeats 1000000
theorem D.same {P : Program} {K : Known} {n : Nat} {ops : Array Oper} {ds : List Nat} {p : Plan} {env : Env} {L L2 : Frags} {N : Post} (s : Same L L2) (h : wpD P K n ops ds p env L2 N) : wpD P K n ops ds p env L N :=
  fun fuel listed l h0 h00 h1 h2 a w hf hw Nw k => h fuel listed l h0 h00 h1 h2 a w hf ((s.agree K _).1 hw) Nw fun e l a w h f t => k e l a w h f (t.sameL s)
theorem fill_four {place : Nat → Option (Nat × Nat)} {cells : Array Value} {i off : Nat} {a b c d : Value} {rest : List (Nat × Value)} (h1 : place i = some (off, 4)) (ho : off + 4 ≤ cells.size) :
    Instr.fill place cells ((i, .agg #[a, b, c, d]) :: rest) = Instr.fill place ((((cells.setIfInBounds off a).setIfInBounds (off + 1) b).setIfInBounds (off + 2) c).setIfInBounds (off + 3) d) rest := by
  rw [Instr.fill, h1]
  have e : (Value.agg #[a, b, c, d]).cells = #[a, b, c, d] := rfl
  simp only [e]
  rw [if_neg (by simp; omega)]
  rfl
theorem zcSize : (Value.agg Tryd.zeroCells153).cells.size = 1054 := by kernel_rfl
theorem zcSet (ab cb : Nat) (v1 v2 v3 v4 : Value) : ((((((((((Value.agg Tryd.zeroCells153).cells.setIfInBounds 1 (.pointer none)).setIfInBounds 1035 (.pointer (some ⟨ab, 0, none⟩))).setIfInBounds 1036 (.pointer (some ⟨cb, 0, none⟩))).setIfInBounds 1037 v1).setIfInBounds (1037 + 1) v2).setIfInBounds (1037 + 2) v3).setIfInBounds (1037 + 3) v4).setIfInBounds 1045 (.func (.func 67) #[] #[])) : Array Value) =
    (([[.nilIface, .pointer none, .int .i64 0, .int .u32 0, .int .u64 0], [.int .i64 0], (List.replicate 512 (.int .u32 0)), [.slice none 0 0, .int .u32 0], [.int .i64 0], (List.replicate 512 (.int .u32 0)), [.slice none 0 0, .int .u32 0], [.pointer (some ⟨ab, 0, none⟩), .pointer (some ⟨cb, 0, none⟩)], [v1, v2, v3, v4], [.int .u8 0, .int .u8 0, .int .u8 0, .int .u8 0], [.func (.func 67) #[] #[], .int .i64 0, .bool false, .nilIface, .slice none 0 0, .pointer none, .pointer none, .int .i64 0, .int .i64 0]] : List (List Value)).flatten).toArray := by
  apply Array.ext'
  simp only [Array.toList_setIfInBounds]
  rw [zcDec]
  kernel_rfl
theorem resetBuild (ab cb hb wr rd : Nat) (full : Bool) (w : World) : (Instr.build 153 [(1, .pointer none), (7, .pointer (some ⟨ab, 0, none⟩)), (8, .pointer (some ⟨cb, 0, none⟩)), (9, .agg #[.slice (some ⟨hb, 0, none⟩) 32768 32768, .int .i64 ((wr : Nat) : Int), .int .i64 ((rd : Nat) : Int), .bool full]), (11, .func (.func 67) #[] #[])].toArray).run Tryd.prog w = .ok (.agg (([[.nilIface, .pointer none, .int .i64 0, .int .u32 0, .int .u64 0], [.int .i64 0], (List.replicate 512 (.int .u32 0)), [.slice none 0 0, .int .u32 0], [.int .i64 0], (List.replicate 512 (.int .u32 0)), [.slice none 0 0, .int .u32 0], [.pointer (some ⟨ab, 0, none⟩), .pointer (some ⟨cb, 0, none⟩)], [.slice (some ⟨hb, 0, none⟩) 32768 32768, .int .i64 ((wr : Nat) : Int), .int .i64 ((rd : Nat) : Int), .bool full], [.int .u8 0, .int .u8 0, .int .u8 0, .int .u8 0], [.func (.func 67) #[] #[], .int .i64 0, .bool false, .nilIface, .slice none 0 0, .pointer none, .pointer none, .int .i64 0, .int .i64 0]] : List (List Value)).flatten).toArray) w := by
  simp [Instr.build, Tryd.zeroValue153]
  rw [fill_one (off := 1) rfl rfl (by rw [zcSize]; decide), fill_one (off := 1035) rfl rfl (by simp only [Array.size_setIfInBounds, zcSize]; decide), fill_one (off := 1036) rfl rfl (by simp only [Array.size_setIfInBounds, zcSize]; decide), fill_four (off := 1037) rfl (by simp only [Array.size_setIfInBounds, zcSize]; decide),
    fill_one (off := 1045) rfl rfl (by simp only [Array.size_setIfInBounds, zcSize]; decide), fill_nil]
  rw [zcSet]
  rfl

theorem dictInit_old {K : Known} (fb o hb : Nat) (h : List UInt8) (hl : h.length = 32768) (c1 c2 c3 : Value) : Fn Tryd.prog K 68 #[.pointer (some ⟨fb, o, none⟩), .int .i64 ((32768 : Nat) : Int), .slice none 0 0] ([⟨hb, 0, bytesV h⟩, ⟨fb, o, [.slice (some ⟨hb, 0, none⟩) 32768 32768, c1, c2, c3]⟩]) (fun r L => r = .tuple #[] ∧ L = [⟨hb, 0, bytesV h⟩, ⟨fb, o, [.slice (some ⟨hb, 0, none⟩) 32768 32768, .int .i64 0, .int .i64 0, .bool false]⟩]) := by
 refine Fn.intro (args := [.pointer (some ⟨fb, o, none⟩), .int .i64 ((32768 : Nat) : Int), .slice none 0 0]) (RR := Ret0 _) Tryd.func68 rfl rfl Tryd.ntmps68 (res0 Tryd.results68) ?_
 refine C.reenv (env2 := [(0, .pointer (some ⟨fb, o, none⟩)), (1, .int .i64 ((32768 : Nat) : Int)), (2, .slice none 0 0)]) rfl ?_
 refine C.seq ?_
 refine C.region ?_
 refine E.pure (S.move rfl) rfl ?_
 refine E.pure (S.move rfl) rfl ?_
 refine E.pure (S.nilPtr rfl) rfl ?_
 refine E.pure (S.field rfl fa148_0) rfl ?_
 refine E.still (S.load 1 (k := 0) rfl rfl rfl Tryd.isAgg22) rfl ?_
 refine E.pure (S.buildV (v := .agg #[.slice (some ⟨hb, 0, none⟩) 32768 32768, .int .i64 0, .int .i64 0, .bool false]) [(0, .slice (some ⟨hb, 0, none⟩) 32768 32768)] rfl (fun w => by simp [Instr.build, Instr.fill, Value.cells, Tryd.zeroValue148])) rfl ?_
 refine E.pure (S.nilPtr rfl) rfl ?_
 refine E.loud0 (X.storeA 1 (k := 0) rfl rfl rfl rfl rfl rfl Tryd.sizeOf148 rfl) ?_; rintro _ _ ⟨rfl, rfl⟩; refine E.relist (L2 := [_, _]) rfl ?_
 refine E.keep [0, 1, 2] (env1 := [(0, _), (1, _), (2, _)]) rfl ?_
 refine C.seq ?_
 refine C.seq ?_
 refine C.region ?_
 refine E.pure (S.move rfl) rfl ?_
 refine E.pure (S.nilPtr rfl) rfl ?_
 refine E.pure (S.field rfl fa148_0) rfl ?_
 refine E.still (S.load 1 (k := 0) rfl rfl rfl Tryd.isAgg22) rfl ?_
 refine E.pure (S.capSl rfl Tryd.underlying22) rfl ?_
 refine E.pure (S.move rfl) rfl ?_
 refine E.pure (S.lt rfl rfl) rfl ?_
 refine E.reslot (v := .bool false) (congrArg Value.bool (by decide)) ?_
 refine E.keep [0, 1, 2, 19] (env1 := [(0, _), (1, _), (2, _), (19, _)]) rfl ?_
 refine C.no rfl (rfl) ?_
 refine C.skip ?_
 refine C.seq ?_
 refine C.region ?_
 refine E.pure (S.move rfl) rfl ?_
 refine E.pure (S.move rfl) rfl ?_
 refine E.pure (S.nilPtr rfl) rfl ?_
 refine E.pure (S.field rfl fa148_0) rfl ?_
 refine E.still (S.load 1 (k := 0) rfl rfl rfl Tryd.isAgg22) rfl ?_
 refine E.pure (S.move rfl) rfl ?_
 refine E.pure (S.slH rfl rfl (by omega) Tryd.underlying22 Tryd.sizeOf5) rfl ?_
 refine E.reslot (v := .slice (some ⟨hb, 0, none⟩) 32768 32768) (slice_to (by simp [part]) rfl rfl) ?_
 refine E.pure (S.nilPtr rfl) rfl ?_
 refine E.pure (S.field rfl fa148_0) rfl ?_
 refine E.loud0 (X.store 1 (k := 0) rfl rfl rfl rfl rfl Tryd.sizeOf22) ?_; rintro _ _ ⟨rfl, rfl⟩; refine E.relist (L2 := [_, _]) rfl ?_
 refine E.keep [0, 1, 2, 19] (env1 := [(0, _), (1, _), (2, _), (19, _)]) rfl ?_
 refine C.seq ?_
 refine C.seq ?_
 refine C.region ?_
 refine E.pure (S.move rfl) rfl ?_
 refine E.pure (S.lenSl rfl Tryd.underlying22) rfl ?_
 refine E.pure (S.move rfl) rfl ?_
 refine E.pure (S.nilPtr rfl) rfl ?_
 refine E.pure (S.field rfl fa148_0) rfl ?_
 refine E.still (S.load 1 (k := 0) rfl rfl rfl Tryd.isAgg22) rfl ?_
 refine E.pure (S.lenSl rfl Tryd.underlying22) rfl ?_
 refine E.pure (S.gt rfl rfl) rfl ?_
 refine E.reslot (v := .bool false) (congrArg Value.bool (by decide)) ?_
 refine E.keep [0, 1, 2, 19, 41] (env1 := [(0, _), (1, _), (2, _), (19, _), (41, _)]) rfl ?_
 refine C.no rfl (rfl) ?_
 refine C.skip ?_
 refine C.seq ?_
 refine C.region ?_
 refine E.pure (S.move rfl) rfl ?_
 refine E.pure (S.move rfl) rfl ?_
 refine E.pure (S.nilPtr rfl) rfl ?_
 refine E.pure (S.field rfl fa148_0) rfl ?_
 refine E.still (S.load 1 (k := 0) rfl rfl rfl Tryd.isAgg22) rfl ?_
 refine E.pure (S.move rfl) rfl ?_
 refine E.loud1 (X.copyB 0 (l := []) rfl rfl rfl rfl (.inl rfl) (by rw [bytesV_length, hl]; exact Nat.le_refl _)) rfl ?_; rintro _ _ ⟨rfl, rfl⟩; refine E.relist (L2 := [_, _]) rfl ?_
 refine E.pure (S.nilPtr rfl) rfl ?_
 refine E.pure (S.field rfl fa148_1) rfl ?_
 refine E.loud0 (X.store 1 (k := 1) rfl rfl rfl rfl rfl Tryd.sizeOf3) ?_; rintro _ _ ⟨rfl, rfl⟩; refine E.relist (L2 := [_, _]) rfl ?_
 refine E.keep [0, 1, 2, 19, 41] (env1 := [(0, _), (1, _), (2, _), (19, _), (41, _)]) rfl ?_
 refine C.seq ?_
 refine C.seq ?_
 refine C.draw [0, 1, 2, 4, 0, 16, 32, 64, 128, 264] (.pure 0 496 (.pure 1 497 (.pure 2 499 (.pure 4 15 (.pure 5 31 (.pure 6 63 (.seg [(3, 503), (7, 127), (8, 255), (9, 511)] .done))))))) mixed (by decide +kernel) ?_
 refine D.pure rfl (S.move rfl) rfl ?_
 refine D.pure rfl (S.nilPtr rfl) rfl ?_
 refine D.pure rfl (S.field rfl fa148_1) rfl ?_
 refine D.pure rfl (S.move rfl) rfl ?_
 refine D.pure rfl (S.nilPtr rfl) rfl ?_
 refine D.pure rfl (S.field rfl fa148_0) rfl ?_
 refine D.seg (by decide) ?_
 refine W.still rfl (S.load 1 (k := 1) rfl rfl rfl Tryd.isAgg3) rfl ?_
 refine W.still rfl (S.load 1 (k := 0) rfl rfl rfl Tryd.isAgg22) rfl ?_
 refine W.pure rfl (S.lenSl rfl Tryd.underlying22) rfl ?_
 refine W.pure rfl (S.eq rfl rfl) rfl ?_
 refine W.reslot (v := .bool false) (congrArg Value.bool (by decide)) ?_
 refine W.nil ?_
 refine D.keep [0, 1, 2, 19, 41, 70] (env1 := [(0, _), (1, _), (2, _), (19, _), (41, _), (70, _)]) rfl ?_
 refine C.no rfl (rfl) ?_
 refine C.skip ?_
 refine C.region ?_
 refine E.pure (S.move rfl) rfl ?_
 refine E.pure (S.move rfl) rfl ?_
 refine E.pure (S.nilPtr rfl) rfl ?_
 refine E.pure (S.field rfl fa148_1) rfl ?_
 refine E.still (S.load 1 (k := 1) rfl rfl rfl Tryd.isAgg3) rfl ?_
 refine E.pure (S.nilPtr rfl) rfl ?_
 refine E.pure (S.field rfl fa148_2) rfl ?_
 refine E.loud0 (X.store 1 (k := 2) rfl rfl rfl rfl rfl Tryd.sizeOf3) ?_; rintro _ _ ⟨rfl, rfl⟩; refine E.relist (L2 := [_, _]) rfl ?_
 refine E.keep [0, 1, 2, 19, 41, 70] (env1 := [(0, _), (1, _), (2, _), (19, _), (41, _), (70, _)]) rfl ?_
 exact ⟨rfl, rfl⟩
/-- A decompressor that may be used anew. -/
def DecRaw (fb : Nat) (L : Frags) : Prop := ∃ ab cb hb e0 e2 e3 e4 t9 wr rd full h ws av cs c1 c2, t9.length = 9 ∧ h.length = 32768 ∧ ws.length = 4 ∧ av.length = 316 ∧ cs.length = 19 ∧ c1.length = 515 ∧ c2.length = 515 ∧
  L = [⟨fb, 0, [e0, .pointer none, e2, e3, e4]⟩, ⟨fb, 1045, t9⟩, ⟨fb, 1037, [.slice (some ⟨hb, 0, none⟩) 32768 32768, .int .i64 ((wr : Nat) : Int), .int .i64 ((rd : Nat) : Int), .bool full]⟩, ⟨hb, 0, bytesV h⟩, ⟨fb, 1041, ws⟩, ⟨fb, 1035, [.pointer (some ⟨ab, 0, none⟩), .pointer (some ⟨cb, 0, none⟩)]⟩, ⟨ab, 0, av⟩, ⟨cb, 0, cs⟩, ⟨fb, 5, c1⟩, ⟨fb, 520, c2⟩]
/-- One that was just made for a source. -/
def DecNew {K : Known} {ea : Fin 5 → Addr} (src : Src K ea) (fb : Nat) (L : Frags) : Prop := ∃ Af Tf Wf Hf TL, L = Af :: Tf :: Wf :: Hf :: TL ∧
  ∀ dt x1 x2 x3, src.At dt x1 x2 x3 → ∃ hb, DecSt src dt fb hb (run dt .next [] 0) 0 [] (8 * dt.length + 1) x1 x2 x3 Af Tf Wf Hf TL
/-- None, or one that may be used anew. -/
def DcIn (dcv : Value) (DL : Frags) : Prop := (dcv = .nilIface ∧ DL = []) ∨ ∃ fb, dcv = .iface 157 (.pointer (some ⟨fb, 0, none⟩)) ∧ DecRaw fb DL

theorem DecSt.rawd {K : Known} {ea : Fin 5 → Addr} {src : Src K ea} {dt : List UInt8} {fb hb : Nat} {R : ResR} {gv : Nat} {pend : List UInt8} {m : Nat} {x1 x2 x3 Af Tf Wf Hf : Frag} {TL : Frags} (D : DecSt src dt fb hb R gv pend m x1 x2 x3 Af Tf Wf Hf TL) :
    ∃ DL J, DecRaw fb DL ∧ ∀ G, Same (G ++ (Af :: Tf :: Wf :: Hf :: TL)) ((G ++ DL) ++ J) := by
  have mk : ∀ {TL : Frags} {v0 v1 : List Value} {h : List UInt8} {wr rd : Nat} {full : Bool}, v1.length = 9 → h.length = 32768 → (∃ e0 e2 e3 e4, v0 = [e0, .pointer none, e2, e3, e4]) → JunkTL fb TL → DecRaw fb (⟨fb, 0, v0⟩ :: ⟨fb, 1045, v1⟩ :: ⟨fb, 1037, [.slice (some ⟨hb, 0, none⟩) 32768 32768, .int .i64 (((wr) : Nat) : Int), .int .i64 (((rd) : Nat) : Int), .bool full]⟩ :: ⟨hb, 0, bytesV (h)⟩ :: TL) := by
    rintro TL v0 v1 h wr rd full h1 h2 ⟨e0, e2, e3, e4, rfl⟩ ⟨ab, cb, ws, av, cs, c1, c2, h3, h4, h5, h6, h7, rfl⟩
    exact ⟨ab, cb, hb, e0, e2, e3, e4, v1, wr, rd, full, h, ws, av, cs, c1, c2, h1, h2, h3, h4, h5, h6, h7, rfl⟩
  have one : ∀ {DL L : Frags}, DecRaw fb DL → DL = L → ∃ DL J, DecRaw fb DL ∧ ∀ G, Same (G ++ L) ((G ++ DL) ++ J) := by
    rintro DL L h rfl
    exact ⟨DL, [], h, fun G => by rw [List.append_nil]; exact Same.refl _⟩
  rcases D with ⟨p, rfl, ⟨q, nb, out, trv, h, wr, rd, full, ss, fin, hl, hd, cl, cd, ⟨hA, b, ro, hB, rfl⟩, hn, hW, rfl, hss, hR⟩, hT⟩ | ⟨rfl, t, last, hl, hd, ⟨p, q, nb, out, trv, h, wr, rd, full, ss, cl, cd, ⟨hA, b, ro, hB, rfl⟩, hn, hW, rfl, hR⟩, hT⟩ | ⟨rfl, q, ⟨out, trv, h, wr, rd, full, ss, last, hl, hd, cl, cd, ⟨hA, b, ro, hB, rfl⟩, hW, rfl, hss, hcl, hR⟩, hT⟩ | ⟨rfl, ⟨out, e, er, trv, h, wr, rd, full, hE, ⟨a0, b0, c0, rfl⟩, hW, ⟨a, b, c, d, f, g, i, rfl⟩, hR, hall⟩, hT⟩
  · have hWA := hW.isA
    have hWB := hW.isB
    subst hWA hWB
    exact one (mk rfl hW.hist.len ⟨_, _, _, _, rfl⟩ hT.junk) rfl
  · have hWA := hW.isA
    have hWB := hW.isB
    subst hWA hWB
    obtain ⟨TL2, J, h2, _⟩ := hT.raw []
    have hs := fun G => hT.raw G
    obtain ⟨ab, cb, ws, av, cs, lb, lo, hp, HL, HD, RT, h1, h2, h3, rfl, rfl, h6, h7, rfl, c1, c2, J, h8, h9, hS⟩ := hT
    refine ⟨_, J, mk (TL := [⟨fb, 1041, ws⟩, ⟨fb, 1035, [.pointer (some ⟨ab, 0, none⟩), .pointer (some ⟨cb, 0, none⟩)]⟩, ⟨ab, 0, av⟩, ⟨cb, 0, cs⟩, ⟨fb, 5, c1⟩, ⟨fb, 520, c2⟩]) (v0 := [.iface src.t src.v, .pointer none, .int .i64 ro, .int .u32 ((b : Nat) : Int), .int .u64 ((nb : Nat) : Int)]) (v1 := [.func (.func 74) #[] #[], .int .i64 ((ss : Nat) : Int), .bool last, .nilIface, trv, .pointer (some ⟨lb, lo, none⟩), .pointer hp, .int .i64 ((cl : Nat) : Int), .int .i64 ((cd : Nat) : Int)]) (wr := wr) (rd := rd) (full := full) rfl hW.hist.len ⟨_, _, _, _, rfl⟩ ⟨ab, cb, ws, av, cs, c1, c2, h1, h2, h3, raw_len h8, raw_len h9, rfl⟩, fun G => ?_⟩
    have := hS (G ++ [⟨fb, 0, [.iface src.t src.v, .pointer none, .int .i64 (ro), .int .u32 (((b) : Nat) : Int), .int .u64 (((nb) : Nat) : Int)]⟩, ⟨fb, 1045, [.func (.func 74) #[] #[], .int .i64 (((ss) : Nat) : Int), .bool last, .nilIface, trv, (.pointer (some ⟨lb, lo, none⟩)), (.pointer hp), .int .i64 (((cl) : Nat) : Int), .int .i64 (((cd) : Nat) : Int)]⟩, ⟨fb, 1037, [.slice (some ⟨hb, 0, none⟩) 32768 32768, .int .i64 (((wr) : Nat) : Int), .int .i64 (((rd) : Nat) : Int), .bool full]⟩, ⟨hb, 0, bytesV (h)⟩, ⟨fb, 1041, ws⟩, ⟨fb, 1035, [.pointer (some ⟨ab, 0, none⟩), .pointer (some ⟨cb, 0, none⟩)]⟩, ⟨ab, 0, av⟩, ⟨cb, 0, cs⟩])
    simp only [List.append_assoc, List.cons_append, List.nil_append] at this ⊢
    exact this
  · have hWA := hW.isA
    have hWB := hW.isB
    subst hWA hWB
    exact one (mk rfl hW.hist.len ⟨_, _, _, _, rfl⟩ hT.junk) rfl
  · have hWA := hW.isA
    have hWB := hW.isB
    subst hWA hWB
    exact one (mk rfl hW.hist.len ⟨_, _, _, _, rfl⟩ hT) rfl

theorem z515 (fb o : Nat) (F : Frags) : Same ([⟨fb, o, [.int .i64 0]⟩, ⟨fb, o + 1, (List.replicate 512 (.int .u32 0))⟩, ⟨fb, o + 513, [.slice none 0 0, .int .u32 0]⟩] ++ F) (⟨fb, o, hufZ⟩ :: F) := by
  have e : hufZ = (([(o, [.int .i64 0]), (o + 1, (List.replicate 512 (.int .u32 0))), (o + 513, [.slice none 0 0, .int .u32 0])] : List (Nat × List Value)).map (·.2)).flatten := by kernel_rfl
  rw [e]
  exact (Same.chunks fb F [(o, [.int .i64 0]), (o + 1, (List.replicate 512 (.int .u32 0))), (o + 513, [.slice none 0 0, .int .u32 0])] o (by simp [chunksOk])).symm
/-- What is made, in the parts that the code goes on with. -/
theorem decNew {K : Known} {ea : Fin 5 → Addr} (src : Src K ea) (fb ab cb hb : Nat) (h : List UInt8) (av cs : List Value) (hl : h.length = 32768) (ha : av.length = 316) (hc : cs.length = 19) (G : Frags) :
    ∃ DN, DecNew src fb DN ∧ Same (G ++ (decParts fb [.iface src.t src.v, .pointer none, .int .i64 0, .int .u32 0, .int .u64 0] [.int .i64 0] (List.replicate 512 (.int .u32 0)) [.slice none 0 0, .int .u32 0] [.int .i64 0] (List.replicate 512 (.int .u32 0)) [.slice none 0 0, .int .u32 0] [.pointer (some ⟨ab, 0, none⟩), .pointer (some ⟨cb, 0, none⟩)] [.slice (some ⟨hb, 0, none⟩) 32768 32768, .int .i64 0, .int .i64 0, .bool false] [.int .u8 0, .int .u8 0, .int .u8 0, .int .u8 0] [.func (.func 67) #[] #[], .int .i64 0, .bool false, .nilIface, .slice none 0 0, .pointer none, .pointer none, .int .i64 0, .int .i64 0] ++ [⟨ab, 0, av⟩, ⟨cb, 0, cs⟩, ⟨hb, 0, bytesV h⟩])) (G ++ DN) := by
  refine ⟨[⟨fb, 0, [.iface src.t src.v, .pointer none, .int .i64 0, .int .u32 0, .int .u64 0]⟩, ⟨fb, 1045, [.func (.func 67) #[] #[], .int .i64 0, .bool false, .nilIface, .slice none 0 0, .pointer none, .pointer none, .int .i64 0, .int .i64 0]⟩, ⟨fb, 1037, [.slice (some ⟨hb, 0, none⟩) 32768 32768, .int .i64 0, .int .i64 0, .bool false]⟩, ⟨hb, 0, bytesV (h)⟩, ⟨fb, 1041, [.int .u8 0, .int .u8 0, .int .u8 0, .int .u8 0]⟩, ⟨fb, 1035, [.pointer (some ⟨ab, 0, none⟩), .pointer (some ⟨cb, 0, none⟩)]⟩, ⟨ab, 0, av⟩, ⟨cb, 0, cs⟩, ⟨fb, 5, hufZ⟩, ⟨fb, 520, hufZ⟩], ⟨_, _, _, _, _, rfl, fun dt x1 x2 x3 hA => ⟨hb, .inl ⟨0, rfl, ⟨0, 0, [], .slice none 0 0, h, 0, 0, false, 0, false, .pointer none, .pointer none, 0, 0, ⟨hA, 0, 0, BitsIn.start dt (Nat.zero_le _), rfl⟩, by decide, ⟨Hist.start h hl, Nat.le_refl _, by decide, rfl, rfl, TR.nil _ _ _ _, rfl, rfl⟩, rfl, .inl rfl, rfl⟩, ⟨ab, cb, _, av, cs, hufZ, hufZ, rfl, ha, hc, rawZ, rawZ, rfl⟩⟩⟩⟩, Same.appendL G ?_⟩
  have e1 := z515 fb 5 [⟨fb, 520, [.int .i64 0]⟩, ⟨fb, 520 + 1, (List.replicate 512 (.int .u32 0))⟩, ⟨fb, 520 + 513, [.slice none 0 0, .int .u32 0]⟩, ⟨fb, 0, [.iface src.t src.v, .pointer none, .int .i64 0, .int .u32 0, .int .u64 0]⟩, ⟨fb, 1045, [.func (.func 67) #[] #[], .int .i64 0, .bool false, .nilIface, .slice none 0 0, .pointer none, .pointer none, .int .i64 0, .int .i64 0]⟩, ⟨fb, 1037, [.slice (some ⟨hb, 0, none⟩) 32768 32768, .int .i64 0, .int .i64 0, .bool false]⟩, ⟨hb, 0, bytesV (h)⟩, ⟨fb, 1041, [.int .u8 0, .int .u8 0, .int .u8 0, .int .u8 0]⟩, ⟨fb, 1035, [.pointer (some ⟨ab, 0, none⟩), .pointer (some ⟨cb, 0, none⟩)]⟩, ⟨ab, 0, av⟩, ⟨cb, 0, cs⟩]
  have e2 := z515 fb 520 [⟨fb, 5, hufZ⟩, ⟨fb, 0, [.iface src.t src.v, .pointer none, .int .i64 0, .int .u32 0, .int .u64 0]⟩, ⟨fb, 1045, [.func (.func 67) #[] #[], .int .i64 0, .bool false, .nilIface, .slice none 0 0, .pointer none, .pointer none, .int .i64 0, .int .i64 0]⟩, ⟨fb, 1037, [.slice (some ⟨hb, 0, none⟩) 32768 32768, .int .i64 0, .int .i64 0, .bool false]⟩, ⟨hb, 0, bytesV (h)⟩, ⟨fb, 1041, [.int .u8 0, .int .u8 0, .int .u8 0, .int .u8 0]⟩, ⟨fb, 1035, [.pointer (some ⟨ab, 0, none⟩), .pointer (some ⟨cb, 0, none⟩)]⟩, ⟨ab, 0, av⟩, ⟨cb, 0, cs⟩]
  refine Same.trans (Same.perm (picks_perm (is := [1, 1, 1, 1, 1, 1, 0, 3, 1, 4, 1, 0, 0, 0]) (A := [_, _, _, _, _, _, _, _, _, _, _, _, _, _]) (F := []) rfl)) ?_
  refine Same.trans (Same.of_eq (List.append_nil _)) (Same.trans e1 ?_)
  refine Same.trans (Same.perm (picks_perm (is := [1, 1, 1]) (A := [_, _, _]) (F := _ :: _) rfl)) (Same.trans e2 ?_)
  exact (Same.perm (picks_perm (is := [2, 2, 2, 2, 2, 2, 2, 2, 1, 0]) rfl)).trans (Same.of_eq (List.append_nil _))

theorem allOneR (ab cb hb wr rd : Nat) (full : Bool) : (([[.nilIface, .pointer none, .int .i64 0, .int .u32 0, .int .u64 0], [.int .i64 0], (List.replicate 512 (.int .u32 0)), [.slice none 0 0, .int .u32 0], [.int .i64 0], (List.replicate 512 (.int .u32 0)), [.slice none 0 0, .int .u32 0], [.pointer (some ⟨ab, 0, none⟩), .pointer (some ⟨cb, 0, none⟩)], [.slice (some ⟨hb, 0, none⟩) 32768 32768, .int .i64 ((wr : Nat) : Int), .int .i64 ((rd : Nat) : Int), .bool full], [.int .u8 0, .int .u8 0, .int .u8 0, .int .u8 0], [.func (.func 67) #[] #[], .int .i64 0, .bool false, .nilIface, .slice none 0 0, .pointer none, .pointer none, .int .i64 0, .int .i64 0]] : List (List Value)).flatten).all one = true := by kernel_rfl
theorem lenR (ab cb hb wr rd : Nat) (full : Bool) : (([[.nilIface, .pointer none, .int .i64 0, .int .u32 0, .int .u64 0], [.int .i64 0], (List.replicate 512 (.int .u32 0)), [.slice none 0 0, .int .u32 0], [.int .i64 0], (List.replicate 512 (.int .u32 0)), [.slice none 0 0, .int .u32 0], [.pointer (some ⟨ab, 0, none⟩), .pointer (some ⟨cb, 0, none⟩)], [.slice (some ⟨hb, 0, none⟩) 32768 32768, .int .i64 ((wr : Nat) : Int), .int .i64 ((rd : Nat) : Int), .bool full], [.int .u8 0, .int .u8 0, .int .u8 0, .int .u8 0], [.func (.func 67) #[] #[], .int .i64 0, .bool false, .nilIface, .slice none 0 0, .pointer none, .pointer none, .int .i64 0, .int .i64 0]] : List (List Value)).flatten).length = 1054 := by kernel_rfl
theorem decReset_walk {K : Known} {ea : Fin 5 → Addr} (src : Src K ea) (fb ab cb hb : Nat) (e0 e2 e3 e4 : Value) (t9 : List Value) (wr rd : Nat) (full : Bool) (h : List UInt8) (ws av cs c1 c2 : List Value) (h9 : t9.length = 9) (hl : h.length = 32768) (hws : ws.length = 4) (hav : av.length = 316) (hcs : cs.length = 19) (h1 : c1.length = 515) (h2 : c2.length = 515) : Fn Tryd.prog K 120 #[.pointer (some ⟨fb, 0, none⟩), .iface src.t src.v, .slice none 0 0] ([⟨fb, 0, [e0, .pointer none, e2, e3, e4]⟩, ⟨fb, 1045, t9⟩, ⟨fb, 1037, [.slice (some ⟨hb, 0, none⟩) 32768 32768, .int .i64 ((wr : Nat) : Int), .int .i64 ((rd : Nat) : Int), .bool full]⟩, ⟨hb, 0, bytesV (h)⟩, ⟨fb, 1041, ws⟩, ⟨fb, 1035, [.pointer (some ⟨ab, 0, none⟩), .pointer (some ⟨cb, 0, none⟩)]⟩, ⟨ab, 0, av⟩, ⟨cb, 0, cs⟩, ⟨fb, 5, c1⟩, ⟨fb, 520, c2⟩]) (fun r L => r = Er.val ea .none ∧ ∃ DN, DecNew src fb DN ∧ Same L DN) := by
 refine Fn.intro (args := [.pointer (some ⟨fb, 0, none⟩), .iface src.t src.v, .slice none 0 0]) (RR := Ret1 6 _) Tryd.func120 rfl rfl Tryd.ntmps120 (res1 Tryd.results120) ?_
 refine C.reenv (env2 := [(0, .pointer (some ⟨fb, 0, none⟩)), (1, .iface src.t src.v), (2, .slice none 0 0)]) rfl ?_
 refine C.seq ?_
 refine C.region ?_
 refine E.pure (S.assign (v := Er.val ea .none) rfl) rfl ?_
 refine E.keep [0, 1, 2, 6] (env1 := [(0, _), (1, _), (2, _), (6, _)]) rfl ?_
 refine C.seq ?_
 refine C.draw [0, 0, 2, 4, 8, 0, 32, 64, 128, 0, 512, 1024, 2048, 0, 8192, 16384, 32768, 69904, 262143, 524287] (.pure 0 262142 (.pure 1 131041 (.pure 2 131043 (.pure 3 131047 (.pure 5 130591 (.pure 6 130623 (.pure 7 130687 (.pure 9 123391 (.pure 10 123903 (.pure 11 124927 (.pure 13 8191 (.pure 14 16383 (.pure 15 32767 (.seg [(4, 131055), (8, 130815), (12, 126975), (16, 65535), (17, 131071), (18, 262143)] (.alt 19 .done .stop))))))))))))))) mixed (by decide +kernel) ?_
 refine D.pure rfl (S.move rfl) rfl ?_
 refine D.pure rfl (S.move rfl) rfl ?_
 refine D.pure rfl (S.nilPtr rfl) rfl ?_
 refine D.pure rfl (S.field rfl fa153_1) rfl ?_
 refine D.pure rfl (S.move rfl) rfl ?_
 refine D.pure rfl (S.nilPtr rfl) rfl ?_
 refine D.pure rfl (S.field rfl fa153_7) rfl ?_
 refine D.pure rfl (S.move rfl) rfl ?_
 refine D.pure rfl (S.nilPtr rfl) rfl ?_
 refine D.pure rfl (S.field rfl fa153_8) rfl ?_
 refine D.pure rfl (S.move rfl) rfl ?_
 refine D.pure rfl (S.nilPtr rfl) rfl ?_
 refine D.pure rfl (S.field rfl fa153_9) rfl ?_
 refine D.seg (by decide) ?_
 refine W.still rfl (S.load 0 (k := 1) rfl rfl rfl Tryd.isAgg112) rfl ?_
 refine W.still rfl (S.load 5 (k := 0) rfl rfl rfl Tryd.isAgg145) rfl ?_
 refine W.still rfl (S.load 5 (k := 1) rfl rfl rfl Tryd.isAgg146) rfl ?_
 refine W.still rfl (S.loadA 2 (k := 0) rfl rfl rfl rfl Tryd.isAgg148 Tryd.sizeOf148) rfl ?_
 refine W.pure rfl (S.buildV [(1, .pointer none), (7, .pointer (some ⟨ab, 0, none⟩)), (8, .pointer (some ⟨cb, 0, none⟩)), (9, .agg #[.slice (some ⟨hb, 0, none⟩) 32768 32768, .int .i64 ((wr : Nat) : Int), .int .i64 ((rd : Nat) : Int), .bool full]), (11, .func (.func 67) #[] #[])] rfl (resetBuild ab cb hb wr rd full)) rfl ?_
 refine W.pure rfl (S.nilPtr rfl) rfl ?_
 refine W.nil ?_
 refine D.perml [0, 7, 7, 4, 1, 2, 0, 0, 0, 0] (A := [_, _, _, _, _, _, _, _, _, _]) (F := []) rfl ?_
 refine D.same (Same.chunks fb [⟨hb, 0, bytesV (h)⟩, ⟨ab, 0, av⟩, ⟨cb, 0, cs⟩] ([(0, [e0, .pointer none, e2, e3, e4]), (5, c1), (520, c2), (1035, [.pointer (some ⟨ab, 0, none⟩), .pointer (some ⟨cb, 0, none⟩)]), (1037, [.slice (some ⟨hb, 0, none⟩) 32768 32768, .int .i64 ((wr : Nat) : Int), .int .i64 ((rd : Nat) : Int), .bool full]), (1041, ws), (1045, t9)] : List (Nat × List Value)) 0 (by simp [chunksOk, h1, h2, hws])).symm ?_
 refine D.relist (L2 := [⟨fb, 0, _⟩, _, _, _]) rfl ?_
 refine D.one ?_
 refine O.loud0 rfl (X.storeA 0 (k := 0) rfl rfl rfl (allOneR ab cb hb wr rd full) (lenR ab cb hb wr rd full) (by rw [Nat.ble_eq]; simp [h1, h2, hws, h9]) Tryd.sizeOf153 rfl) ?_
 rintro _ _ ⟨rfl, rfl⟩
 refine D.relist (L2 := [⟨fb, 0, ([[.nilIface, .pointer none, .int .i64 0, .int .u32 0, .int .u64 0], [.int .i64 0], (List.replicate 512 (.int .u32 0)), [.slice none 0 0, .int .u32 0], [.int .i64 0], (List.replicate 512 (.int .u32 0)), [.slice none 0 0, .int .u32 0], [.pointer (some ⟨ab, 0, none⟩), .pointer (some ⟨cb, 0, none⟩)], [.slice (some ⟨hb, 0, none⟩) 32768 32768, .int .i64 ((wr : Nat) : Int), .int .i64 ((rd : Nat) : Int), .bool full], [.int .u8 0, .int .u8 0, .int .u8 0, .int .u8 0], [.func (.func 67) #[] #[], .int .i64 0, .bool false, .nilIface, .slice none 0 0, .pointer none, .pointer none, .int .i64 0, .int .i64 0]] : List (List Value)).flatten⟩, ⟨hb, 0, bytesV (h)⟩, ⟨ab, 0, av⟩, ⟨cb, 0, cs⟩]) (congrArg (fun z => [(⟨fb, 0, z⟩ : Frag), ⟨hb, 0, bytesV (h)⟩, ⟨ab, 0, av⟩, ⟨cb, 0, cs⟩]) (by rw [List.take_zero, List.nil_append, List.drop_eq_nil_of_le (by simp [h1, h2, hws, h9]), List.append_nil])) ?_
 refine D.same (decSame fb [⟨hb, 0, bytesV (h)⟩, ⟨ab, 0, av⟩, ⟨cb, 0, cs⟩] [.nilIface, .pointer none, .int .i64 0, .int .u32 0, .int .u64 0] [.int .i64 0] (List.replicate 512 (.int .u32 0)) [.slice none 0 0, .int .u32 0] [.int .i64 0] (List.replicate 512 (.int .u32 0)) [.slice none 0 0, .int .u32 0] [.pointer (some ⟨ab, 0, none⟩), .pointer (some ⟨cb, 0, none⟩)] [.slice (some ⟨hb, 0, none⟩) 32768 32768, .int .i64 ((wr : Nat) : Int), .int .i64 ((rd : Nat) : Int), .bool full] [.int .u8 0, .int .u8 0, .int .u8 0, .int .u8 0] [.func (.func 67) #[] #[], .int .i64 0, .bool false, .nilIface, .slice none 0 0, .pointer none, .pointer none, .int .i64 0, .int .i64 0] rfl rfl List.length_replicate rfl rfl List.length_replicate rfl rfl rfl rfl) ?_
 refine D.relist (L2 := [⟨fb, 0, _⟩, ⟨fb, 5, _⟩, ⟨fb, 6, _⟩, ⟨fb, 518, _⟩, ⟨fb, 520, _⟩, ⟨fb, 521, _⟩, ⟨fb, 1033, _⟩, ⟨fb, 1035, _⟩, ⟨fb, 1037, _⟩, ⟨fb, 1041, _⟩, ⟨fb, 1045, _⟩, _, _, _]) rfl ?_
 refine D.keep [0, 1, 2, 6] (env1 := [(0, _), (1, _), (2, _), (6, _)]) rfl ?_
 refine C.seq ?_
 refine C.region ?_
 refine E.pure (S.move rfl) rfl ?_
 refine E.pure (S.move rfl) rfl ?_
 refine E.loud1 (OpX.pick [0] (F := [_, _, _, _, _, _, _, _, _, _, _, _, _]) rfl (X.call rfl Tryd.call66 (makeReader_spec src fb _ _ _ _ _))) rfl ?_; rintro _ _ ⟨_, ⟨rfl, rfl⟩, rfl⟩; refine E.relist (L2 := [_, _, _, _, _, _, _, _, _, _, _, _, _, _]) rfl ?_
 refine E.perml [0, 0, 0, 0, 0, 0, 0, 0, 0, 0, 0, 0, 0, 0] rfl ?_
 refine E.relist (L2 := [_, _, _, _, _, _, _, _, _, _, _, _, _, _]) rfl ?_
 refine E.keep [0, 2, 6] (env1 := [(0, _), (2, _), (6, _)]) rfl ?_
 refine C.seq ?_
 refine C.region ?_
 refine E.pure (S.move rfl) rfl ?_
 refine E.pure (S.nilPtr rfl) rfl ?_
 refine E.pure (S.field rfl fa153_9) rfl ?_
 refine E.pure (S.move rfl) rfl ?_
 refine E.loud1 (OpX.pick [11, 8] (F := [_, _, _, _, _, _, _, _, _, _, _, _]) rfl (X.call rfl Tryd.call68 (dictInit_old fb 1037 hb h hl _ _ _))) rfl ?_; rintro _ _ ⟨_, ⟨rfl, rfl⟩, rfl⟩; refine E.relist (L2 := [_, _, _, _, _, _, _, _, _, _, _, _, _, _]) rfl ?_
 refine E.perml [2, 2, 2, 2, 2, 2, 2, 2, 1, 1, 1, 0, 0, 0] rfl ?_
 refine E.relist (L2 := [_, _, _, _, _, _, _, _, _, _, _, _, _, _]) rfl ?_
 refine E.keep [0, 6] (env1 := [(0, _), (6, _)]) rfl ?_
 refine C.seq ?_
 refine C.region ?_
 refine E.pure (S.assign (v := Er.val ea .none) rfl) rfl ?_
 refine E.keep [0, 6] (env1 := [(0, _), (6, _)]) rfl ?_
 refine C.ret ?_
 obtain ⟨DN, hDN, hS⟩ := decNew src fb ab cb hb h av cs hl hav hcs []
 refine ⟨_, rfl, rfl, DN, hDN, Same.trans ?_ hS⟩
 exact (Same.perm (picks_perm (is := [0, 0, 0, 0, 0, 0, 0, 0, 0, 0, 0, 1, 1, 0]) rfl)).trans (Same.of_eq (List.append_nil _))
theorem decReset_in {K : Known} {ea : Fin 5 → Addr} (src : Src K ea) {fb : Nat} {DL : Frags} (hD : DecRaw fb DL) (G : Frags) :
    Fn Tryd.prog K 120 #[.pointer (some ⟨fb, 0, none⟩), .iface src.t src.v, .slice none 0 0] (G ++ DL) fun r L => r = Er.val ea .none ∧ ∃ DN, DecNew src fb DN ∧ L = G ++ DN := by
  obtain ⟨ab, cb, hb, e0, e2, e3, e4, t9, wr, rd, full, h, ws, av, cs, c1, c2, h1, h2, h3, h4, h5, h6, h7, rfl⟩ := hD
  refine Fn.sameR (Fn.perm List.perm_append_comm (Fn.frame (F := G) (decReset_walk src fb ab cb hb e0 e2 e3 e4 t9 wr rd full h ws av cs c1 c2 h1 h2 h3 h4 h5 h6 h7))) ?_
  rintro v L ⟨L1, ⟨rfl, DN, hDN, hS⟩, rfl⟩
  exact ⟨G ++ DN, (Same.perm List.perm_append_comm).trans (Same.appendL G hS), rfl, DN, hDN, rfl⟩
theorem flateNew_in {K : Known} {ea : Fin 5 → Addr} (src : Src K ea) (G : Frags) :
    Fn Tryd.prog K 59 #[.iface src.t src.v] G fun r L => ∃ fb DN, r = .iface 157 (.pointer (some ⟨fb, 0, none⟩)) ∧ DecNew src fb DN ∧ L = G ++ DN := by
  refine Fn.sameR (Fn.frame (L := []) (F := G) (flateNew_spec src)) ?_
  rintro v L ⟨L1, ⟨fb, ab, cb, hb, rfl, rfl⟩, rfl⟩
  obtain ⟨DN, hDN, hS⟩ := decNew src fb ab cb hb (List.replicate 32768 0) (List.replicate 316 (.int .i64 0)) (List.replicate 19 (.int .i64 0)) List.length_replicate List.length_replicate List.length_replicate G
  refine ⟨G ++ DN, (Same.perm List.perm_append_comm).trans (Same.trans (Same.of_eq ?_) hS), fb, DN, rfl, hDN, rfl⟩
  have e : bytesV (List.replicate 32768 0) = List.replicate 32768 (.int .u8 0) := by unfold bytesV; rw [List.map_replicate]; rfl
  rw [e]; rfl
/-- A decompressor is read. -/
theorem decRead_spec {K : Known} {ea : Fin 5 → Addr} (hs : Sents K ea) (hc : Codes K) {src : Src K ea} {dt : List UInt8} {fb : Nat} {R : ResR} {gv : Nat} {L0 : Frags} (hD : DecOk src dt fb R gv L0) (pb po n c : Nat) (cs : List Value) (hn : n = cs.length) (hn0 : 0 < n) :
    Fn Tryd.prog K 119 #[.pointer (some ⟨fb, 0, none⟩), .slice (some ⟨pb, po, none⟩) (n) (c)] (L0 ++ [⟨pb, po, cs⟩]) (ReadEnd src dt fb R gv pb po n cs) := by
  obtain ⟨hb, pend, m, x1, x2, x3, Af, Tf, Wf, Hf, TL, hd, hall, rfl⟩ := hD
  refine Fn.lose (Fn.sameL (same_last x1 x2 x3 Af Tf Wf Hf _ TL).symm (decRead_walk hs hc src dt fb hb R gv pb po n c cs hn hn0 pend m x1 x2 x3 Af Tf Wf Hf TL hd hall)) ?_
  exact fun v L h => h
theorem DecNew.ok {K : Known} {ea : Fin 5 → Addr} {src : Src K ea} {fb : Nat} {DN : Frags} (h : DecNew src fb DN) {dt : List UInt8} {x1 x2 x3 : Frag} (hA : src.At dt x1 x2 x3) : DecOk src dt fb (run dt .next [] 0) 0 (x1 :: x2 :: x3 :: DN) := by
  obtain ⟨Af, Tf, Wf, Hf, TL, rfl, h⟩ := h
  obtain ⟨hb, h⟩ := h dt x1 x2 x3 hA
  exact ⟨hb, [], _, x1, x2, x3, Af, Tf, Wf, Hf, TL, h, fun h => by omega, rfl⟩

end Go.Eng
