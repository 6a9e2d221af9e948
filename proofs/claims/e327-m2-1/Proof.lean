import JvmDerived
import JvmDerived.Pilot.@@N@@Statement
import JvmDerived.Pilot.@@N@@Code
set_option linter.unusedVariables false
set_option linter.unusedSimpArgs false
namespace Jvm.Pilot.@@N@@
open Jvm Jvm.ClassFile Sem Op Lib Jvm.Free Jvm.Stand Jvm.LawKit Jvm.RoadKit Bundle Jvm.Pilot.@@N@@.Jvm.D

/-- the run that stands at the frame f over T ends as Q says -/
def own_Go (p : Program) (e : Env) (below : List Frame) (s : State) (Q : Option Value → Heap → List Loc → Prop) (rc rs : Nat) (T : State) (f : JFrame) : Prop :=
  ∃ s₂ o, Steps p.tables e below (T.setTop f) s₂ ∧ s₂.status = .running ∧ Ended s₂ below o ∧ ∃ v L, o = .returned v ∧ Q v s₂.heap L ∧ FrameEnd s o s₂ L rc rs
theorem own_by {p : Program} {e : Env} {below : List Frame} {s : State} {Q : Option Value → Heap → List Loc → Prop} {rc rs : Nat} {T T' : State} {f f' : JFrame} (k : ∀ t, Steps p.tables e below (T'.setTop f') t → Steps p.tables e below (T.setTop f) t) (h : own_Go p e below s Q rc rs T' f') : own_Go p e below s Q rc rs T f := by
  obtain ⟨s₂, o, st, r⟩ := h
  exact ⟨s₂, o, k _ st, r⟩
theorem own_mk {p : Program} {e : Env} {below : List Frame} {s : State} {Q : Option Value → Heap → List Loc → Prop} {rc rs : Nat} {T : State} {f : JFrame} (h : ∃ s₂ o, Steps p.tables e below (T.setTop f) s₂ ∧ s₂.status = .running ∧ Ended s₂ below o ∧ ∃ v L, o = .returned v ∧ Q v s₂.heap L ∧ FrameEnd s o s₂ L rc rs) : own_Go p e below s Q rc rs T f := h
theorem own_open {p : Program} {e : Env} {below : List Frame} {s : State} {Q : Option Value → Heap → List Loc → Prop} {rc rs : Nat} {T : State} {f f0 : JFrame} (k : ∀ t, Steps p.tables e below (T.setTop f) t → Steps p.tables e below (T.setTop f0) t) (h : own_Go p e below s Q rc rs T f) : ∃ s₂ o, Steps p.tables e below (T.setTop f0) s₂ ∧ s₂.status = .running ∧ Ended s₂ below o ∧ ∃ v L, o = .returned v ∧ Q v s₂.heap L ∧ FrameEnd s o s₂ L rc rs := by
  obtain ⟨s₂, o, st, r⟩ := h
  exact ⟨s₂, o, k _ st, r⟩
theorem own_eqI {args : Array Value} {s : State} {a : Term} {k : Int32} (h : (Cond.eq a (.int k)).value args s none s [] = some true) : a.eval args s none [] s = some (.int k) := by
  obtain ⟨x, y, h1, h2, -, K⟩ := cmp_v (Or.inl h)
  have e : y = .int k := (Option.some.inj h2).symm
  subst e
  obtain ⟨z, rfl⟩ := K
  have q : z = k := by simpa [Cond.value, h1, h2] using h
  rw [h1, q]
theorem own_extt {h h' h'' : Heap} (E : Ext h h') (E' : Ext h' h'') : Ext h h'' := ⟨Nat.le_trans E.1 E'.1, fun a c q => E'.2 a c (E.2 a c q)⟩
theorem own_extw {h h' h'' : Heap} {a : Addr} {sl : Nat} {v : Value} (E : Ext h h') (W : Wr h' h'' a sl v) (g : h.size ≤ a) : Ext h h'' := by
  refine ⟨Nat.le_trans E.1 (Nat.le_of_eq W.size.symm), fun b c q => ?_⟩
  have ne : b ≠ a := Nat.ne_of_lt (Nat.lt_of_lt_of_le (Array.getElem?_eq_some_iff.mp q).1 g)
  obtain ⟨cell, -, -, -, rfl⟩ := W
  rw [Array.getElem?_setIfInBounds_ne (Ne.symm ne)]
  exact E.2 b c q
theorem own_eqL {args : Array Value} {s : State} {a : Term} {k : Int64} (h : (Cond.eq a (.long k)).value args s none s [] = some true) : a.eval args s none [] s = some (.long k) := by
  obtain ⟨x, y, h1, h2, -, K⟩ := cmp_v (Or.inl h)
  have e : y = .long k := (Option.some.inj h2).symm
  subst e
  obtain ⟨z, rfl⟩ := K
  have q : z = k := by simpa [Cond.value, h1, h2] using h
  rw [h1, q]
theorem own_eqR {args : Array Value} {s : State} {a b : Term} {r : Addr} (h : (Cond.eq a b).value args s none s [] = some true) (hb : b.eval args s none [] s = some (.ref r)) : a.eval args s none [] s = some (.ref r) := by
  obtain ⟨x, y, h1, h2, -, K⟩ := cmp_v (Or.inl h)
  cases hb.symm.trans h2
  rcases ref_cases K.2 with rfl | ⟨q, rfl⟩
  · simp [Cond.value, h1, h2] at h
  · have e : q = r := by simpa [Cond.value, h1, h2] using h
    rw [h1, e]
theorem own_cmp0 {x y : Int64} (h : x = y) : XT.cmpL x y = 0 := by subst h; unfold XT.cmpL; rw [if_neg (by simp), if_pos rfl]
theorem own_cmp1 {x y : Int64} (h : ¬ x = y) : ¬ XT.cmpL x y = 0 := by
  unfold XT.cmpL
  by_cases q : y < x
  · rw [if_pos q]; decide
  · rw [if_neg q, if_neg h]; decide
theorem own_fldL {args : Array Value} {s : State} {t : Term} {C n d : String} {x : Addr} {k : Int64} (ev : t.eval args s none [] s = some (.ref x)) (h : (Cond.eq (.field t C n d) (.long k)).value args s none s [] = some true) : Fld s s.heap x C n d (.long k) := Fld.start ((fld_at ev).symm.trans (own_eqL h))
theorem own_fld {args : Array Value} {s : State} {t : Term} {C n d : String} {x : Addr} {k : Int32} (ev : t.eval args s none [] s = some (.ref x)) (h : (Cond.eq (.field t C n d) (.int k)).value args s none s [] = some true) : Fld s s.heap x C n d (.int k) := Fld.start ((fld_at ev).symm.trans (own_eqI h))

theorem own_mod (x y : Int32) (d : Int) (hy : y.toInt = d) (hd : 0 < d) : 0 ≤ ((x &&& 2147483647) % y).toInt ∧ ((x &&& 2147483647) % y).toInt < d := by
  have h0 : 0 ≤ (x &&& 2147483647).toInt := (c_andS x 2147483647).2.2 (by decide)
  rw [(c_irem _ y d hy).1 h0]
  exact ⟨Int.emod_nonneg _ (by omega), Int.emod_lt_of_pos _ hd⟩
theorem own_k (x : Int32) : (x &&& 2147483647) % 5 = 0 ∨ (x &&& 2147483647) % 5 = 1 ∨ (x &&& 2147483647) % 5 = 2 ∨ (x &&& 2147483647) % 5 = 3 ∨ (x &&& 2147483647) % 5 = 4 := by
  obtain ⟨h1, h2⟩ := own_mod x 5 5 rfl (by decide)
  generalize (x &&& 2147483647) % 5 = k at h1 h2 ⊢
  simp only [← Int32.toInt_inj, Int32.reduceToInt]
  omega
theorem d1_0 : decode method_2_code 0 = .ok (.iload_n 0, 1) := by decide +kernel
theorem d1_1 : decode method_2_code 1 = .ok (.ifCond .ne 7, 3) := by decide +kernel
theorem d1_4 : decode method_2_code 4 = .ok (.getstatic 7, 3) := by decide +kernel
theorem d1_7 : decode method_2_code 7 = .ok (.areturn, 1) := by decide +kernel
theorem d1_8 : decode method_2_code 8 = .ok (.iload_n 0, 1) := by decide +kernel
theorem d1_9 : decode method_2_code 9 = .ok (.iconst 1, 1) := by decide +kernel
theorem d1_10 : decode method_2_code 10 = .ok (.if_icmp .ne 7, 3) := by decide +kernel
theorem d1_13 : decode method_2_code 13 = .ok (.getstatic 13, 3) := by decide +kernel
theorem d1_16 : decode method_2_code 16 = .ok (.areturn, 1) := by decide +kernel
theorem d1_17 : decode method_2_code 17 = .ok (.iload_n 0, 1) := by decide +kernel
theorem d1_18 : decode method_2_code 18 = .ok (.iconst 2, 1) := by decide +kernel
theorem d1_19 : decode method_2_code 19 = .ok (.if_icmp .ne 7, 3) := by decide +kernel
theorem d1_22 : decode method_2_code 22 = .ok (.getstatic 16, 3) := by decide +kernel
theorem d1_25 : decode method_2_code 25 = .ok (.areturn, 1) := by decide +kernel
theorem d1_26 : decode method_2_code 26 = .ok (.iload_n 0, 1) := by decide +kernel
theorem d1_27 : decode method_2_code 27 = .ok (.iconst 3, 1) := by decide +kernel
theorem d1_28 : decode method_2_code 28 = .ok (.if_icmp .ne 7, 3) := by decide +kernel
theorem d1_31 : decode method_2_code 31 = .ok (.getstatic 19, 3) := by decide +kernel
theorem d1_34 : decode method_2_code 34 = .ok (.areturn, 1) := by decide +kernel
theorem d1_35 : decode method_2_code 35 = .ok (.getstatic 22, 3) := by decide +kernel
theorem d1_38 : decode method_2_code 38 = .ok (.areturn, 1) := by decide +kernel
theorem own_pn1 : plainName "com/example/lull/lull/tree/FlowOutOfLoopPinLaw" = true := by first | (simp [plainName, overriddenIn]; done) | decide +kernel
theorem own_ef1 (m : MethodId) (x0 : Int32) : entryFrame m #[(.int x0)] 1 = mkF m 0 #[.val (.int x0)] [] := by first | (simp [entryFrame, mkF, argsToLocals, Value.category, maxLocals]; done) | rfl
theorem own_pd1 : parseMethodDescriptor "(I)Lcom/example/lull/lull/tree/Flow;" = some ⟨[.int], some (.object "com/example/lull/lull/tree/Flow")⟩ := by decide +kernel
def Q1 (p1 : Int32) (w_NEXT w_BREAK w_CONTINUE w_RETURN w_PAUSE : Addr) (h0 : Heap) (n0 : Nat) (v : Option Value) (h : Heap) (L : List Loc) : Prop := v = some (.ref (if p1 = 0 then w_NEXT else if p1 = 1 then w_BREAK else if p1 = 2 then w_CONTINUE else if p1 = 3 then w_RETURN else w_PAUSE)) ∧ Fr n0 L ∧ h = h0
set_option maxRecDepth 65536 in
set_option maxHeartbeats 40000000 in
theorem rm1 (l : Launch) (Z : State) (a0 : Array Value) (hw : ∀ d ∈ tables_1, d.before a0 Z = true) (ws : List Jvm.Cond) (p1 : Int32) (w_NEXT w_BREAK w_CONTINUE w_RETURN w_PAUSE : Addr) (h0 : Heap) (n0 : Nat) (Z0 : n0 ≤ h0.size) (S_NEXT : Sta Z h0 "com/example/lull/lull/tree/Flow" "NEXT" "Lcom/example/lull/lull/tree/Flow;" (.ref w_NEXT)) (S_BREAK : Sta Z h0 "com/example/lull/lull/tree/Flow" "BREAK" "Lcom/example/lull/lull/tree/Flow;" (.ref w_BREAK)) (S_CONTINUE : Sta Z h0 "com/example/lull/lull/tree/Flow" "CONTINUE" "Lcom/example/lull/lull/tree/Flow;" (.ref w_CONTINUE)) (S_RETURN : Sta Z h0 "com/example/lull/lull/tree/Flow" "RETURN" "Lcom/example/lull/lull/tree/Flow;" (.ref w_RETURN)) (S_PAUSE : Sta Z h0 "com/example/lull/lull/tree/Flow" "PAUSE" "Lcom/example/lull/lull/tree/Flow;" (.ref w_PAUSE)) :
    MetFree l (⟨"com/example/lull/lull/tree/FlowOutOfLoopPinLaw", "pick", "(I)Lcom/example/lull/lull/tree/Flow;"⟩ : MethodName) (head1 (Jvm.Cond.code (⟨"com/example/lull/lull/tree/FlowOutOfLoopPinLaw", "pick", "(I)Lcom/example/lull/lull/tree/Flow;"⟩ : MethodName) method_2_code 1 (Option.some (Jvm.ClassFile.FieldType.object "com/example/lull/lull/tree/Flow")) :: ws) ({ frames := 0, cells := 0, slots := 0, locals := 0 } : Room)) (fun a U => a = #[(.int p1)] ∧ Z.Warmed39 U.vm ∧ U.heap = h0) (fun _ _ _ _ _ => True) (fun _ U o U' => ∃ v L, o = .returned v ∧ Q1 p1 w_NEXT w_BREAK w_CONTINUE w_RETURN w_PAUSE h0 n0 v U'.heap L ∧ FrameEnd U o U' L ({ frames := 0, cells := 0, slots := 0, locals := 0 } : Room).cells ({ frames := 0, cells := 0, slots := 0, locals := 0 } : Room).slots) := by
  refine MetFree.of_bodySF (plainFor_of_name own_pn1) hisR ?_
  intro p e s m args below meth c s₁ Bd hml0 hP hK
  obtain ⟨rfl, hZ, hh⟩ := hP
  have hx := Bd.exec
  have hby := Bd.bytes
  have hml : c.maxLocals = 1 := hml0
  have hown : s.vm.findClass "com/example/lull/lull/tree/FlowOutOfLoopPinLaw" = some m.cls := findClass_of_methodNamed Bd.named
  have hnm := (name_of_methodNamed Bd.named Bd.method).1
  have X0 : Stand p l e ({ frames := 0, cells := 0, slots := 0, locals := 0 } : Room) s m #[(.int p1)] below meth c s₁ [] 0 0 := Stand.of_body Bd
  have e0 : s₁.heap = h0 := by rw [← hh, Bd.state]; rfl
  have N0 := Fr.nil n0
  refine own_open (f := (mkF m 0 #[.val (.int p1)] [])) (fun t k => castTop (own_ef1 m p1) k) ?_
  refine own_by (f' := (mkF m 1 #[.val (.int p1)] [(.int p1)])) (fun t h => XS.iloadN X0.here hx rfl (hb hby d1_0) rfl h) ?_
  by_cases hc1_1 : p1 = (0 : Int32)
  · refine own_by (f' := (mkF m 4 #[.val (.int p1)] [])) (fun t h => XS.ifNo X0.here hx rfl (hb hby d1_1) rfl ((if0 _ _).trans (teq hc1_1).2) h) ?_
    obtain ⟨T2, X2, e2, st2⟩ := getS2 X0 hx hZ hown (host := "") (Or.inl (hw _ (List.mem_of_getElem? (i := 5) rfl))) Via.refl e0 S_NEXT (g := (mkF m 4 #[.val (.int p1)] [])) rfl (hb hby d1_4)
    refine own_by (f' := (mkF m 7 #[.val (.int p1)] [(.ref w_NEXT)])) st2 ?_
    obtain ⟨fs, hr, hrun, hended, hW, hsame⟩ := X2.leave (v := some (.ref w_NEXT)) (fun h => by rw [Bd.returns] at h; cases h)
    refine own_mk ⟨_, _, retOut X2 hx Bd.returns rfl (Or.inr (Or.inr (Or.inr (Or.inr ⟨rfl, rfl, rfl⟩)))) (hb hby d1_7) hr, hrun, hended, _, _, rfl, ?_, ⟨_, rfl⟩, hW, hsame.mono (by decide) (by decide)⟩
    show Q1 p1 w_NEXT w_BREAK w_CONTINUE w_RETURN w_PAUSE h0 n0 _ T2.heap _
    rw [e2]
    exact ⟨by simp [hc1_1], N0, rfl⟩
  · refine own_by (f' := (mkF m 8 #[.val (.int p1)] [])) (fun t h => XS.ifYes X0.here hx rfl (pc0 := 1) (pc' := 8) rfl (hb hby d1_1) rfl ((if0 _ _).trans (feq hc1_1).2) (by decide) (by decide) h) ?_
    refine own_by (f' := (mkF m 9 #[.val (.int p1)] [(.int p1)])) (fun t h => XS.iloadN X0.here hx rfl (hb hby d1_8) rfl h) ?_
    refine own_by (f' := (mkF m 10 #[.val (.int p1)] [(.int (1 : Int32)), (.int p1)])) (fun t h => XS.iconst X0.here hx rfl (hb hby d1_9) h) ?_
    by_cases hc10_3 : p1 = (1 : Int32)
    · refine own_by (f' := (mkF m 13 #[.val (.int p1)] [])) (fun t h => XS.icmpNo X0.here hx rfl (hb hby d1_10) rfl (teq hc10_3).2 h) ?_
      obtain ⟨T4, X4, e4, st4⟩ := getS2 X0 hx hZ hown (host := "") (Or.inl (hw _ (List.mem_of_getElem? (i := 19) rfl))) Via.refl e0 S_BREAK (g := (mkF m 13 #[.val (.int p1)] [])) rfl (hb hby d1_13)
      refine own_by (f' := (mkF m 16 #[.val (.int p1)] [(.ref w_BREAK)])) st4 ?_
      obtain ⟨fs, hr, hrun, hended, hW, hsame⟩ := X4.leave (v := some (.ref w_BREAK)) (fun h => by rw [Bd.returns] at h; cases h)
      refine own_mk ⟨_, _, retOut X4 hx Bd.returns rfl (Or.inr (Or.inr (Or.inr (Or.inr ⟨rfl, rfl, rfl⟩)))) (hb hby d1_16) hr, hrun, hended, _, _, rfl, ?_, ⟨_, rfl⟩, hW, hsame.mono (by decide) (by decide)⟩
      show Q1 p1 w_NEXT w_BREAK w_CONTINUE w_RETURN w_PAUSE h0 n0 _ T4.heap _
      rw [e4]
      exact ⟨by simp [hc1_1, hc10_3], N0, rfl⟩
    · refine own_by (f' := (mkF m 17 #[.val (.int p1)] [])) (fun t h => XS.icmpYes X0.here hx rfl (pc0 := 10) (pc' := 17) rfl (hb hby d1_10) rfl (feq hc10_3).2 (by decide) (by decide) h) ?_
      refine own_by (f' := (mkF m 18 #[.val (.int p1)] [(.int p1)])) (fun t h => XS.iloadN X0.here hx rfl (hb hby d1_17) rfl h) ?_
      refine own_by (f' := (mkF m 19 #[.val (.int p1)] [(.int (2 : Int32)), (.int p1)])) (fun t h => XS.iconst X0.here hx rfl (hb hby d1_18) h) ?_
      by_cases hc19_5 : p1 = (2 : Int32)
      · refine own_by (f' := (mkF m 22 #[.val (.int p1)] [])) (fun t h => XS.icmpNo X0.here hx rfl (hb hby d1_19) rfl (teq hc19_5).2 h) ?_
        obtain ⟨T6, X6, e6, st6⟩ := getS2 X0 hx hZ hown (host := "") (Or.inl (hw _ (List.mem_of_getElem? (i := 23) rfl))) Via.refl e0 S_CONTINUE (g := (mkF m 22 #[.val (.int p1)] [])) rfl (hb hby d1_22)
        refine own_by (f' := (mkF m 25 #[.val (.int p1)] [(.ref w_CONTINUE)])) st6 ?_
        obtain ⟨fs, hr, hrun, hended, hW, hsame⟩ := X6.leave (v := some (.ref w_CONTINUE)) (fun h => by rw [Bd.returns] at h; cases h)
        refine own_mk ⟨_, _, retOut X6 hx Bd.returns rfl (Or.inr (Or.inr (Or.inr (Or.inr ⟨rfl, rfl, rfl⟩)))) (hb hby d1_25) hr, hrun, hended, _, _, rfl, ?_, ⟨_, rfl⟩, hW, hsame.mono (by decide) (by decide)⟩
        show Q1 p1 w_NEXT w_BREAK w_CONTINUE w_RETURN w_PAUSE h0 n0 _ T6.heap _
        rw [e6]
        exact ⟨by simp [hc1_1, hc10_3, hc19_5], N0, rfl⟩
      · refine own_by (f' := (mkF m 26 #[.val (.int p1)] [])) (fun t h => XS.icmpYes X0.here hx rfl (pc0 := 19) (pc' := 26) rfl (hb hby d1_19) rfl (feq hc19_5).2 (by decide) (by decide) h) ?_
        refine own_by (f' := (mkF m 27 #[.val (.int p1)] [(.int p1)])) (fun t h => XS.iloadN X0.here hx rfl (hb hby d1_26) rfl h) ?_
        refine own_by (f' := (mkF m 28 #[.val (.int p1)] [(.int (3 : Int32)), (.int p1)])) (fun t h => XS.iconst X0.here hx rfl (hb hby d1_27) h) ?_
        by_cases hc28_7 : p1 = (3 : Int32)
        · refine own_by (f' := (mkF m 31 #[.val (.int p1)] [])) (fun t h => XS.icmpNo X0.here hx rfl (hb hby d1_28) rfl (teq hc28_7).2 h) ?_
          obtain ⟨T8, X8, e8, st8⟩ := getS2 X0 hx hZ hown (host := "") (Or.inl (hw _ (List.mem_of_getElem? (i := 17) rfl))) Via.refl e0 S_RETURN (g := (mkF m 31 #[.val (.int p1)] [])) rfl (hb hby d1_31)
          refine own_by (f' := (mkF m 34 #[.val (.int p1)] [(.ref w_RETURN)])) st8 ?_
          obtain ⟨fs, hr, hrun, hended, hW, hsame⟩ := X8.leave (v := some (.ref w_RETURN)) (fun h => by rw [Bd.returns] at h; cases h)
          refine own_mk ⟨_, _, retOut X8 hx Bd.returns rfl (Or.inr (Or.inr (Or.inr (Or.inr ⟨rfl, rfl, rfl⟩)))) (hb hby d1_34) hr, hrun, hended, _, _, rfl, ?_, ⟨_, rfl⟩, hW, hsame.mono (by decide) (by decide)⟩
          show Q1 p1 w_NEXT w_BREAK w_CONTINUE w_RETURN w_PAUSE h0 n0 _ T8.heap _
          rw [e8]
          exact ⟨by simp [hc1_1, hc10_3, hc19_5, hc28_7], N0, rfl⟩
        · refine own_by (f' := (mkF m 35 #[.val (.int p1)] [])) (fun t h => XS.icmpYes X0.here hx rfl (pc0 := 28) (pc' := 35) rfl (hb hby d1_28) rfl (feq hc28_7).2 (by decide) (by decide) h) ?_
          obtain ⟨T9, X9, e9, st9⟩ := getS2 X0 hx hZ hown (host := "") (Or.inl (hw _ (List.mem_of_getElem? (i := 21) rfl))) Via.refl e0 S_PAUSE (g := (mkF m 35 #[.val (.int p1)] [])) rfl (hb hby d1_35)
          refine own_by (f' := (mkF m 38 #[.val (.int p1)] [(.ref w_PAUSE)])) st9 ?_
          obtain ⟨fs, hr, hrun, hended, hW, hsame⟩ := X9.leave (v := some (.ref w_PAUSE)) (fun h => by rw [Bd.returns] at h; cases h)
          refine own_mk ⟨_, _, retOut X9 hx Bd.returns rfl (Or.inr (Or.inr (Or.inr (Or.inr ⟨rfl, rfl, rfl⟩)))) (hb hby d1_38) hr, hrun, hended, _, _, rfl, ?_, ⟨_, rfl⟩, hW, hsame.mono (by decide) (by decide)⟩
          show Q1 p1 w_NEXT w_BREAK w_CONTINUE w_RETURN w_PAUSE h0 n0 _ T9.heap _
          rw [e9]
          exact ⟨by simp [hc1_1, hc10_3, hc19_5, hc28_7], N0, rfl⟩
theorem d2_0 : decode prog_132_method_5_code 0 = .ok (.aload_n 0, 1) := by decide +kernel
theorem d2_1 : decode prog_132_method_5_code 1 = .ok (.getstatic 7, 3) := by decide +kernel
theorem d2_4 : decode prog_132_method_5_code 4 = .ok (.if_acmp .eq 10, 3) := by decide +kernel
theorem d2_7 : decode prog_132_method_5_code 7 = .ok (.aload_n 0, 1) := by decide +kernel
theorem d2_8 : decode prog_132_method_5_code 8 = .ok (.getstatic 10, 3) := by decide +kernel
theorem d2_11 : decode prog_132_method_5_code 11 = .ok (.if_acmp .ne 9, 3) := by decide +kernel
theorem d2_14 : decode prog_132_method_5_code 14 = .ok (.getstatic 3, 3) := by decide +kernel
theorem d2_17 : decode prog_132_method_5_code 17 = .ok (.goto 4, 3) := by decide +kernel
theorem d2_20 : decode prog_132_method_5_code 20 = .ok (.aload_n 0, 1) := by decide +kernel
theorem d2_21 : decode prog_132_method_5_code 21 = .ok (.areturn, 1) := by decide +kernel
theorem own_pn2 : plainName "com/example/lull/lull/tree/Flow" = true := by first | (simp [plainName, overriddenIn]; done) | decide +kernel
theorem own_ef2 (m : MethodId) (x0 : Addr) : entryFrame m #[(.ref x0)] 1 = mkF m 0 #[.val (.ref x0)] [] := by first | (simp [entryFrame, mkF, argsToLocals, Value.category, maxLocals]; done) | rfl
theorem own_pd2 : parseMethodDescriptor "()Lcom/example/lull/lull/tree/Flow;" = some ⟨[], some (.object "com/example/lull/lull/tree/Flow")⟩ := by decide +kernel
def Q2 (a1 w_NEXT w_BREAK w_CONTINUE : Addr) (h0 : Heap) (n0 : Nat) (v : Option Value) (h : Heap) (L : List Loc) : Prop := v = some (.ref (if a1 = w_BREAK ∨ a1 = w_CONTINUE then w_NEXT else a1)) ∧ Fr n0 L ∧ h = h0
set_option maxRecDepth 65536 in
set_option maxHeartbeats 40000000 in
theorem rm2 (l : Launch) (Z : State) (a0 : Array Value) (hw : ∀ d ∈ tables_1, d.before a0 Z = true) (ws : List Jvm.Cond) (a1 w_NEXT w_BREAK w_CONTINUE : Addr) (h0 : Heap) (n0 : Nat) (Z0 : n0 ≤ h0.size) (S_NEXT : Sta Z h0 "com/example/lull/lull/tree/Flow" "NEXT" "Lcom/example/lull/lull/tree/Flow;" (.ref w_NEXT)) (S_BREAK : Sta Z h0 "com/example/lull/lull/tree/Flow" "BREAK" "Lcom/example/lull/lull/tree/Flow;" (.ref w_BREAK)) (S_CONTINUE : Sta Z h0 "com/example/lull/lull/tree/Flow" "CONTINUE" "Lcom/example/lull/lull/tree/Flow;" (.ref w_CONTINUE)) :
    MetFree l (⟨"com/example/lull/lull/tree/Flow", "outOfLoop", "()Lcom/example/lull/lull/tree/Flow;"⟩ : MethodName) (head1 (Jvm.Cond.code (⟨"com/example/lull/lull/tree/Flow", "outOfLoop", "()Lcom/example/lull/lull/tree/Flow;"⟩ : MethodName) prog_132_method_5_code 1 (Option.some (Jvm.ClassFile.FieldType.object "com/example/lull/lull/tree/Flow")) :: ws) ({ frames := 0, cells := 0, slots := 0, locals := 0 } : Room)) (fun a U => a = #[(.ref a1)] ∧ Z.Warmed39 U.vm ∧ U.heap = h0) (fun _ _ _ _ _ => True) (fun _ U o U' => ∃ v L, o = .returned v ∧ Q2 a1 w_NEXT w_BREAK w_CONTINUE h0 n0 v U'.heap L ∧ FrameEnd U o U' L ({ frames := 0, cells := 0, slots := 0, locals := 0 } : Room).cells ({ frames := 0, cells := 0, slots := 0, locals := 0 } : Room).slots) := by
  refine MetFree.of_bodySF (plainFor_of_name own_pn2) hisR ?_
  intro p e s m args below meth c s₁ Bd hml0 hP hK
  obtain ⟨rfl, hZ, hh⟩ := hP
  have hx := Bd.exec
  have hby := Bd.bytes
  have hml : c.maxLocals = 1 := hml0
  have hown : s.vm.findClass "com/example/lull/lull/tree/Flow" = some m.cls := findClass_of_methodNamed Bd.named
  have hnm := (name_of_methodNamed Bd.named Bd.method).1
  have X0 : Stand p l e ({ frames := 0, cells := 0, slots := 0, locals := 0 } : Room) s m #[(.ref a1)] below meth c s₁ [] 0 0 := Stand.of_body Bd
  have e0 : s₁.heap = h0 := by rw [← hh, Bd.state]; rfl
  have N0 := Fr.nil n0
  refine own_open (f := (mkF m 0 #[.val (.ref a1)] [])) (fun t k => castTop (own_ef2 m a1) k) ?_
  refine own_by (f' := (mkF m 1 #[.val (.ref a1)] [(.ref a1)])) (fun t h => XS.aloadN X0.here hx rfl (hb hby d2_0) rfl rfl h) ?_
  obtain ⟨T1, X1, e1, st1⟩ := getS2 X0 hx hZ hown (host := "") (Or.inl (hw _ (List.mem_of_getElem? (i := 13) rfl))) Via.refl e0 S_BREAK (g := (mkF m 1 #[.val (.ref a1)] [(.ref a1)])) rfl (hb hby d2_1)
  refine own_by (f' := (mkF m 4 #[.val (.ref a1)] [(.ref w_BREAK), (.ref a1)])) st1 ?_
  by_cases hc4_2 : a1 = w_BREAK
  · refine own_by (f' := (mkF m 14 #[.val (.ref a1)] [])) (fun t h => Jvm.RoadKit.acmp (g := (mkF m 4 #[.val (.ref a1)] [(.ref w_BREAK), (.ref a1)])) X1 hx rfl rfl rfl (pc0 := 4) (pc' := 14) (same := true) rfl (hb hby d2_4) rfl (decide_eq_true (congrArg Value.ref hc4_2)) (by decide) (by decide) h) ?_
    obtain ⟨T3, X3, e3, st3⟩ := getS2 X1 hx hZ hown (host := "") (Or.inl (hw _ (List.mem_of_getElem? (i := 20) rfl))) Via.refl e1 S_NEXT (g := (mkF m 14 #[.val (.ref a1)] [])) rfl (hb hby d2_14)
    refine own_by (f' := (mkF m 17 #[.val (.ref a1)] [(.ref w_NEXT)])) st3 ?_
    refine own_by (f' := (mkF m 21 #[.val (.ref a1)] [(.ref w_NEXT)])) (fun t h => XS.goto X3.here hx rfl (pc0 := 17) (pc' := 21) rfl (hb hby d2_17) (by decide) (by decide) h) ?_
    obtain ⟨fs, hr, hrun, hended, hW, hsame⟩ := X3.leave (v := some (.ref w_NEXT)) (fun h => by rw [Bd.returns] at h; cases h)
    refine own_mk ⟨_, _, retOut X3 hx Bd.returns rfl (Or.inr (Or.inr (Or.inr (Or.inr ⟨rfl, rfl, rfl⟩)))) (hb hby d2_21) hr, hrun, hended, _, _, rfl, ?_, ⟨_, rfl⟩, hW, hsame.mono (by decide) (by decide)⟩
    show Q2 a1 w_NEXT w_BREAK w_CONTINUE h0 n0 _ T3.heap _
    rw [e3]
    exact ⟨by simp [hc4_2], N0, rfl⟩
  · refine own_by (f' := (mkF m 7 #[.val (.ref a1)] [])) (fun t h => Jvm.RoadKit.acmp (g := (mkF m 4 #[.val (.ref a1)] [(.ref w_BREAK), (.ref a1)])) X1 hx rfl rfl rfl (pc0 := 4) (pc' := 7) (same := false) rfl (hb hby d2_4) rfl (decide_eq_false fun q => hc4_2 (Value.ref.inj q)) (by decide) (by decide) h) ?_
    refine own_by (f' := (mkF m 8 #[.val (.ref a1)] [(.ref a1)])) (fun t h => XS.aloadN X1.here hx rfl (hb hby d2_7) rfl rfl h) ?_
    obtain ⟨T4, X4, e4, st4⟩ := getS2 X1 hx hZ hown (host := "") (Or.inl (hw _ (List.mem_of_getElem? (i := 15) rfl))) Via.refl e1 S_CONTINUE (g := (mkF m 8 #[.val (.ref a1)] [(.ref a1)])) rfl (hb hby d2_8)
    refine own_by (f' := (mkF m 11 #[.val (.ref a1)] [(.ref w_CONTINUE), (.ref a1)])) st4 ?_
    by_cases hc11_5 : a1 = w_CONTINUE
    · refine own_by (f' := (mkF m 14 #[.val (.ref a1)] [])) (fun t h => Jvm.RoadKit.acmp (g := (mkF m 11 #[.val (.ref a1)] [(.ref w_CONTINUE), (.ref a1)])) X4 hx rfl rfl rfl (pc0 := 11) (pc' := 14) (same := true) rfl (hb hby d2_11) rfl (decide_eq_true (congrArg Value.ref hc11_5)) (by decide) (by decide) h) ?_
      obtain ⟨T6, X6, e6, st6⟩ := getS2 X4 hx hZ hown (host := "") (Or.inl (hw _ (List.mem_of_getElem? (i := 20) rfl))) Via.refl e4 S_NEXT (g := (mkF m 14 #[.val (.ref a1)] [])) rfl (hb hby d2_14)
      refine own_by (f' := (mkF m 17 #[.val (.ref a1)] [(.ref w_NEXT)])) st6 ?_
      refine own_by (f' := (mkF m 21 #[.val (.ref a1)] [(.ref w_NEXT)])) (fun t h => XS.goto X6.here hx rfl (pc0 := 17) (pc' := 21) rfl (hb hby d2_17) (by decide) (by decide) h) ?_
      obtain ⟨fs, hr, hrun, hended, hW, hsame⟩ := X6.leave (v := some (.ref w_NEXT)) (fun h => by rw [Bd.returns] at h; cases h)
      refine own_mk ⟨_, _, retOut X6 hx Bd.returns rfl (Or.inr (Or.inr (Or.inr (Or.inr ⟨rfl, rfl, rfl⟩)))) (hb hby d2_21) hr, hrun, hended, _, _, rfl, ?_, ⟨_, rfl⟩, hW, hsame.mono (by decide) (by decide)⟩
      show Q2 a1 w_NEXT w_BREAK w_CONTINUE h0 n0 _ T6.heap _
      rw [e6]
      exact ⟨by simp [hc4_2, hc11_5], N0, rfl⟩
    · refine own_by (f' := (mkF m 20 #[.val (.ref a1)] [])) (fun t h => Jvm.RoadKit.acmp (g := (mkF m 11 #[.val (.ref a1)] [(.ref w_CONTINUE), (.ref a1)])) X4 hx rfl rfl rfl (pc0 := 11) (pc' := 20) (same := false) rfl (hb hby d2_11) rfl (decide_eq_false fun q => hc11_5 (Value.ref.inj q)) (by decide) (by decide) h) ?_
      refine own_by (f' := (mkF m 21 #[.val (.ref a1)] [(.ref a1)])) (fun t h => XS.aloadN X4.here hx rfl (hb hby d2_20) rfl rfl h) ?_
      obtain ⟨fs, hr, hrun, hended, hW, hsame⟩ := X4.leave (v := some (.ref a1)) (fun h => by rw [Bd.returns] at h; cases h)
      refine own_mk ⟨_, _, retOut X4 hx Bd.returns rfl (Or.inr (Or.inr (Or.inr (Or.inr ⟨rfl, rfl, rfl⟩)))) (hb hby d2_21) hr, hrun, hended, _, _, rfl, ?_, ⟨_, rfl⟩, hW, hsame.mono (by decide) (by decide)⟩
      show Q2 a1 w_NEXT w_BREAK w_CONTINUE h0 n0 _ T4.heap _
      rw [e4]
      exact ⟨by simp [hc4_2, hc11_5], N0, rfl⟩
theorem own_pn0 : plainName "com/example/lull/lull/tree/FlowOutOfLoopPinLaw" = true := by first | (simp [plainName, overriddenIn]; done) | decide +kernel
theorem own_ef0 (m : MethodId) (x0 : Int32) : entryFrame m #[(.int x0)] maxLocals = mkF m 0 #[.val (.int x0), .unset, .unset, .unset, .unset] [] := by first | (simp [entryFrame, mkF, argsToLocals, Value.category, maxLocals]; done) | rfl
def Q0 (n0 : Nat) (v : Option Value) (h : Heap) (L : List Loc) : Prop := v = some (.int 1) ∧ Fr n0 L
set_option maxRecDepth 65536 in
set_option maxHeartbeats 40000000 in
theorem rm0 (l : Launch) (Z : State) (a0 : Array Value) (hw : ∀ d ∈ tables_1, d.before a0 Z = true) (ws : List Jvm.Cond) (p1 : Int32) (w_NEXT w_BREAK w_CONTINUE w_RETURN w_PAUSE : Addr) (h0 : Heap) (n0 : Nat) (Z0 : n0 ≤ h0.size) (S_NEXT : Sta Z h0 "com/example/lull/lull/tree/Flow" "NEXT" "Lcom/example/lull/lull/tree/Flow;" (.ref w_NEXT)) (S_BREAK : Sta Z h0 "com/example/lull/lull/tree/Flow" "BREAK" "Lcom/example/lull/lull/tree/Flow;" (.ref w_BREAK)) (S_CONTINUE : Sta Z h0 "com/example/lull/lull/tree/Flow" "CONTINUE" "Lcom/example/lull/lull/tree/Flow;" (.ref w_CONTINUE)) (S_RETURN : Sta Z h0 "com/example/lull/lull/tree/Flow" "RETURN" "Lcom/example/lull/lull/tree/Flow;" (.ref w_RETURN)) (S_PAUSE : Sta Z h0 "com/example/lull/lull/tree/Flow" "PAUSE" "Lcom/example/lull/lull/tree/Flow;" (.ref w_PAUSE)) (E_NEXT : Exa Z h0 w_NEXT "com/example/lull/lull/tree/Flow") (E_BREAK : Exa Z h0 w_BREAK "com/example/lull/lull/tree/Flow") (E_CONTINUE : Exa Z h0 w_CONTINUE "com/example/lull/lull/tree/Flow") (E_RETURN : Exa Z h0 w_RETURN "com/example/lull/lull/tree/Flow") (E_PAUSE : Exa Z h0 w_PAUSE "com/example/lull/lull/tree/Flow") (ne_RETURN_BREAK : ¬ (w_RETURN = w_BREAK)) (ne_RETURN_CONTINUE : ¬ (w_RETURN = w_CONTINUE)) (ne_PAUSE_BREAK : ¬ (w_PAUSE = w_BREAK)) (ne_PAUSE_CONTINUE : ¬ (w_PAUSE = w_CONTINUE)) :
    MetFree l x (head1 (Jvm.Cond.code x code maxLocals ret :: ws) room_1) (fun a U => a = #[(.int p1)] ∧ Z.Warmed39 U.vm ∧ U.heap = h0) (fun _ _ _ _ _ => True) (fun _ U o U' => ∃ v L, o = .returned v ∧ Q0 n0 v U'.heap L ∧ FrameEnd U o U' L room_1.cells room_1.slots) := by
  refine MetFree.of_bodySF (plainFor_of_name own_pn0) hisR ?_
  intro p e s m args below meth c s₁ Bd hml0 hP hK
  obtain ⟨rfl, hZ, hh⟩ := hP
  have hx := Bd.exec
  have hby := Bd.bytes
  have hml : c.maxLocals = 5 := hml0
  have hown : s.vm.findClass "com/example/lull/lull/tree/FlowOutOfLoopPinLaw" = some m.cls := findClass_of_methodNamed Bd.named
  have hnm := (name_of_methodNamed Bd.named Bd.method).1
  have X0 : Stand p l e room_1 s m #[(.int p1)] below meth c s₁ [] 0 0 := Stand.of_body Bd
  have e0 : s₁.heap = h0 := by rw [← hh, Bd.state]; rfl
  have N0 := Fr.nil n0
  refine own_open (f := (mkF m 0 #[.val (.int p1), .unset, .unset, .unset, .unset] [])) (fun t k => castTop (own_ef0 m p1) k) ?_
  refine own_by (f' := (mkF m 1 #[.val (.int p1), .unset, .unset, .unset, .unset] [(.int p1)])) (fun t h => XS.iloadN X0.here hx rfl (hb hby at_0) rfl h) ?_
  refine own_by (f' := (mkF m 3 #[.val (.int p1), .unset, .unset, .unset, .unset] [(.int (2147483647 : Int32)), (.int p1)])) (fun t h => X0.ldcI hx hown (mvT hZ (hw _ (List.mem_of_getElem? (i := 0) rfl))) rfl (hb hby at_1) h) ?_
  refine own_by (f' := (mkF m 4 #[.val (.int p1), .unset, .unset, .unset, .unset] [(.int (p1 &&& (2147483647 : Int32)))])) (fun t h => XS.iand X0.here hx rfl (hb hby at_3) rfl h) ?_
  refine own_by (f' := (mkF m 5 #[.val (.int p1), .unset, .unset, .unset, .unset] [(.int (5 : Int32)), (.int (p1 &&& (2147483647 : Int32)))])) (fun t h => XS.iconst X0.here hx rfl (hb hby at_4) h) ?_
  refine own_by (f' := (mkF m 6 #[.val (.int p1), .unset, .unset, .unset, .unset] [(.int ((p1 &&& (2147483647 : Int32)) % (5 : Int32)))])) (fun t h => iremM X0 hx rfl (hb hby at_5) rfl (by decide) h) ?_
  refine own_by (f' := (mkF m 7 #[.val (.int p1), .val (.int ((p1 &&& (2147483647 : Int32)) % (5 : Int32))), .unset, .unset, .unset] [])) (fun t h => XS.istoreN X0.here hx rfl (hb hby at_6) rfl (l' := #[.val (.int p1), .val (.int ((p1 &&& (2147483647 : Int32)) % (5 : Int32))), .unset, .unset, .unset]) rfl h) ?_
  have hk := own_k p1
  generalize ((p1 &&& (2147483647 : Int32)) % (5 : Int32)) = k at hk ⊢
  rcases hk with rfl | rfl | rfl | rfl | rfl
  · refine own_by (f' := (mkF m 8 #[.val (.int p1), .val (.int (0 : Int32)), .unset, .unset, .unset] [(.int (0 : Int32))])) (fun t h => XS.iloadN X0.here hx rfl (hb hby at_7) rfl h) ?_
    obtain ⟨v1, _, ⟨T1, L1, k1, n1⟩, -, X1, ⟨Lc1, hQ1, l1, y1, z1⟩, st1⟩ := Jvm.LawKit.callS X0 hx (y := (⟨"com/example/lull/lull/tree/FlowOutOfLoopPinLaw", "pick", "(I)Lcom/example/lull/lull/tree/Flow;"⟩ : MethodName)) hown (mvT hZ (hw _ (List.mem_of_getElem? (i := 1) rfl))) (mvT hZ (hw _ (List.mem_of_getElem? (i := 2) rfl))) (mvT hZ (hw _ (List.mem_of_getElem? (i := 3) rfl))) (mvT hZ (hw _ (List.mem_of_getElem? (i := 4) rfl))) (by decide) (backOf (W := 0) (rm1 l Z a0 hw [] (0 : Int32) w_NEXT w_BREAK w_CONTINUE w_RETURN w_PAUSE h0 n0 Z0 S_NEXT S_BREAK S_CONTINUE S_RETURN S_PAUSE) hZ (hw _ (List.mem_of_getElem? (i := 4) rfl)) (hw _ (List.mem_of_getElem? (i := 3) rfl)) (by decide) (by decide)) (g := (mkF m 8 #[.val (.int p1), .val (.int (0 : Int32)), .unset, .unset, .unset] [(.int (0 : Int32))])) rfl (by rw [hml]; rfl) (argsL := [(.int (0 : Int32))]) (rest := []) (lenOf own_pd1 rfl) rfl (by show 2 * 0 + _ ≤ _; exact Nat.le_of_eq rfl) (hb hby at_8) (fun _ _ => ⟨rfl, e0, (by decide : 0 + 0 ≤ _), (by decide : 0 + 0 ≤ _)⟩)
    dsimp only [Pt.U, Pt.locs, Pt.cells, Pt.slots] at X1 l1 y1 z1 st1 hQ1
    subst l1 y1 z1
    obtain ⟨hv1, Nc1, e1⟩ := hQ1
    have N1 := Fr.app N0 Nc1
    obtain rfl : v1 = some (.ref w_NEXT) := hv1.trans (by simp)
    refine own_by (f' := (mkF m 11 #[.val (.int p1), .val (.int (0 : Int32)), .unset, .unset, .unset] [(.ref w_NEXT)])) st1 ?_
    refine own_by (f' := (mkF m 12 #[.val (.int p1), .val (.int (0 : Int32)), .val (.ref w_NEXT), .unset, .unset] [])) (fun t h => XS.astoreN X1.here hx rfl (hb hby at_11) rfl rfl (l' := #[.val (.int p1), .val (.int (0 : Int32)), .val (.ref w_NEXT), .unset, .unset]) rfl h) ?_
    refine own_by (f' := (mkF m 13 #[.val (.int p1), .val (.int (0 : Int32)), .val (.ref w_NEXT), .unset, .unset] [(.int (0 : Int32))])) (fun t h => XS.iloadN X1.here hx rfl (hb hby at_12) rfl h) ?_
    refine own_by (f' := (mkF m 14 #[.val (.int p1), .val (.int (0 : Int32)), .val (.ref w_NEXT), .unset, .unset] [(.int (3 : Int32)), (.int (0 : Int32))])) (fun t h => XS.iconst X1.here hx rfl (hb hby at_13) h) ?_
    refine own_by (f' := (mkF m 24 #[.val (.int p1), .val (.int (0 : Int32)), .val (.ref w_NEXT), .unset, .unset] [])) (fun t h => XS.icmpYes X1.here hx rfl (pc0 := 14) (pc' := 24) rfl (hb hby at_14) rfl (by decide) (by decide) (by decide) h) ?_
    refine own_by (f' := (mkF m 25 #[.val (.int p1), .val (.int (0 : Int32)), .val (.ref w_NEXT), .unset, .unset] [(.int (0 : Int32))])) (fun t h => XS.iloadN X1.here hx rfl (hb hby at_24) rfl h) ?_
    refine own_by (f' := (mkF m 26 #[.val (.int p1), .val (.int (0 : Int32)), .val (.ref w_NEXT), .unset, .unset] [(.int (4 : Int32)), (.int (0 : Int32))])) (fun t h => XS.iconst X1.here hx rfl (hb hby at_25) h) ?_
    refine own_by (f' := (mkF m 36 #[.val (.int p1), .val (.int (0 : Int32)), .val (.ref w_NEXT), .unset, .unset] [])) (fun t h => XS.icmpYes X1.here hx rfl (pc0 := 26) (pc' := 36) rfl (hb hby at_26) rfl (by decide) (by decide) (by decide) h) ?_
    obtain ⟨T2, X2, e2, st2⟩ := getS2 X1 hx hZ hown (host := "") (Or.inl (hw _ (List.mem_of_getElem? (i := 5) rfl))) Via.refl e1 S_NEXT (g := (mkF m 36 #[.val (.int p1), .val (.int (0 : Int32)), .val (.ref w_NEXT), .unset, .unset] [])) rfl (hb hby at_36)
    refine own_by (f' := (mkF m 39 #[.val (.int p1), .val (.int (0 : Int32)), .val (.ref w_NEXT), .unset, .unset] [(.ref w_NEXT)])) st2 ?_
    refine own_by (f' := (mkF m 40 #[.val (.int p1), .val (.int (0 : Int32)), .val (.ref w_NEXT), .val (.ref w_NEXT), .unset] [])) (fun t h => XS.astoreN X2.here hx rfl (hb hby at_39) rfl rfl (l' := #[.val (.int p1), .val (.int (0 : Int32)), .val (.ref w_NEXT), .val (.ref w_NEXT), .unset]) rfl h) ?_
    refine own_by (f' := (mkF m 41 #[.val (.int p1), .val (.int (0 : Int32)), .val (.ref w_NEXT), .val (.ref w_NEXT), .unset] [(.ref w_NEXT)])) (fun t h => XS.aloadN X2.here hx rfl (hb hby at_40) rfl rfl h) ?_
    obtain ⟨cq3, kq3, q3a, q3b, q3c⟩ := isOf hZ e2 E_NEXT
    obtain ⟨v3, _, ⟨T3, L3, k3, n3⟩, -, X3, ⟨Lc3, hQ3, l3, y3, z3⟩, st3⟩ := X2.virtualBack hx (y := (⟨"com/example/lull/lull/tree/Flow", "outOfLoop", "()Lcom/example/lull/lull/tree/Flow;"⟩ : MethodName)) (z := (⟨"com/example/lull/lull/tree/Flow", "outOfLoop", "()Lcom/example/lull/lull/tree/Flow;"⟩ : MethodName)) hown (mvT hZ (hw _ (List.mem_of_getElem? (i := 8) rfl))) (mvT hZ (hw _ (List.mem_of_getElem? (i := 9) rfl))) (notFace_of_selects (args := #[]) (mvT hZ (hw _ (List.mem_of_getElem? (i := 11) rfl)))) (mvT hZ (hw _ (List.mem_of_getElem? (i := 11) rfl))) (mvT hZ (hw _ (List.mem_of_getElem? (i := 10) rfl))) (by decide) (backOf (W := 0) (rm2 l Z a0 hw [] w_NEXT w_NEXT w_BREAK w_CONTINUE h0 n0 Z0 S_NEXT S_BREAK S_CONTINUE) hZ (hw _ (List.mem_of_getElem? (i := 12) rfl)) (hw _ (List.mem_of_getElem? (i := 6) rfl)) (by decide) (by decide)) q3a q3c (g := (mkF m 41 #[.val (.int p1), .val (.int (0 : Int32)), .val (.ref w_NEXT), .val (.ref w_NEXT), .unset] [(.ref w_NEXT)])) rfl (by rw [hml]; rfl) (Steps.refl _) (argsL := []) (rest := []) (lenOf own_pd2 rfl) rfl (by show 2 * 0 + _ ≤ _; exact Nat.le_of_eq rfl) (hb hby at_41) (fun _ _ => ⟨rfl, e2, (by decide : 0 + 0 ≤ _), (by decide : 0 + 0 ≤ _)⟩)
    dsimp only [Pt.U, Pt.locs, Pt.cells, Pt.slots] at X3 l3 y3 z3 st3 hQ3
    subst l3 y3 z3
    obtain ⟨hv3, Nc3, e3⟩ := hQ3
    have N3 := Fr.app N1 Nc3
    obtain rfl : v3 = some (.ref w_NEXT) := hv3.trans (by simp)
    refine own_by (f' := (mkF m 44 #[.val (.int p1), .val (.int (0 : Int32)), .val (.ref w_NEXT), .val (.ref w_NEXT), .unset] [(.ref w_NEXT)])) (fun t h => st3.trans h) ?_
    refine own_by (f' := (mkF m 46 #[.val (.int p1), .val (.int (0 : Int32)), .val (.ref w_NEXT), .val (.ref w_NEXT), .val (.ref w_NEXT)] [])) (fun t h => XS.astore X3.here hx rfl (hb hby at_44) rfl rfl (l' := #[.val (.int p1), .val (.int (0 : Int32)), .val (.ref w_NEXT), .val (.ref w_NEXT), .val (.ref w_NEXT)]) rfl h) ?_
    refine own_by (f' := (mkF m 48 #[.val (.int p1), .val (.int (0 : Int32)), .val (.ref w_NEXT), .val (.ref w_NEXT), .val (.ref w_NEXT)] [(.ref w_NEXT)])) (fun t h => XS.aload X3.here hx rfl (hb hby at_46) rfl rfl h) ?_
    refine own_by (f' := (mkF m 49 #[.val (.int p1), .val (.int (0 : Int32)), .val (.ref w_NEXT), .val (.ref w_NEXT), .val (.ref w_NEXT)] [(.ref w_NEXT), (.ref w_NEXT)])) (fun t h => XS.aloadN X3.here hx rfl (hb hby at_48) rfl rfl h) ?_
    refine own_by (f' := (mkF m 52 #[.val (.int p1), .val (.int (0 : Int32)), .val (.ref w_NEXT), .val (.ref w_NEXT), .val (.ref w_NEXT)] [])) (fun t h => Jvm.RoadKit.acmp (g := (mkF m 49 #[.val (.int p1), .val (.int (0 : Int32)), .val (.ref w_NEXT), .val (.ref w_NEXT), .val (.ref w_NEXT)] [(.ref w_NEXT), (.ref w_NEXT)])) X3 hx rfl rfl rfl (pc0 := 49) (pc' := 52) (same := true) rfl (hb hby at_49) rfl (decide_eq_true rfl) (by decide) (by decide) h) ?_
    refine own_by (f' := (mkF m 54 #[.val (.int p1), .val (.int (0 : Int32)), .val (.ref w_NEXT), .val (.ref w_NEXT), .val (.ref w_NEXT)] [(.ref w_NEXT)])) (fun t h => XS.aload X3.here hx rfl (hb hby at_52) rfl rfl h) ?_
    obtain ⟨cq4, kq4, q4a, q4b, q4c⟩ := isOf hZ e3 E_NEXT
    obtain ⟨v4, _, ⟨T4, L4, k4, n4⟩, -, X4, ⟨Lc4, hQ4, l4, y4, z4⟩, st4⟩ := X3.virtualBack hx (y := (⟨"com/example/lull/lull/tree/Flow", "outOfLoop", "()Lcom/example/lull/lull/tree/Flow;"⟩ : MethodName)) (z := (⟨"com/example/lull/lull/tree/Flow", "outOfLoop", "()Lcom/example/lull/lull/tree/Flow;"⟩ : MethodName)) hown (mvT hZ (hw _ (List.mem_of_getElem? (i := 8) rfl))) (mvT hZ (hw _ (List.mem_of_getElem? (i := 9) rfl))) (notFace_of_selects (args := #[]) (mvT hZ (hw _ (List.mem_of_getElem? (i := 11) rfl)))) (mvT hZ (hw _ (List.mem_of_getElem? (i := 11) rfl))) (mvT hZ (hw _ (List.mem_of_getElem? (i := 10) rfl))) (by decide) (backOf (W := 0) (rm2 l Z a0 hw [] w_NEXT w_NEXT w_BREAK w_CONTINUE h0 n0 Z0 S_NEXT S_BREAK S_CONTINUE) hZ (hw _ (List.mem_of_getElem? (i := 12) rfl)) (hw _ (List.mem_of_getElem? (i := 6) rfl)) (by decide) (by decide)) q4a q4c (g := (mkF m 54 #[.val (.int p1), .val (.int (0 : Int32)), .val (.ref w_NEXT), .val (.ref w_NEXT), .val (.ref w_NEXT)] [(.ref w_NEXT)])) rfl (by rw [hml]; rfl) (Steps.refl _) (argsL := []) (rest := []) (lenOf own_pd2 rfl) rfl (by show 2 * 0 + _ ≤ _; exact Nat.le_of_eq rfl) (hb hby at_54) (fun _ _ => ⟨rfl, e3, (by decide : 0 + 0 ≤ _), (by decide : 0 + 0 ≤ _)⟩)
    dsimp only [Pt.U, Pt.locs, Pt.cells, Pt.slots] at X4 l4 y4 z4 st4 hQ4
    subst l4 y4 z4
    obtain ⟨hv4, Nc4, e4⟩ := hQ4
    have N4 := Fr.app N3 Nc4
    obtain rfl : v4 = some (.ref w_NEXT) := hv4.trans (by simp)
    refine own_by (f' := (mkF m 57 #[.val (.int p1), .val (.int (0 : Int32)), .val (.ref w_NEXT), .val (.ref w_NEXT), .val (.ref w_NEXT)] [(.ref w_NEXT)])) (fun t h => st4.trans h) ?_
    refine own_by (f' := (mkF m 59 #[.val (.int p1), .val (.int (0 : Int32)), .val (.ref w_NEXT), .val (.ref w_NEXT), .val (.ref w_NEXT)] [(.ref w_NEXT), (.ref w_NEXT)])) (fun t h => XS.aload X4.here hx rfl (hb hby at_57) rfl rfl h) ?_
    refine own_by (f' := (mkF m 62 #[.val (.int p1), .val (.int (0 : Int32)), .val (.ref w_NEXT), .val (.ref w_NEXT), .val (.ref w_NEXT)] [])) (fun t h => Jvm.RoadKit.acmp (g := (mkF m 59 #[.val (.int p1), .val (.int (0 : Int32)), .val (.ref w_NEXT), .val (.ref w_NEXT), .val (.ref w_NEXT)] [(.ref w_NEXT), (.ref w_NEXT)])) X4 hx rfl rfl rfl (pc0 := 59) (pc' := 62) (same := true) rfl (hb hby at_59) rfl (decide_eq_true rfl) (by decide) (by decide) h) ?_
    refine own_by (f' := (mkF m 63 #[.val (.int p1), .val (.int (0 : Int32)), .val (.ref w_NEXT), .val (.ref w_NEXT), .val (.ref w_NEXT)] [(.int (1 : Int32))])) (fun t h => XS.iconst X4.here hx rfl (hb hby at_62) h) ?_
    refine own_by (f' := (mkF m 67 #[.val (.int p1), .val (.int (0 : Int32)), .val (.ref w_NEXT), .val (.ref w_NEXT), .val (.ref w_NEXT)] [(.int (1 : Int32))])) (fun t h => XS.goto X4.here hx rfl (pc0 := 63) (pc' := 67) rfl (hb hby at_63) (by decide) (by decide) h) ?_
    obtain ⟨fs, hr, hrun, hended, hW, hsame⟩ := X4.leave (v := some (.int (1 : Int32))) (fun h => by rw [Bd.returns] at h; cases h)
    refine own_mk ⟨_, _, retN X4 hx (t := .boolean) Bd.returns (by simp) (hb hby at_67) hr, hrun, hended, _, _, rfl, ?_, ⟨_, rfl⟩, hW, hsame.mono (by decide) (by decide)⟩
    show Q0 n0 _ T4.heap _
    rw [e4]
    exact ⟨rfl, N4⟩
  · refine own_by (f' := (mkF m 8 #[.val (.int p1), .val (.int (1 : Int32)), .unset, .unset, .unset] [(.int (1 : Int32))])) (fun t h => XS.iloadN X0.here hx rfl (hb hby at_7) rfl h) ?_
    obtain ⟨v5, _, ⟨T5, L5, k5, n5⟩, -, X5, ⟨Lc5, hQ5, l5, y5, z5⟩, st5⟩ := Jvm.LawKit.callS X0 hx (y := (⟨"com/example/lull/lull/tree/FlowOutOfLoopPinLaw", "pick", "(I)Lcom/example/lull/lull/tree/Flow;"⟩ : MethodName)) hown (mvT hZ (hw _ (List.mem_of_getElem? (i := 1) rfl))) (mvT hZ (hw _ (List.mem_of_getElem? (i := 2) rfl))) (mvT hZ (hw _ (List.mem_of_getElem? (i := 3) rfl))) (mvT hZ (hw _ (List.mem_of_getElem? (i := 4) rfl))) (by decide) (backOf (W := 0) (rm1 l Z a0 hw [] (1 : Int32) w_NEXT w_BREAK w_CONTINUE w_RETURN w_PAUSE h0 n0 Z0 S_NEXT S_BREAK S_CONTINUE S_RETURN S_PAUSE) hZ (hw _ (List.mem_of_getElem? (i := 4) rfl)) (hw _ (List.mem_of_getElem? (i := 3) rfl)) (by decide) (by decide)) (g := (mkF m 8 #[.val (.int p1), .val (.int (1 : Int32)), .unset, .unset, .unset] [(.int (1 : Int32))])) rfl (by rw [hml]; rfl) (argsL := [(.int (1 : Int32))]) (rest := []) (lenOf own_pd1 rfl) rfl (by show 2 * 0 + _ ≤ _; exact Nat.le_of_eq rfl) (hb hby at_8) (fun _ _ => ⟨rfl, e0, (by decide : 0 + 0 ≤ _), (by decide : 0 + 0 ≤ _)⟩)
    dsimp only [Pt.U, Pt.locs, Pt.cells, Pt.slots] at X5 l5 y5 z5 st5 hQ5
    subst l5 y5 z5
    obtain ⟨hv5, Nc5, e5⟩ := hQ5
    have N5 := Fr.app N0 Nc5
    obtain rfl : v5 = some (.ref w_BREAK) := hv5.trans (by simp)
    refine own_by (f' := (mkF m 11 #[.val (.int p1), .val (.int (1 : Int32)), .unset, .unset, .unset] [(.ref w_BREAK)])) st5 ?_
    refine own_by (f' := (mkF m 12 #[.val (.int p1), .val (.int (1 : Int32)), .val (.ref w_BREAK), .unset, .unset] [])) (fun t h => XS.astoreN X5.here hx rfl (hb hby at_11) rfl rfl (l' := #[.val (.int p1), .val (.int (1 : Int32)), .val (.ref w_BREAK), .unset, .unset]) rfl h) ?_
    refine own_by (f' := (mkF m 13 #[.val (.int p1), .val (.int (1 : Int32)), .val (.ref w_BREAK), .unset, .unset] [(.int (1 : Int32))])) (fun t h => XS.iloadN X5.here hx rfl (hb hby at_12) rfl h) ?_
    refine own_by (f' := (mkF m 14 #[.val (.int p1), .val (.int (1 : Int32)), .val (.ref w_BREAK), .unset, .unset] [(.int (3 : Int32)), (.int (1 : Int32))])) (fun t h => XS.iconst X5.here hx rfl (hb hby at_13) h) ?_
    refine own_by (f' := (mkF m 24 #[.val (.int p1), .val (.int (1 : Int32)), .val (.ref w_BREAK), .unset, .unset] [])) (fun t h => XS.icmpYes X5.here hx rfl (pc0 := 14) (pc' := 24) rfl (hb hby at_14) rfl (by decide) (by decide) (by decide) h) ?_
    refine own_by (f' := (mkF m 25 #[.val (.int p1), .val (.int (1 : Int32)), .val (.ref w_BREAK), .unset, .unset] [(.int (1 : Int32))])) (fun t h => XS.iloadN X5.here hx rfl (hb hby at_24) rfl h) ?_
    refine own_by (f' := (mkF m 26 #[.val (.int p1), .val (.int (1 : Int32)), .val (.ref w_BREAK), .unset, .unset] [(.int (4 : Int32)), (.int (1 : Int32))])) (fun t h => XS.iconst X5.here hx rfl (hb hby at_25) h) ?_
    refine own_by (f' := (mkF m 36 #[.val (.int p1), .val (.int (1 : Int32)), .val (.ref w_BREAK), .unset, .unset] [])) (fun t h => XS.icmpYes X5.here hx rfl (pc0 := 26) (pc' := 36) rfl (hb hby at_26) rfl (by decide) (by decide) (by decide) h) ?_
    obtain ⟨T6, X6, e6, st6⟩ := getS2 X5 hx hZ hown (host := "") (Or.inl (hw _ (List.mem_of_getElem? (i := 5) rfl))) Via.refl e5 S_NEXT (g := (mkF m 36 #[.val (.int p1), .val (.int (1 : Int32)), .val (.ref w_BREAK), .unset, .unset] [])) rfl (hb hby at_36)
    refine own_by (f' := (mkF m 39 #[.val (.int p1), .val (.int (1 : Int32)), .val (.ref w_BREAK), .unset, .unset] [(.ref w_NEXT)])) st6 ?_
    refine own_by (f' := (mkF m 40 #[.val (.int p1), .val (.int (1 : Int32)), .val (.ref w_BREAK), .val (.ref w_NEXT), .unset] [])) (fun t h => XS.astoreN X6.here hx rfl (hb hby at_39) rfl rfl (l' := #[.val (.int p1), .val (.int (1 : Int32)), .val (.ref w_BREAK), .val (.ref w_NEXT), .unset]) rfl h) ?_
    refine own_by (f' := (mkF m 41 #[.val (.int p1), .val (.int (1 : Int32)), .val (.ref w_BREAK), .val (.ref w_NEXT), .unset] [(.ref w_BREAK)])) (fun t h => XS.aloadN X6.here hx rfl (hb hby at_40) rfl rfl h) ?_
    obtain ⟨cq7, kq7, q7a, q7b, q7c⟩ := isOf hZ e6 E_BREAK
    obtain ⟨v7, _, ⟨T7, L7, k7, n7⟩, -, X7, ⟨Lc7, hQ7, l7, y7, z7⟩, st7⟩ := X6.virtualBack hx (y := (⟨"com/example/lull/lull/tree/Flow", "outOfLoop", "()Lcom/example/lull/lull/tree/Flow;"⟩ : MethodName)) (z := (⟨"com/example/lull/lull/tree/Flow", "outOfLoop", "()Lcom/example/lull/lull/tree/Flow;"⟩ : MethodName)) hown (mvT hZ (hw _ (List.mem_of_getElem? (i := 8) rfl))) (mvT hZ (hw _ (List.mem_of_getElem? (i := 9) rfl))) (notFace_of_selects (args := #[]) (mvT hZ (hw _ (List.mem_of_getElem? (i := 11) rfl)))) (mvT hZ (hw _ (List.mem_of_getElem? (i := 11) rfl))) (mvT hZ (hw _ (List.mem_of_getElem? (i := 10) rfl))) (by decide) (backOf (W := 0) (rm2 l Z a0 hw [] w_BREAK w_NEXT w_BREAK w_CONTINUE h0 n0 Z0 S_NEXT S_BREAK S_CONTINUE) hZ (hw _ (List.mem_of_getElem? (i := 12) rfl)) (hw _ (List.mem_of_getElem? (i := 6) rfl)) (by decide) (by decide)) q7a q7c (g := (mkF m 41 #[.val (.int p1), .val (.int (1 : Int32)), .val (.ref w_BREAK), .val (.ref w_NEXT), .unset] [(.ref w_BREAK)])) rfl (by rw [hml]; rfl) (Steps.refl _) (argsL := []) (rest := []) (lenOf own_pd2 rfl) rfl (by show 2 * 0 + _ ≤ _; exact Nat.le_of_eq rfl) (hb hby at_41) (fun _ _ => ⟨rfl, e6, (by decide : 0 + 0 ≤ _), (by decide : 0 + 0 ≤ _)⟩)
    dsimp only [Pt.U, Pt.locs, Pt.cells, Pt.slots] at X7 l7 y7 z7 st7 hQ7
    subst l7 y7 z7
    obtain ⟨hv7, Nc7, e7⟩ := hQ7
    have N7 := Fr.app N5 Nc7
    obtain rfl : v7 = some (.ref w_NEXT) := hv7.trans (by simp)
    refine own_by (f' := (mkF m 44 #[.val (.int p1), .val (.int (1 : Int32)), .val (.ref w_BREAK), .val (.ref w_NEXT), .unset] [(.ref w_NEXT)])) (fun t h => st7.trans h) ?_
    refine own_by (f' := (mkF m 46 #[.val (.int p1), .val (.int (1 : Int32)), .val (.ref w_BREAK), .val (.ref w_NEXT), .val (.ref w_NEXT)] [])) (fun t h => XS.astore X7.here hx rfl (hb hby at_44) rfl rfl (l' := #[.val (.int p1), .val (.int (1 : Int32)), .val (.ref w_BREAK), .val (.ref w_NEXT), .val (.ref w_NEXT)]) rfl h) ?_
    refine own_by (f' := (mkF m 48 #[.val (.int p1), .val (.int (1 : Int32)), .val (.ref w_BREAK), .val (.ref w_NEXT), .val (.ref w_NEXT)] [(.ref w_NEXT)])) (fun t h => XS.aload X7.here hx rfl (hb hby at_46) rfl rfl h) ?_
    refine own_by (f' := (mkF m 49 #[.val (.int p1), .val (.int (1 : Int32)), .val (.ref w_BREAK), .val (.ref w_NEXT), .val (.ref w_NEXT)] [(.ref w_NEXT), (.ref w_NEXT)])) (fun t h => XS.aloadN X7.here hx rfl (hb hby at_48) rfl rfl h) ?_
    refine own_by (f' := (mkF m 52 #[.val (.int p1), .val (.int (1 : Int32)), .val (.ref w_BREAK), .val (.ref w_NEXT), .val (.ref w_NEXT)] [])) (fun t h => Jvm.RoadKit.acmp (g := (mkF m 49 #[.val (.int p1), .val (.int (1 : Int32)), .val (.ref w_BREAK), .val (.ref w_NEXT), .val (.ref w_NEXT)] [(.ref w_NEXT), (.ref w_NEXT)])) X7 hx rfl rfl rfl (pc0 := 49) (pc' := 52) (same := true) rfl (hb hby at_49) rfl (decide_eq_true rfl) (by decide) (by decide) h) ?_
    refine own_by (f' := (mkF m 54 #[.val (.int p1), .val (.int (1 : Int32)), .val (.ref w_BREAK), .val (.ref w_NEXT), .val (.ref w_NEXT)] [(.ref w_NEXT)])) (fun t h => XS.aload X7.here hx rfl (hb hby at_52) rfl rfl h) ?_
    obtain ⟨cq8, kq8, q8a, q8b, q8c⟩ := isOf hZ e7 E_NEXT
    obtain ⟨v8, _, ⟨T8, L8, k8, n8⟩, -, X8, ⟨Lc8, hQ8, l8, y8, z8⟩, st8⟩ := X7.virtualBack hx (y := (⟨"com/example/lull/lull/tree/Flow", "outOfLoop", "()Lcom/example/lull/lull/tree/Flow;"⟩ : MethodName)) (z := (⟨"com/example/lull/lull/tree/Flow", "outOfLoop", "()Lcom/example/lull/lull/tree/Flow;"⟩ : MethodName)) hown (mvT hZ (hw _ (List.mem_of_getElem? (i := 8) rfl))) (mvT hZ (hw _ (List.mem_of_getElem? (i := 9) rfl))) (notFace_of_selects (args := #[]) (mvT hZ (hw _ (List.mem_of_getElem? (i := 11) rfl)))) (mvT hZ (hw _ (List.mem_of_getElem? (i := 11) rfl))) (mvT hZ (hw _ (List.mem_of_getElem? (i := 10) rfl))) (by decide) (backOf (W := 0) (rm2 l Z a0 hw [] w_NEXT w_NEXT w_BREAK w_CONTINUE h0 n0 Z0 S_NEXT S_BREAK S_CONTINUE) hZ (hw _ (List.mem_of_getElem? (i := 12) rfl)) (hw _ (List.mem_of_getElem? (i := 6) rfl)) (by decide) (by decide)) q8a q8c (g := (mkF m 54 #[.val (.int p1), .val (.int (1 : Int32)), .val (.ref w_BREAK), .val (.ref w_NEXT), .val (.ref w_NEXT)] [(.ref w_NEXT)])) rfl (by rw [hml]; rfl) (Steps.refl _) (argsL := []) (rest := []) (lenOf own_pd2 rfl) rfl (by show 2 * 0 + _ ≤ _; exact Nat.le_of_eq rfl) (hb hby at_54) (fun _ _ => ⟨rfl, e7, (by decide : 0 + 0 ≤ _), (by decide : 0 + 0 ≤ _)⟩)
    dsimp only [Pt.U, Pt.locs, Pt.cells, Pt.slots] at X8 l8 y8 z8 st8 hQ8
    subst l8 y8 z8
    obtain ⟨hv8, Nc8, e8⟩ := hQ8
    have N8 := Fr.app N7 Nc8
    obtain rfl : v8 = some (.ref w_NEXT) := hv8.trans (by simp)
    refine own_by (f' := (mkF m 57 #[.val (.int p1), .val (.int (1 : Int32)), .val (.ref w_BREAK), .val (.ref w_NEXT), .val (.ref w_NEXT)] [(.ref w_NEXT)])) (fun t h => st8.trans h) ?_
    refine own_by (f' := (mkF m 59 #[.val (.int p1), .val (.int (1 : Int32)), .val (.ref w_BREAK), .val (.ref w_NEXT), .val (.ref w_NEXT)] [(.ref w_NEXT), (.ref w_NEXT)])) (fun t h => XS.aload X8.here hx rfl (hb hby at_57) rfl rfl h) ?_
    refine own_by (f' := (mkF m 62 #[.val (.int p1), .val (.int (1 : Int32)), .val (.ref w_BREAK), .val (.ref w_NEXT), .val (.ref w_NEXT)] [])) (fun t h => Jvm.RoadKit.acmp (g := (mkF m 59 #[.val (.int p1), .val (.int (1 : Int32)), .val (.ref w_BREAK), .val (.ref w_NEXT), .val (.ref w_NEXT)] [(.ref w_NEXT), (.ref w_NEXT)])) X8 hx rfl rfl rfl (pc0 := 59) (pc' := 62) (same := true) rfl (hb hby at_59) rfl (decide_eq_true rfl) (by decide) (by decide) h) ?_
    refine own_by (f' := (mkF m 63 #[.val (.int p1), .val (.int (1 : Int32)), .val (.ref w_BREAK), .val (.ref w_NEXT), .val (.ref w_NEXT)] [(.int (1 : Int32))])) (fun t h => XS.iconst X8.here hx rfl (hb hby at_62) h) ?_
    refine own_by (f' := (mkF m 67 #[.val (.int p1), .val (.int (1 : Int32)), .val (.ref w_BREAK), .val (.ref w_NEXT), .val (.ref w_NEXT)] [(.int (1 : Int32))])) (fun t h => XS.goto X8.here hx rfl (pc0 := 63) (pc' := 67) rfl (hb hby at_63) (by decide) (by decide) h) ?_
    obtain ⟨fs, hr, hrun, hended, hW, hsame⟩ := X8.leave (v := some (.int (1 : Int32))) (fun h => by rw [Bd.returns] at h; cases h)
    refine own_mk ⟨_, _, retN X8 hx (t := .boolean) Bd.returns (by simp) (hb hby at_67) hr, hrun, hended, _, _, rfl, ?_, ⟨_, rfl⟩, hW, hsame.mono (by decide) (by decide)⟩
    show Q0 n0 _ T8.heap _
    rw [e8]
    exact ⟨rfl, N8⟩
  · refine own_by (f' := (mkF m 8 #[.val (.int p1), .val (.int (2 : Int32)), .unset, .unset, .unset] [(.int (2 : Int32))])) (fun t h => XS.iloadN X0.here hx rfl (hb hby at_7) rfl h) ?_
    obtain ⟨v9, _, ⟨T9, L9, k9, n9⟩, -, X9, ⟨Lc9, hQ9, l9, y9, z9⟩, st9⟩ := Jvm.LawKit.callS X0 hx (y := (⟨"com/example/lull/lull/tree/FlowOutOfLoopPinLaw", "pick", "(I)Lcom/example/lull/lull/tree/Flow;"⟩ : MethodName)) hown (mvT hZ (hw _ (List.mem_of_getElem? (i := 1) rfl))) (mvT hZ (hw _ (List.mem_of_getElem? (i := 2) rfl))) (mvT hZ (hw _ (List.mem_of_getElem? (i := 3) rfl))) (mvT hZ (hw _ (List.mem_of_getElem? (i := 4) rfl))) (by decide) (backOf (W := 0) (rm1 l Z a0 hw [] (2 : Int32) w_NEXT w_BREAK w_CONTINUE w_RETURN w_PAUSE h0 n0 Z0 S_NEXT S_BREAK S_CONTINUE S_RETURN S_PAUSE) hZ (hw _ (List.mem_of_getElem? (i := 4) rfl)) (hw _ (List.mem_of_getElem? (i := 3) rfl)) (by decide) (by decide)) (g := (mkF m 8 #[.val (.int p1), .val (.int (2 : Int32)), .unset, .unset, .unset] [(.int (2 : Int32))])) rfl (by rw [hml]; rfl) (argsL := [(.int (2 : Int32))]) (rest := []) (lenOf own_pd1 rfl) rfl (by show 2 * 0 + _ ≤ _; exact Nat.le_of_eq rfl) (hb hby at_8) (fun _ _ => ⟨rfl, e0, (by decide : 0 + 0 ≤ _), (by decide : 0 + 0 ≤ _)⟩)
    dsimp only [Pt.U, Pt.locs, Pt.cells, Pt.slots] at X9 l9 y9 z9 st9 hQ9
    subst l9 y9 z9
    obtain ⟨hv9, Nc9, e9⟩ := hQ9
    have N9 := Fr.app N0 Nc9
    obtain rfl : v9 = some (.ref w_CONTINUE) := hv9.trans (by simp)
    refine own_by (f' := (mkF m 11 #[.val (.int p1), .val (.int (2 : Int32)), .unset, .unset, .unset] [(.ref w_CONTINUE)])) st9 ?_
    refine own_by (f' := (mkF m 12 #[.val (.int p1), .val (.int (2 : Int32)), .val (.ref w_CONTINUE), .unset, .unset] [])) (fun t h => XS.astoreN X9.here hx rfl (hb hby at_11) rfl rfl (l' := #[.val (.int p1), .val (.int (2 : Int32)), .val (.ref w_CONTINUE), .unset, .unset]) rfl h) ?_
    refine own_by (f' := (mkF m 13 #[.val (.int p1), .val (.int (2 : Int32)), .val (.ref w_CONTINUE), .unset, .unset] [(.int (2 : Int32))])) (fun t h => XS.iloadN X9.here hx rfl (hb hby at_12) rfl h) ?_
    refine own_by (f' := (mkF m 14 #[.val (.int p1), .val (.int (2 : Int32)), .val (.ref w_CONTINUE), .unset, .unset] [(.int (3 : Int32)), (.int (2 : Int32))])) (fun t h => XS.iconst X9.here hx rfl (hb hby at_13) h) ?_
    refine own_by (f' := (mkF m 24 #[.val (.int p1), .val (.int (2 : Int32)), .val (.ref w_CONTINUE), .unset, .unset] [])) (fun t h => XS.icmpYes X9.here hx rfl (pc0 := 14) (pc' := 24) rfl (hb hby at_14) rfl (by decide) (by decide) (by decide) h) ?_
    refine own_by (f' := (mkF m 25 #[.val (.int p1), .val (.int (2 : Int32)), .val (.ref w_CONTINUE), .unset, .unset] [(.int (2 : Int32))])) (fun t h => XS.iloadN X9.here hx rfl (hb hby at_24) rfl h) ?_
    refine own_by (f' := (mkF m 26 #[.val (.int p1), .val (.int (2 : Int32)), .val (.ref w_CONTINUE), .unset, .unset] [(.int (4 : Int32)), (.int (2 : Int32))])) (fun t h => XS.iconst X9.here hx rfl (hb hby at_25) h) ?_
    refine own_by (f' := (mkF m 36 #[.val (.int p1), .val (.int (2 : Int32)), .val (.ref w_CONTINUE), .unset, .unset] [])) (fun t h => XS.icmpYes X9.here hx rfl (pc0 := 26) (pc' := 36) rfl (hb hby at_26) rfl (by decide) (by decide) (by decide) h) ?_
    obtain ⟨T10, X10, e10, st10⟩ := getS2 X9 hx hZ hown (host := "") (Or.inl (hw _ (List.mem_of_getElem? (i := 5) rfl))) Via.refl e9 S_NEXT (g := (mkF m 36 #[.val (.int p1), .val (.int (2 : Int32)), .val (.ref w_CONTINUE), .unset, .unset] [])) rfl (hb hby at_36)
    refine own_by (f' := (mkF m 39 #[.val (.int p1), .val (.int (2 : Int32)), .val (.ref w_CONTINUE), .unset, .unset] [(.ref w_NEXT)])) st10 ?_
    refine own_by (f' := (mkF m 40 #[.val (.int p1), .val (.int (2 : Int32)), .val (.ref w_CONTINUE), .val (.ref w_NEXT), .unset] [])) (fun t h => XS.astoreN X10.here hx rfl (hb hby at_39) rfl rfl (l' := #[.val (.int p1), .val (.int (2 : Int32)), .val (.ref w_CONTINUE), .val (.ref w_NEXT), .unset]) rfl h) ?_
    refine own_by (f' := (mkF m 41 #[.val (.int p1), .val (.int (2 : Int32)), .val (.ref w_CONTINUE), .val (.ref w_NEXT), .unset] [(.ref w_CONTINUE)])) (fun t h => XS.aloadN X10.here hx rfl (hb hby at_40) rfl rfl h) ?_
    obtain ⟨cq11, kq11, q11a, q11b, q11c⟩ := isOf hZ e10 E_CONTINUE
    obtain ⟨v11, _, ⟨T11, L11, k11, n11⟩, -, X11, ⟨Lc11, hQ11, l11, y11, z11⟩, st11⟩ := X10.virtualBack hx (y := (⟨"com/example/lull/lull/tree/Flow", "outOfLoop", "()Lcom/example/lull/lull/tree/Flow;"⟩ : MethodName)) (z := (⟨"com/example/lull/lull/tree/Flow", "outOfLoop", "()Lcom/example/lull/lull/tree/Flow;"⟩ : MethodName)) hown (mvT hZ (hw _ (List.mem_of_getElem? (i := 8) rfl))) (mvT hZ (hw _ (List.mem_of_getElem? (i := 9) rfl))) (notFace_of_selects (args := #[]) (mvT hZ (hw _ (List.mem_of_getElem? (i := 11) rfl)))) (mvT hZ (hw _ (List.mem_of_getElem? (i := 11) rfl))) (mvT hZ (hw _ (List.mem_of_getElem? (i := 10) rfl))) (by decide) (backOf (W := 0) (rm2 l Z a0 hw [] w_CONTINUE w_NEXT w_BREAK w_CONTINUE h0 n0 Z0 S_NEXT S_BREAK S_CONTINUE) hZ (hw _ (List.mem_of_getElem? (i := 12) rfl)) (hw _ (List.mem_of_getElem? (i := 6) rfl)) (by decide) (by decide)) q11a q11c (g := (mkF m 41 #[.val (.int p1), .val (.int (2 : Int32)), .val (.ref w_CONTINUE), .val (.ref w_NEXT), .unset] [(.ref w_CONTINUE)])) rfl (by rw [hml]; rfl) (Steps.refl _) (argsL := []) (rest := []) (lenOf own_pd2 rfl) rfl (by show 2 * 0 + _ ≤ _; exact Nat.le_of_eq rfl) (hb hby at_41) (fun _ _ => ⟨rfl, e10, (by decide : 0 + 0 ≤ _), (by decide : 0 + 0 ≤ _)⟩)
    dsimp only [Pt.U, Pt.locs, Pt.cells, Pt.slots] at X11 l11 y11 z11 st11 hQ11
    subst l11 y11 z11
    obtain ⟨hv11, Nc11, e11⟩ := hQ11
    have N11 := Fr.app N9 Nc11
    obtain rfl : v11 = some (.ref w_NEXT) := hv11.trans (by simp)
    refine own_by (f' := (mkF m 44 #[.val (.int p1), .val (.int (2 : Int32)), .val (.ref w_CONTINUE), .val (.ref w_NEXT), .unset] [(.ref w_NEXT)])) (fun t h => st11.trans h) ?_
    refine own_by (f' := (mkF m 46 #[.val (.int p1), .val (.int (2 : Int32)), .val (.ref w_CONTINUE), .val (.ref w_NEXT), .val (.ref w_NEXT)] [])) (fun t h => XS.astore X11.here hx rfl (hb hby at_44) rfl rfl (l' := #[.val (.int p1), .val (.int (2 : Int32)), .val (.ref w_CONTINUE), .val (.ref w_NEXT), .val (.ref w_NEXT)]) rfl h) ?_
    refine own_by (f' := (mkF m 48 #[.val (.int p1), .val (.int (2 : Int32)), .val (.ref w_CONTINUE), .val (.ref w_NEXT), .val (.ref w_NEXT)] [(.ref w_NEXT)])) (fun t h => XS.aload X11.here hx rfl (hb hby at_46) rfl rfl h) ?_
    refine own_by (f' := (mkF m 49 #[.val (.int p1), .val (.int (2 : Int32)), .val (.ref w_CONTINUE), .val (.ref w_NEXT), .val (.ref w_NEXT)] [(.ref w_NEXT), (.ref w_NEXT)])) (fun t h => XS.aloadN X11.here hx rfl (hb hby at_48) rfl rfl h) ?_
    refine own_by (f' := (mkF m 52 #[.val (.int p1), .val (.int (2 : Int32)), .val (.ref w_CONTINUE), .val (.ref w_NEXT), .val (.ref w_NEXT)] [])) (fun t h => Jvm.RoadKit.acmp (g := (mkF m 49 #[.val (.int p1), .val (.int (2 : Int32)), .val (.ref w_CONTINUE), .val (.ref w_NEXT), .val (.ref w_NEXT)] [(.ref w_NEXT), (.ref w_NEXT)])) X11 hx rfl rfl rfl (pc0 := 49) (pc' := 52) (same := true) rfl (hb hby at_49) rfl (decide_eq_true rfl) (by decide) (by decide) h) ?_
    refine own_by (f' := (mkF m 54 #[.val (.int p1), .val (.int (2 : Int32)), .val (.ref w_CONTINUE), .val (.ref w_NEXT), .val (.ref w_NEXT)] [(.ref w_NEXT)])) (fun t h => XS.aload X11.here hx rfl (hb hby at_52) rfl rfl h) ?_
    obtain ⟨cq12, kq12, q12a, q12b, q12c⟩ := isOf hZ e11 E_NEXT
    obtain ⟨v12, _, ⟨T12, L12, k12, n12⟩, -, X12, ⟨Lc12, hQ12, l12, y12, z12⟩, st12⟩ := X11.virtualBack hx (y := (⟨"com/example/lull/lull/tree/Flow", "outOfLoop", "()Lcom/example/lull/lull/tree/Flow;"⟩ : MethodName)) (z := (⟨"com/example/lull/lull/tree/Flow", "outOfLoop", "()Lcom/example/lull/lull/tree/Flow;"⟩ : MethodName)) hown (mvT hZ (hw _ (List.mem_of_getElem? (i := 8) rfl))) (mvT hZ (hw _ (List.mem_of_getElem? (i := 9) rfl))) (notFace_of_selects (args := #[]) (mvT hZ (hw _ (List.mem_of_getElem? (i := 11) rfl)))) (mvT hZ (hw _ (List.mem_of_getElem? (i := 11) rfl))) (mvT hZ (hw _ (List.mem_of_getElem? (i := 10) rfl))) (by decide) (backOf (W := 0) (rm2 l Z a0 hw [] w_NEXT w_NEXT w_BREAK w_CONTINUE h0 n0 Z0 S_NEXT S_BREAK S_CONTINUE) hZ (hw _ (List.mem_of_getElem? (i := 12) rfl)) (hw _ (List.mem_of_getElem? (i := 6) rfl)) (by decide) (by decide)) q12a q12c (g := (mkF m 54 #[.val (.int p1), .val (.int (2 : Int32)), .val (.ref w_CONTINUE), .val (.ref w_NEXT), .val (.ref w_NEXT)] [(.ref w_NEXT)])) rfl (by rw [hml]; rfl) (Steps.refl _) (argsL := []) (rest := []) (lenOf own_pd2 rfl) rfl (by show 2 * 0 + _ ≤ _; exact Nat.le_of_eq rfl) (hb hby at_54) (fun _ _ => ⟨rfl, e11, (by decide : 0 + 0 ≤ _), (by decide : 0 + 0 ≤ _)⟩)
    dsimp only [Pt.U, Pt.locs, Pt.cells, Pt.slots] at X12 l12 y12 z12 st12 hQ12
    subst l12 y12 z12
    obtain ⟨hv12, Nc12, e12⟩ := hQ12
    have N12 := Fr.app N11 Nc12
    obtain rfl : v12 = some (.ref w_NEXT) := hv12.trans (by simp)
    refine own_by (f' := (mkF m 57 #[.val (.int p1), .val (.int (2 : Int32)), .val (.ref w_CONTINUE), .val (.ref w_NEXT), .val (.ref w_NEXT)] [(.ref w_NEXT)])) (fun t h => st12.trans h) ?_
    refine own_by (f' := (mkF m 59 #[.val (.int p1), .val (.int (2 : Int32)), .val (.ref w_CONTINUE), .val (.ref w_NEXT), .val (.ref w_NEXT)] [(.ref w_NEXT), (.ref w_NEXT)])) (fun t h => XS.aload X12.here hx rfl (hb hby at_57) rfl rfl h) ?_
    refine own_by (f' := (mkF m 62 #[.val (.int p1), .val (.int (2 : Int32)), .val (.ref w_CONTINUE), .val (.ref w_NEXT), .val (.ref w_NEXT)] [])) (fun t h => Jvm.RoadKit.acmp (g := (mkF m 59 #[.val (.int p1), .val (.int (2 : Int32)), .val (.ref w_CONTINUE), .val (.ref w_NEXT), .val (.ref w_NEXT)] [(.ref w_NEXT), (.ref w_NEXT)])) X12 hx rfl rfl rfl (pc0 := 59) (pc' := 62) (same := true) rfl (hb hby at_59) rfl (decide_eq_true rfl) (by decide) (by decide) h) ?_
    refine own_by (f' := (mkF m 63 #[.val (.int p1), .val (.int (2 : Int32)), .val (.ref w_CONTINUE), .val (.ref w_NEXT), .val (.ref w_NEXT)] [(.int (1 : Int32))])) (fun t h => XS.iconst X12.here hx rfl (hb hby at_62) h) ?_
    refine own_by (f' := (mkF m 67 #[.val (.int p1), .val (.int (2 : Int32)), .val (.ref w_CONTINUE), .val (.ref w_NEXT), .val (.ref w_NEXT)] [(.int (1 : Int32))])) (fun t h => XS.goto X12.here hx rfl (pc0 := 63) (pc' := 67) rfl (hb hby at_63) (by decide) (by decide) h) ?_
    obtain ⟨fs, hr, hrun, hended, hW, hsame⟩ := X12.leave (v := some (.int (1 : Int32))) (fun h => by rw [Bd.returns] at h; cases h)
    refine own_mk ⟨_, _, retN X12 hx (t := .boolean) Bd.returns (by simp) (hb hby at_67) hr, hrun, hended, _, _, rfl, ?_, ⟨_, rfl⟩, hW, hsame.mono (by decide) (by decide)⟩
    show Q0 n0 _ T12.heap _
    rw [e12]
    exact ⟨rfl, N12⟩
  · refine own_by (f' := (mkF m 8 #[.val (.int p1), .val (.int (3 : Int32)), .unset, .unset, .unset] [(.int (3 : Int32))])) (fun t h => XS.iloadN X0.here hx rfl (hb hby at_7) rfl h) ?_
    obtain ⟨v13, _, ⟨T13, L13, k13, n13⟩, -, X13, ⟨Lc13, hQ13, l13, y13, z13⟩, st13⟩ := Jvm.LawKit.callS X0 hx (y := (⟨"com/example/lull/lull/tree/FlowOutOfLoopPinLaw", "pick", "(I)Lcom/example/lull/lull/tree/Flow;"⟩ : MethodName)) hown (mvT hZ (hw _ (List.mem_of_getElem? (i := 1) rfl))) (mvT hZ (hw _ (List.mem_of_getElem? (i := 2) rfl))) (mvT hZ (hw _ (List.mem_of_getElem? (i := 3) rfl))) (mvT hZ (hw _ (List.mem_of_getElem? (i := 4) rfl))) (by decide) (backOf (W := 0) (rm1 l Z a0 hw [] (3 : Int32) w_NEXT w_BREAK w_CONTINUE w_RETURN w_PAUSE h0 n0 Z0 S_NEXT S_BREAK S_CONTINUE S_RETURN S_PAUSE) hZ (hw _ (List.mem_of_getElem? (i := 4) rfl)) (hw _ (List.mem_of_getElem? (i := 3) rfl)) (by decide) (by decide)) (g := (mkF m 8 #[.val (.int p1), .val (.int (3 : Int32)), .unset, .unset, .unset] [(.int (3 : Int32))])) rfl (by rw [hml]; rfl) (argsL := [(.int (3 : Int32))]) (rest := []) (lenOf own_pd1 rfl) rfl (by show 2 * 0 + _ ≤ _; exact Nat.le_of_eq rfl) (hb hby at_8) (fun _ _ => ⟨rfl, e0, (by decide : 0 + 0 ≤ _), (by decide : 0 + 0 ≤ _)⟩)
    dsimp only [Pt.U, Pt.locs, Pt.cells, Pt.slots] at X13 l13 y13 z13 st13 hQ13
    subst l13 y13 z13
    obtain ⟨hv13, Nc13, e13⟩ := hQ13
    have N13 := Fr.app N0 Nc13
    obtain rfl : v13 = some (.ref w_RETURN) := hv13.trans (by simp)
    refine own_by (f' := (mkF m 11 #[.val (.int p1), .val (.int (3 : Int32)), .unset, .unset, .unset] [(.ref w_RETURN)])) st13 ?_
    refine own_by (f' := (mkF m 12 #[.val (.int p1), .val (.int (3 : Int32)), .val (.ref w_RETURN), .unset, .unset] [])) (fun t h => XS.astoreN X13.here hx rfl (hb hby at_11) rfl rfl (l' := #[.val (.int p1), .val (.int (3 : Int32)), .val (.ref w_RETURN), .unset, .unset]) rfl h) ?_
    refine own_by (f' := (mkF m 13 #[.val (.int p1), .val (.int (3 : Int32)), .val (.ref w_RETURN), .unset, .unset] [(.int (3 : Int32))])) (fun t h => XS.iloadN X13.here hx rfl (hb hby at_12) rfl h) ?_
    refine own_by (f' := (mkF m 14 #[.val (.int p1), .val (.int (3 : Int32)), .val (.ref w_RETURN), .unset, .unset] [(.int (3 : Int32)), (.int (3 : Int32))])) (fun t h => XS.iconst X13.here hx rfl (hb hby at_13) h) ?_
    refine own_by (f' := (mkF m 17 #[.val (.int p1), .val (.int (3 : Int32)), .val (.ref w_RETURN), .unset, .unset] [])) (fun t h => XS.icmpNo X13.here hx rfl (hb hby at_14) rfl (by decide) h) ?_
    obtain ⟨T14, X14, e14, st14⟩ := getS2 X13 hx hZ hown (host := "") (Or.inl (hw _ (List.mem_of_getElem? (i := 17) rfl))) Via.refl e13 S_RETURN (g := (mkF m 17 #[.val (.int p1), .val (.int (3 : Int32)), .val (.ref w_RETURN), .unset, .unset] [])) rfl (hb hby at_17)
    refine own_by (f' := (mkF m 20 #[.val (.int p1), .val (.int (3 : Int32)), .val (.ref w_RETURN), .unset, .unset] [(.ref w_RETURN)])) st14 ?_
    refine own_by (f' := (mkF m 21 #[.val (.int p1), .val (.int (3 : Int32)), .val (.ref w_RETURN), .val (.ref w_RETURN), .unset] [])) (fun t h => XS.astoreN X14.here hx rfl (hb hby at_20) rfl rfl (l' := #[.val (.int p1), .val (.int (3 : Int32)), .val (.ref w_RETURN), .val (.ref w_RETURN), .unset]) rfl h) ?_
    refine own_by (f' := (mkF m 40 #[.val (.int p1), .val (.int (3 : Int32)), .val (.ref w_RETURN), .val (.ref w_RETURN), .unset] [])) (fun t h => XS.goto X14.here hx rfl (pc0 := 21) (pc' := 40) rfl (hb hby at_21) (by decide) (by decide) h) ?_
    refine own_by (f' := (mkF m 41 #[.val (.int p1), .val (.int (3 : Int32)), .val (.ref w_RETURN), .val (.ref w_RETURN), .unset] [(.ref w_RETURN)])) (fun t h => XS.aloadN X14.here hx rfl (hb hby at_40) rfl rfl h) ?_
    obtain ⟨cq15, kq15, q15a, q15b, q15c⟩ := isOf hZ e14 E_RETURN
    obtain ⟨v15, _, ⟨T15, L15, k15, n15⟩, -, X15, ⟨Lc15, hQ15, l15, y15, z15⟩, st15⟩ := X14.virtualBack hx (y := (⟨"com/example/lull/lull/tree/Flow", "outOfLoop", "()Lcom/example/lull/lull/tree/Flow;"⟩ : MethodName)) (z := (⟨"com/example/lull/lull/tree/Flow", "outOfLoop", "()Lcom/example/lull/lull/tree/Flow;"⟩ : MethodName)) hown (mvT hZ (hw _ (List.mem_of_getElem? (i := 8) rfl))) (mvT hZ (hw _ (List.mem_of_getElem? (i := 9) rfl))) (notFace_of_selects (args := #[]) (mvT hZ (hw _ (List.mem_of_getElem? (i := 11) rfl)))) (mvT hZ (hw _ (List.mem_of_getElem? (i := 11) rfl))) (mvT hZ (hw _ (List.mem_of_getElem? (i := 10) rfl))) (by decide) (backOf (W := 0) (rm2 l Z a0 hw [] w_RETURN w_NEXT w_BREAK w_CONTINUE h0 n0 Z0 S_NEXT S_BREAK S_CONTINUE) hZ (hw _ (List.mem_of_getElem? (i := 12) rfl)) (hw _ (List.mem_of_getElem? (i := 6) rfl)) (by decide) (by decide)) q15a q15c (g := (mkF m 41 #[.val (.int p1), .val (.int (3 : Int32)), .val (.ref w_RETURN), .val (.ref w_RETURN), .unset] [(.ref w_RETURN)])) rfl (by rw [hml]; rfl) (Steps.refl _) (argsL := []) (rest := []) (lenOf own_pd2 rfl) rfl (by show 2 * 0 + _ ≤ _; exact Nat.le_of_eq rfl) (hb hby at_41) (fun _ _ => ⟨rfl, e14, (by decide : 0 + 0 ≤ _), (by decide : 0 + 0 ≤ _)⟩)
    dsimp only [Pt.U, Pt.locs, Pt.cells, Pt.slots] at X15 l15 y15 z15 st15 hQ15
    subst l15 y15 z15
    obtain ⟨hv15, Nc15, e15⟩ := hQ15
    have N15 := Fr.app N13 Nc15
    obtain rfl : v15 = some (.ref w_RETURN) := hv15.trans (by simp [ne_RETURN_BREAK, ne_RETURN_CONTINUE])
    refine own_by (f' := (mkF m 44 #[.val (.int p1), .val (.int (3 : Int32)), .val (.ref w_RETURN), .val (.ref w_RETURN), .unset] [(.ref w_RETURN)])) (fun t h => st15.trans h) ?_
    refine own_by (f' := (mkF m 46 #[.val (.int p1), .val (.int (3 : Int32)), .val (.ref w_RETURN), .val (.ref w_RETURN), .val (.ref w_RETURN)] [])) (fun t h => XS.astore X15.here hx rfl (hb hby at_44) rfl rfl (l' := #[.val (.int p1), .val (.int (3 : Int32)), .val (.ref w_RETURN), .val (.ref w_RETURN), .val (.ref w_RETURN)]) rfl h) ?_
    refine own_by (f' := (mkF m 48 #[.val (.int p1), .val (.int (3 : Int32)), .val (.ref w_RETURN), .val (.ref w_RETURN), .val (.ref w_RETURN)] [(.ref w_RETURN)])) (fun t h => XS.aload X15.here hx rfl (hb hby at_46) rfl rfl h) ?_
    refine own_by (f' := (mkF m 49 #[.val (.int p1), .val (.int (3 : Int32)), .val (.ref w_RETURN), .val (.ref w_RETURN), .val (.ref w_RETURN)] [(.ref w_RETURN), (.ref w_RETURN)])) (fun t h => XS.aloadN X15.here hx rfl (hb hby at_48) rfl rfl h) ?_
    refine own_by (f' := (mkF m 52 #[.val (.int p1), .val (.int (3 : Int32)), .val (.ref w_RETURN), .val (.ref w_RETURN), .val (.ref w_RETURN)] [])) (fun t h => Jvm.RoadKit.acmp (g := (mkF m 49 #[.val (.int p1), .val (.int (3 : Int32)), .val (.ref w_RETURN), .val (.ref w_RETURN), .val (.ref w_RETURN)] [(.ref w_RETURN), (.ref w_RETURN)])) X15 hx rfl rfl rfl (pc0 := 49) (pc' := 52) (same := true) rfl (hb hby at_49) rfl (decide_eq_true rfl) (by decide) (by decide) h) ?_
    refine own_by (f' := (mkF m 54 #[.val (.int p1), .val (.int (3 : Int32)), .val (.ref w_RETURN), .val (.ref w_RETURN), .val (.ref w_RETURN)] [(.ref w_RETURN)])) (fun t h => XS.aload X15.here hx rfl (hb hby at_52) rfl rfl h) ?_
    obtain ⟨cq16, kq16, q16a, q16b, q16c⟩ := isOf hZ e15 E_RETURN
    obtain ⟨v16, _, ⟨T16, L16, k16, n16⟩, -, X16, ⟨Lc16, hQ16, l16, y16, z16⟩, st16⟩ := X15.virtualBack hx (y := (⟨"com/example/lull/lull/tree/Flow", "outOfLoop", "()Lcom/example/lull/lull/tree/Flow;"⟩ : MethodName)) (z := (⟨"com/example/lull/lull/tree/Flow", "outOfLoop", "()Lcom/example/lull/lull/tree/Flow;"⟩ : MethodName)) hown (mvT hZ (hw _ (List.mem_of_getElem? (i := 8) rfl))) (mvT hZ (hw _ (List.mem_of_getElem? (i := 9) rfl))) (notFace_of_selects (args := #[]) (mvT hZ (hw _ (List.mem_of_getElem? (i := 11) rfl)))) (mvT hZ (hw _ (List.mem_of_getElem? (i := 11) rfl))) (mvT hZ (hw _ (List.mem_of_getElem? (i := 10) rfl))) (by decide) (backOf (W := 0) (rm2 l Z a0 hw [] w_RETURN w_NEXT w_BREAK w_CONTINUE h0 n0 Z0 S_NEXT S_BREAK S_CONTINUE) hZ (hw _ (List.mem_of_getElem? (i := 12) rfl)) (hw _ (List.mem_of_getElem? (i := 6) rfl)) (by decide) (by decide)) q16a q16c (g := (mkF m 54 #[.val (.int p1), .val (.int (3 : Int32)), .val (.ref w_RETURN), .val (.ref w_RETURN), .val (.ref w_RETURN)] [(.ref w_RETURN)])) rfl (by rw [hml]; rfl) (Steps.refl _) (argsL := []) (rest := []) (lenOf own_pd2 rfl) rfl (by show 2 * 0 + _ ≤ _; exact Nat.le_of_eq rfl) (hb hby at_54) (fun _ _ => ⟨rfl, e15, (by decide : 0 + 0 ≤ _), (by decide : 0 + 0 ≤ _)⟩)
    dsimp only [Pt.U, Pt.locs, Pt.cells, Pt.slots] at X16 l16 y16 z16 st16 hQ16
    subst l16 y16 z16
    obtain ⟨hv16, Nc16, e16⟩ := hQ16
    have N16 := Fr.app N15 Nc16
    obtain rfl : v16 = some (.ref w_RETURN) := hv16.trans (by simp [ne_RETURN_BREAK, ne_RETURN_CONTINUE])
    refine own_by (f' := (mkF m 57 #[.val (.int p1), .val (.int (3 : Int32)), .val (.ref w_RETURN), .val (.ref w_RETURN), .val (.ref w_RETURN)] [(.ref w_RETURN)])) (fun t h => st16.trans h) ?_
    refine own_by (f' := (mkF m 59 #[.val (.int p1), .val (.int (3 : Int32)), .val (.ref w_RETURN), .val (.ref w_RETURN), .val (.ref w_RETURN)] [(.ref w_RETURN), (.ref w_RETURN)])) (fun t h => XS.aload X16.here hx rfl (hb hby at_57) rfl rfl h) ?_
    refine own_by (f' := (mkF m 62 #[.val (.int p1), .val (.int (3 : Int32)), .val (.ref w_RETURN), .val (.ref w_RETURN), .val (.ref w_RETURN)] [])) (fun t h => Jvm.RoadKit.acmp (g := (mkF m 59 #[.val (.int p1), .val (.int (3 : Int32)), .val (.ref w_RETURN), .val (.ref w_RETURN), .val (.ref w_RETURN)] [(.ref w_RETURN), (.ref w_RETURN)])) X16 hx rfl rfl rfl (pc0 := 59) (pc' := 62) (same := true) rfl (hb hby at_59) rfl (decide_eq_true rfl) (by decide) (by decide) h) ?_
    refine own_by (f' := (mkF m 63 #[.val (.int p1), .val (.int (3 : Int32)), .val (.ref w_RETURN), .val (.ref w_RETURN), .val (.ref w_RETURN)] [(.int (1 : Int32))])) (fun t h => XS.iconst X16.here hx rfl (hb hby at_62) h) ?_
    refine own_by (f' := (mkF m 67 #[.val (.int p1), .val (.int (3 : Int32)), .val (.ref w_RETURN), .val (.ref w_RETURN), .val (.ref w_RETURN)] [(.int (1 : Int32))])) (fun t h => XS.goto X16.here hx rfl (pc0 := 63) (pc' := 67) rfl (hb hby at_63) (by decide) (by decide) h) ?_
    obtain ⟨fs, hr, hrun, hended, hW, hsame⟩ := X16.leave (v := some (.int (1 : Int32))) (fun h => by rw [Bd.returns] at h; cases h)
    refine own_mk ⟨_, _, retN X16 hx (t := .boolean) Bd.returns (by simp) (hb hby at_67) hr, hrun, hended, _, _, rfl, ?_, ⟨_, rfl⟩, hW, hsame.mono (by decide) (by decide)⟩
    show Q0 n0 _ T16.heap _
    rw [e16]
    exact ⟨rfl, N16⟩
  · refine own_by (f' := (mkF m 8 #[.val (.int p1), .val (.int (4 : Int32)), .unset, .unset, .unset] [(.int (4 : Int32))])) (fun t h => XS.iloadN X0.here hx rfl (hb hby at_7) rfl h) ?_
    obtain ⟨v17, _, ⟨T17, L17, k17, n17⟩, -, X17, ⟨Lc17, hQ17, l17, y17, z17⟩, st17⟩ := Jvm.LawKit.callS X0 hx (y := (⟨"com/example/lull/lull/tree/FlowOutOfLoopPinLaw", "pick", "(I)Lcom/example/lull/lull/tree/Flow;"⟩ : MethodName)) hown (mvT hZ (hw _ (List.mem_of_getElem? (i := 1) rfl))) (mvT hZ (hw _ (List.mem_of_getElem? (i := 2) rfl))) (mvT hZ (hw _ (List.mem_of_getElem? (i := 3) rfl))) (mvT hZ (hw _ (List.mem_of_getElem? (i := 4) rfl))) (by decide) (backOf (W := 0) (rm1 l Z a0 hw [] (4 : Int32) w_NEXT w_BREAK w_CONTINUE w_RETURN w_PAUSE h0 n0 Z0 S_NEXT S_BREAK S_CONTINUE S_RETURN S_PAUSE) hZ (hw _ (List.mem_of_getElem? (i := 4) rfl)) (hw _ (List.mem_of_getElem? (i := 3) rfl)) (by decide) (by decide)) (g := (mkF m 8 #[.val (.int p1), .val (.int (4 : Int32)), .unset, .unset, .unset] [(.int (4 : Int32))])) rfl (by rw [hml]; rfl) (argsL := [(.int (4 : Int32))]) (rest := []) (lenOf own_pd1 rfl) rfl (by show 2 * 0 + _ ≤ _; exact Nat.le_of_eq rfl) (hb hby at_8) (fun _ _ => ⟨rfl, e0, (by decide : 0 + 0 ≤ _), (by decide : 0 + 0 ≤ _)⟩)
    dsimp only [Pt.U, Pt.locs, Pt.cells, Pt.slots] at X17 l17 y17 z17 st17 hQ17
    subst l17 y17 z17
    obtain ⟨hv17, Nc17, e17⟩ := hQ17
    have N17 := Fr.app N0 Nc17
    obtain rfl : v17 = some (.ref w_PAUSE) := hv17.trans (by simp)
    refine own_by (f' := (mkF m 11 #[.val (.int p1), .val (.int (4 : Int32)), .unset, .unset, .unset] [(.ref w_PAUSE)])) st17 ?_
    refine own_by (f' := (mkF m 12 #[.val (.int p1), .val (.int (4 : Int32)), .val (.ref w_PAUSE), .unset, .unset] [])) (fun t h => XS.astoreN X17.here hx rfl (hb hby at_11) rfl rfl (l' := #[.val (.int p1), .val (.int (4 : Int32)), .val (.ref w_PAUSE), .unset, .unset]) rfl h) ?_
    refine own_by (f' := (mkF m 13 #[.val (.int p1), .val (.int (4 : Int32)), .val (.ref w_PAUSE), .unset, .unset] [(.int (4 : Int32))])) (fun t h => XS.iloadN X17.here hx rfl (hb hby at_12) rfl h) ?_
    refine own_by (f' := (mkF m 14 #[.val (.int p1), .val (.int (4 : Int32)), .val (.ref w_PAUSE), .unset, .unset] [(.int (3 : Int32)), (.int (4 : Int32))])) (fun t h => XS.iconst X17.here hx rfl (hb hby at_13) h) ?_
    refine own_by (f' := (mkF m 24 #[.val (.int p1), .val (.int (4 : Int32)), .val (.ref w_PAUSE), .unset, .unset] [])) (fun t h => XS.icmpYes X17.here hx rfl (pc0 := 14) (pc' := 24) rfl (hb hby at_14) rfl (by decide) (by decide) (by decide) h) ?_
    refine own_by (f' := (mkF m 25 #[.val (.int p1), .val (.int (4 : Int32)), .val (.ref w_PAUSE), .unset, .unset] [(.int (4 : Int32))])) (fun t h => XS.iloadN X17.here hx rfl (hb hby at_24) rfl h) ?_
    refine own_by (f' := (mkF m 26 #[.val (.int p1), .val (.int (4 : Int32)), .val (.ref w_PAUSE), .unset, .unset] [(.int (4 : Int32)), (.int (4 : Int32))])) (fun t h => XS.iconst X17.here hx rfl (hb hby at_25) h) ?_
    refine own_by (f' := (mkF m 29 #[.val (.int p1), .val (.int (4 : Int32)), .val (.ref w_PAUSE), .unset, .unset] [])) (fun t h => XS.icmpNo X17.here hx rfl (hb hby at_26) rfl (by decide) h) ?_
    obtain ⟨T18, X18, e18, st18⟩ := getS2 X17 hx hZ hown (host := "") (Or.inl (hw _ (List.mem_of_getElem? (i := 21) rfl))) Via.refl e17 S_PAUSE (g := (mkF m 29 #[.val (.int p1), .val (.int (4 : Int32)), .val (.ref w_PAUSE), .unset, .unset] [])) rfl (hb hby at_29)
    refine own_by (f' := (mkF m 32 #[.val (.int p1), .val (.int (4 : Int32)), .val (.ref w_PAUSE), .unset, .unset] [(.ref w_PAUSE)])) st18 ?_
    refine own_by (f' := (mkF m 33 #[.val (.int p1), .val (.int (4 : Int32)), .val (.ref w_PAUSE), .val (.ref w_PAUSE), .unset] [])) (fun t h => XS.astoreN X18.here hx rfl (hb hby at_32) rfl rfl (l' := #[.val (.int p1), .val (.int (4 : Int32)), .val (.ref w_PAUSE), .val (.ref w_PAUSE), .unset]) rfl h) ?_
    refine own_by (f' := (mkF m 40 #[.val (.int p1), .val (.int (4 : Int32)), .val (.ref w_PAUSE), .val (.ref w_PAUSE), .unset] [])) (fun t h => XS.goto X18.here hx rfl (pc0 := 33) (pc' := 40) rfl (hb hby at_33) (by decide) (by decide) h) ?_
    refine own_by (f' := (mkF m 41 #[.val (.int p1), .val (.int (4 : Int32)), .val (.ref w_PAUSE), .val (.ref w_PAUSE), .unset] [(.ref w_PAUSE)])) (fun t h => XS.aloadN X18.here hx rfl (hb hby at_40) rfl rfl h) ?_
    obtain ⟨cq19, kq19, q19a, q19b, q19c⟩ := isOf hZ e18 E_PAUSE
    obtain ⟨v19, _, ⟨T19, L19, k19, n19⟩, -, X19, ⟨Lc19, hQ19, l19, y19, z19⟩, st19⟩ := X18.virtualBack hx (y := (⟨"com/example/lull/lull/tree/Flow", "outOfLoop", "()Lcom/example/lull/lull/tree/Flow;"⟩ : MethodName)) (z := (⟨"com/example/lull/lull/tree/Flow", "outOfLoop", "()Lcom/example/lull/lull/tree/Flow;"⟩ : MethodName)) hown (mvT hZ (hw _ (List.mem_of_getElem? (i := 8) rfl))) (mvT hZ (hw _ (List.mem_of_getElem? (i := 9) rfl))) (notFace_of_selects (args := #[]) (mvT hZ (hw _ (List.mem_of_getElem? (i := 11) rfl)))) (mvT hZ (hw _ (List.mem_of_getElem? (i := 11) rfl))) (mvT hZ (hw _ (List.mem_of_getElem? (i := 10) rfl))) (by decide) (backOf (W := 0) (rm2 l Z a0 hw [] w_PAUSE w_NEXT w_BREAK w_CONTINUE h0 n0 Z0 S_NEXT S_BREAK S_CONTINUE) hZ (hw _ (List.mem_of_getElem? (i := 12) rfl)) (hw _ (List.mem_of_getElem? (i := 6) rfl)) (by decide) (by decide)) q19a q19c (g := (mkF m 41 #[.val (.int p1), .val (.int (4 : Int32)), .val (.ref w_PAUSE), .val (.ref w_PAUSE), .unset] [(.ref w_PAUSE)])) rfl (by rw [hml]; rfl) (Steps.refl _) (argsL := []) (rest := []) (lenOf own_pd2 rfl) rfl (by show 2 * 0 + _ ≤ _; exact Nat.le_of_eq rfl) (hb hby at_41) (fun _ _ => ⟨rfl, e18, (by decide : 0 + 0 ≤ _), (by decide : 0 + 0 ≤ _)⟩)
    dsimp only [Pt.U, Pt.locs, Pt.cells, Pt.slots] at X19 l19 y19 z19 st19 hQ19
    subst l19 y19 z19
    obtain ⟨hv19, Nc19, e19⟩ := hQ19
    have N19 := Fr.app N17 Nc19
    obtain rfl : v19 = some (.ref w_PAUSE) := hv19.trans (by simp [ne_PAUSE_BREAK, ne_PAUSE_CONTINUE])
    refine own_by (f' := (mkF m 44 #[.val (.int p1), .val (.int (4 : Int32)), .val (.ref w_PAUSE), .val (.ref w_PAUSE), .unset] [(.ref w_PAUSE)])) (fun t h => st19.trans h) ?_
    refine own_by (f' := (mkF m 46 #[.val (.int p1), .val (.int (4 : Int32)), .val (.ref w_PAUSE), .val (.ref w_PAUSE), .val (.ref w_PAUSE)] [])) (fun t h => XS.astore X19.here hx rfl (hb hby at_44) rfl rfl (l' := #[.val (.int p1), .val (.int (4 : Int32)), .val (.ref w_PAUSE), .val (.ref w_PAUSE), .val (.ref w_PAUSE)]) rfl h) ?_
    refine own_by (f' := (mkF m 48 #[.val (.int p1), .val (.int (4 : Int32)), .val (.ref w_PAUSE), .val (.ref w_PAUSE), .val (.ref w_PAUSE)] [(.ref w_PAUSE)])) (fun t h => XS.aload X19.here hx rfl (hb hby at_46) rfl rfl h) ?_
    refine own_by (f' := (mkF m 49 #[.val (.int p1), .val (.int (4 : Int32)), .val (.ref w_PAUSE), .val (.ref w_PAUSE), .val (.ref w_PAUSE)] [(.ref w_PAUSE), (.ref w_PAUSE)])) (fun t h => XS.aloadN X19.here hx rfl (hb hby at_48) rfl rfl h) ?_
    refine own_by (f' := (mkF m 52 #[.val (.int p1), .val (.int (4 : Int32)), .val (.ref w_PAUSE), .val (.ref w_PAUSE), .val (.ref w_PAUSE)] [])) (fun t h => Jvm.RoadKit.acmp (g := (mkF m 49 #[.val (.int p1), .val (.int (4 : Int32)), .val (.ref w_PAUSE), .val (.ref w_PAUSE), .val (.ref w_PAUSE)] [(.ref w_PAUSE), (.ref w_PAUSE)])) X19 hx rfl rfl rfl (pc0 := 49) (pc' := 52) (same := true) rfl (hb hby at_49) rfl (decide_eq_true rfl) (by decide) (by decide) h) ?_
    refine own_by (f' := (mkF m 54 #[.val (.int p1), .val (.int (4 : Int32)), .val (.ref w_PAUSE), .val (.ref w_PAUSE), .val (.ref w_PAUSE)] [(.ref w_PAUSE)])) (fun t h => XS.aload X19.here hx rfl (hb hby at_52) rfl rfl h) ?_
    obtain ⟨cq20, kq20, q20a, q20b, q20c⟩ := isOf hZ e19 E_PAUSE
    obtain ⟨v20, _, ⟨T20, L20, k20, n20⟩, -, X20, ⟨Lc20, hQ20, l20, y20, z20⟩, st20⟩ := X19.virtualBack hx (y := (⟨"com/example/lull/lull/tree/Flow", "outOfLoop", "()Lcom/example/lull/lull/tree/Flow;"⟩ : MethodName)) (z := (⟨"com/example/lull/lull/tree/Flow", "outOfLoop", "()Lcom/example/lull/lull/tree/Flow;"⟩ : MethodName)) hown (mvT hZ (hw _ (List.mem_of_getElem? (i := 8) rfl))) (mvT hZ (hw _ (List.mem_of_getElem? (i := 9) rfl))) (notFace_of_selects (args := #[]) (mvT hZ (hw _ (List.mem_of_getElem? (i := 11) rfl)))) (mvT hZ (hw _ (List.mem_of_getElem? (i := 11) rfl))) (mvT hZ (hw _ (List.mem_of_getElem? (i := 10) rfl))) (by decide) (backOf (W := 0) (rm2 l Z a0 hw [] w_PAUSE w_NEXT w_BREAK w_CONTINUE h0 n0 Z0 S_NEXT S_BREAK S_CONTINUE) hZ (hw _ (List.mem_of_getElem? (i := 12) rfl)) (hw _ (List.mem_of_getElem? (i := 6) rfl)) (by decide) (by decide)) q20a q20c (g := (mkF m 54 #[.val (.int p1), .val (.int (4 : Int32)), .val (.ref w_PAUSE), .val (.ref w_PAUSE), .val (.ref w_PAUSE)] [(.ref w_PAUSE)])) rfl (by rw [hml]; rfl) (Steps.refl _) (argsL := []) (rest := []) (lenOf own_pd2 rfl) rfl (by show 2 * 0 + _ ≤ _; exact Nat.le_of_eq rfl) (hb hby at_54) (fun _ _ => ⟨rfl, e19, (by decide : 0 + 0 ≤ _), (by decide : 0 + 0 ≤ _)⟩)
    dsimp only [Pt.U, Pt.locs, Pt.cells, Pt.slots] at X20 l20 y20 z20 st20 hQ20
    subst l20 y20 z20
    obtain ⟨hv20, Nc20, e20⟩ := hQ20
    have N20 := Fr.app N19 Nc20
    obtain rfl : v20 = some (.ref w_PAUSE) := hv20.trans (by simp [ne_PAUSE_BREAK, ne_PAUSE_CONTINUE])
    refine own_by (f' := (mkF m 57 #[.val (.int p1), .val (.int (4 : Int32)), .val (.ref w_PAUSE), .val (.ref w_PAUSE), .val (.ref w_PAUSE)] [(.ref w_PAUSE)])) (fun t h => st20.trans h) ?_
    refine own_by (f' := (mkF m 59 #[.val (.int p1), .val (.int (4 : Int32)), .val (.ref w_PAUSE), .val (.ref w_PAUSE), .val (.ref w_PAUSE)] [(.ref w_PAUSE), (.ref w_PAUSE)])) (fun t h => XS.aload X20.here hx rfl (hb hby at_57) rfl rfl h) ?_
    refine own_by (f' := (mkF m 62 #[.val (.int p1), .val (.int (4 : Int32)), .val (.ref w_PAUSE), .val (.ref w_PAUSE), .val (.ref w_PAUSE)] [])) (fun t h => Jvm.RoadKit.acmp (g := (mkF m 59 #[.val (.int p1), .val (.int (4 : Int32)), .val (.ref w_PAUSE), .val (.ref w_PAUSE), .val (.ref w_PAUSE)] [(.ref w_PAUSE), (.ref w_PAUSE)])) X20 hx rfl rfl rfl (pc0 := 59) (pc' := 62) (same := true) rfl (hb hby at_59) rfl (decide_eq_true rfl) (by decide) (by decide) h) ?_
    refine own_by (f' := (mkF m 63 #[.val (.int p1), .val (.int (4 : Int32)), .val (.ref w_PAUSE), .val (.ref w_PAUSE), .val (.ref w_PAUSE)] [(.int (1 : Int32))])) (fun t h => XS.iconst X20.here hx rfl (hb hby at_62) h) ?_
    refine own_by (f' := (mkF m 67 #[.val (.int p1), .val (.int (4 : Int32)), .val (.ref w_PAUSE), .val (.ref w_PAUSE), .val (.ref w_PAUSE)] [(.int (1 : Int32))])) (fun t h => XS.goto X20.here hx rfl (pc0 := 63) (pc' := 67) rfl (hb hby at_63) (by decide) (by decide) h) ?_
    obtain ⟨fs, hr, hrun, hended, hW, hsame⟩ := X20.leave (v := some (.int (1 : Int32))) (fun h => by rw [Bd.returns] at h; cases h)
    refine own_mk ⟨_, _, retN X20 hx (t := .boolean) Bd.returns (by simp) (hb hby at_67) hr, hrun, hended, _, _, rfl, ?_, ⟨_, rfl⟩, hW, hsame.mono (by decide) (by decide)⟩
    show Q0 n0 _ T20.heap _
    rw [e20]
    exact ⟨rfl, N20⟩
set_option maxRecDepth 65536 in
set_option maxHeartbeats 40000000 in
theorem comes_1 {Post : Tables → Env → Array Value → State → Outcome → State → Prop} (hpost : ∀ tb e args s v u, (limb_1_1.after args s (.returned v) u = true ∧ limb_1_2.after args s (.returned v) u = true ∧ True) → FrameEnd s (.returned v) u (Jvm.fieldLocs frame_1_writes args s ++ Jvm.arrayLocs frame_1_arrays args s ++ Jvm.staticLocs frame_1_statics s) 0 0 → Post tb e args s (.returned v) u) :
    ArmFor flags0 classFile x code maxLocals ret World_1 tables_1 room_1 Calls_1 rest_1 Pre_1 Post := by
  intro l hfl _ _ p e ha hc hk s m args below hf hA hF happ hP
  obtain ⟨hcalls, hrest, hpre⟩ := hP
  obtain ⟨-, -, -, hnamed, -, -, -, hat⟩ := (Spec.applies_iff hf).mp happ
  obtain ⟨hg, hn⟩ := and_e (Cond.before_iff.mp (show (Jvm.Cond.and given_1 narrow_1).before args s = true from hpre))
  obtain ⟨hcount, hg⟩ := and_e hg
  have hk0 := hg
  obtain ⟨w0, rfl⟩ : ∃ w0 : Value, args = #[w0] := by
    have hs : args.size = 1 := by simpa [Cond.value, given_1] using hcount
    obtain ⟨L⟩ := args
    match L, hs with
    | [w0], _ => exact ⟨w0, rfl⟩
  have hw := fun d (hd : d ∈ tables_1) => atoms_spec (ws := Jvm.Cond.code x code maxLocals ret :: tables_1) hat d (List.mem_cons_of_mem _ hd)
  obtain ⟨i0, ei0⟩ := is_v hk0
  obtain rfl : w0 = (.int i0) := Option.some.inj ei0
  obtain ⟨hn0, hn⟩ := and_e hn
  obtain ⟨hn1, hn⟩ := and_e hn
  obtain ⟨hn2, hn⟩ := and_e hn
  obtain ⟨hn3, hn⟩ := and_e hn
  obtain ⟨hn4, hn⟩ := and_e hn
  obtain ⟨hn5, hn⟩ := and_e hn
  obtain ⟨hn6, hn⟩ := and_e hn
  obtain ⟨hn7, hn⟩ := and_e hn
  obtain ⟨hn8, hn⟩ := and_e hn
  have hn9 := hn
  obtain ⟨w_NEXT, ev_NEXT⟩ := exa_v hn0
  have E_NEXT := Exa.start ev_NEXT hn0
  have S_NEXT := Sta.start ev_NEXT (Or.inr ⟨(hw _ (List.mem_of_getElem? (i := 6) rfl)), (hw _ (List.mem_of_getElem? (i := 7) rfl))⟩)
  obtain ⟨w_BREAK, ev_BREAK⟩ := exa_v hn1
  have E_BREAK := Exa.start ev_BREAK hn1
  have S_BREAK := Sta.start ev_BREAK (Or.inr ⟨(hw _ (List.mem_of_getElem? (i := 6) rfl)), (hw _ (List.mem_of_getElem? (i := 14) rfl))⟩)
  obtain ⟨w_CONTINUE, ev_CONTINUE⟩ := exa_v hn4
  have E_CONTINUE := Exa.start ev_CONTINUE hn4
  have S_CONTINUE := Sta.start ev_CONTINUE (Or.inr ⟨(hw _ (List.mem_of_getElem? (i := 6) rfl)), (hw _ (List.mem_of_getElem? (i := 16) rfl))⟩)
  obtain ⟨w_RETURN, ev_RETURN⟩ := exa_v hn6
  have E_RETURN := Exa.start ev_RETURN hn6
  have S_RETURN := Sta.start ev_RETURN (Or.inr ⟨(hw _ (List.mem_of_getElem? (i := 6) rfl)), (hw _ (List.mem_of_getElem? (i := 18) rfl))⟩)
  obtain ⟨w_PAUSE, ev_PAUSE⟩ := exa_v hn8
  have E_PAUSE := Exa.start ev_PAUSE hn8
  have S_PAUSE := Sta.start ev_PAUSE (Or.inr ⟨(hw _ (List.mem_of_getElem? (i := 6) rfl)), (hw _ (List.mem_of_getElem? (i := 22) rfl))⟩)
  have F_ordinal_NEXT := own_fld ev_NEXT hn2
  have F_ordinal_BREAK := own_fld ev_BREAK hn3
  have F_ordinal_CONTINUE := own_fld ev_CONTINUE hn5
  have F_ordinal_RETURN := own_fld ev_RETURN hn7
  have F_ordinal_PAUSE := own_fld ev_PAUSE hn9
  have ne_RETURN_BREAK : ¬ (w_RETURN = w_BREAK) := Fld.ne F_ordinal_RETURN F_ordinal_BREAK (by decide)
  have ne_RETURN_CONTINUE : ¬ (w_RETURN = w_CONTINUE) := Fld.ne F_ordinal_RETURN F_ordinal_CONTINUE (by decide)
  have ne_PAUSE_BREAK : ¬ (w_PAUSE = w_BREAK) := Fld.ne F_ordinal_PAUSE F_ordinal_BREAK (by decide)
  have ne_PAUSE_CONTINUE : ¬ (w_PAUSE = w_CONTINUE) := Fld.ne F_ordinal_PAUSE F_ordinal_CONTINUE (by decide)
  obtain ⟨n, o, h1, h2, h3, _, L, rfl, ⟨rfl, N⟩, hq⟩ := rm0 l s _ hw tables_1 i0 w_NEXT w_BREAK w_CONTINUE w_RETURN w_PAUSE s.heap s.heap.size (Nat.le_refl _) S_NEXT S_BREAK S_CONTINUE S_RETURN S_PAUSE E_NEXT E_BREAK E_CONTINUE E_RETURN E_PAUSE ne_RETURN_BREAK ne_RETURN_CONTINUE ne_PAUSE_BREAK ne_PAUSE_CONTINUE p e ha hc hk s m _ below hf ((Spec.applies_iff_loose hf).mp happ).1 ⟨rfl, State.Warmed39.refl s, rfl⟩ trivial
  refine ⟨n, _, h1, h2, h3, hpost _ _ _ _ _ _ ⟨Cond.after_iff.mpr rfl, Cond.after_iff.mpr (eq_i res_at (Term.int_eval (1)) rfl), trivial⟩ ⟨hq.1, hq.2.1, (hq.2.2.sift fun y hy => Or.inr (N y hy)).mono (by decide) (by decide)⟩⟩
theorem main_1_1 : Claimed_1_1 := comes_1 fun _ _ _ _ _ _ h hF => ⟨h.1, hF⟩
theorem main_1_2 : Claimed_1_2 := comes_1 fun _ _ _ _ _ _ h hF => ⟨h.2.1, hF⟩
end Jvm.Pilot.@@N@@
namespace Jvm.Pilot.@@N@@
open Jvm Jvm.ClassFile Sem Op Lib Jvm.Free Jvm.Stand Jvm.Pilot.@@N@@.Jvm.D
/-! MADE BY PROGRAM (witnessworld.py) out of the Statement's table words and the real class files: 12 classes; the members and pool entries that the words name. The judged class is class 1, her method 2. -/
namespace start1
open Jvm.ClassFile
def u (s : String) : CpInfo := .utf8 (stringToUtf16 s)
/-- a pool by its gaps: so many unusable entries, then the entry; so many at the end -/
def gap : Nat → List CpInfo → List CpInfo
  | 0, r => r
  | n + 1, r => .unusable :: gap n r
def poolList (es : List (Nat × CpInfo)) (last : Nat) : List CpInfo := es.foldr (fun e r => gap e.1 (e.2 :: r)) (gap last [])
def pool (es : List (Nat × CpInfo)) (last : Nat) : Array CpInfo := ⟨poolList es last⟩
def fileOf (pool : Array CpInfo) (this : Nat) (attrs : Array Attribute := #[]) (ms : Array MethodInfo := #[]) (fl : Nat := 33) (sup : Nat := 0) (ifs : Array Nat := #[]) (fds : Array FieldInfo := #[]) : ClassFile where
  minorVersion := 0
  majorVersion := 65
  constantPool := pool
  accessFlags := fl
  thisClass := this
  superClass := sup
  interfaces := ifs
  fields := fds
  methods := ms
  attributes := attrs
def plain (name : String) (sup : Option ClassId) : Class where
  name := name
  kind := .ordinary
  loader := none
  accessFlags := 33
  super := sup
  interfaces := #[]
  cf := none
  fields := #[]
  methods := #[]
  instanceTypes := #[]
  staticTypes := #[]
  resolved := #[]
  callSites := []
  init := .initialized
  statics := none
  mirror := none

def pool0 : Array CpInfo := pool [(5, u "<init>"), (0, u "()V"), (1, .class_ 10), (1, u "java/lang/Object")] 113

def k0m0 : Method := { name := "<init>", desc := "()V", sig := { parameters := [], returnType := none }, accessFlags := 1, code := none }
/-- java/lang/Object -/
def k0 : Class := { plain "java/lang/Object" none with
  accessFlags := 33
  interfaces := #[]
  cf := some (fileOf pool0 8 #[] #[{ accessFlags := 1, nameIndex := 5, descriptorIndex := 6, attributes := #[] }] 33 0 #[] #[])
  fields := #[]
  methods := #[k0m0]
  instanceTypes := #[]
  staticTypes := #[]
  resolved := Array.replicate 124 none
  statics := none }

def pool1 : Array CpInfo := pool [(2, .class_ 4), (1, u "java/lang/Object"), (0, u "<init>"), (0, u "()V"), (0, .fieldref 8 9), (0, .class_ 10), (0, .nameAndType 11 12), (0, u "com/example/lull/lull/tree/Flow"), (0, u "NEXT"), (0, u "Lcom/example/lull/lull/tree/Flow;"), (0, .fieldref 8 14), (0, .nameAndType 15 12), (0, u "BREAK"), (0, .fieldref 8 17), (0, .nameAndType 18 12), (0, u "CONTINUE"), (0, .fieldref 8 20), (0, .nameAndType 21 12), (0, u "RETURN"), (0, .fieldref 8 23), (0, .nameAndType 24 12), (0, u "PAUSE"), (0, .integer 2147483647), (0, .methodref 27 28), (0, .class_ 29), (0, .nameAndType 30 31), (0, u "com/example/lull/lull/tree/FlowOutOfLoopPinLaw"), (0, u "pick"), (0, u "(I)Lcom/example/lull/lull/tree/Flow;"), (0, .methodref 8 33), (0, .nameAndType 34 35), (0, u "outOfLoop"), (0, u "()Lcom/example/lull/lull/tree/Flow;"), (3, u "law"), (0, u "(I)Z")] 2

def k1m0 : Method := { name := "<init>", desc := "()V", sig := { parameters := [], returnType := none }, accessFlags := 1, code := none }
def k1c1 : Code := { maxStack := 2, maxLocals := 1, code := method_2_code, exceptionTable := #[], attributes := #[] }
def k1m1 : Method := { name := "pick", desc := "(I)Lcom/example/lull/lull/tree/Flow;", sig := { parameters := [.int], returnType := some (.object "com/example/lull/lull/tree/Flow") }, accessFlags := 10, code := some k1c1 }
def k1c2 : Code := { maxStack := 2, maxLocals := 5, code := code, exceptionTable := #[], attributes := #[] }
def k1m2 : Method := { name := "law", desc := "(I)Z", sig := { parameters := [.int], returnType := some .boolean }, accessFlags := 9, code := some k1c2 }
/-- com/example/lull/lull/tree/FlowOutOfLoopPinLaw -/
def k1 : Class := { plain "com/example/lull/lull/tree/FlowOutOfLoopPinLaw" (some 0) with
  accessFlags := 49
  interfaces := #[]
  cf := some (fileOf pool1 27 #[] #[{ accessFlags := 1, nameIndex := 5, descriptorIndex := 6, attributes := #[] }, { accessFlags := 10, nameIndex := 30, descriptorIndex := 31, attributes := #[] }, { accessFlags := 9, nameIndex := 39, descriptorIndex := 40, attributes := #[] }] 49 2 #[] #[])
  fields := #[]
  methods := #[k1m0, k1m1, k1m2]
  instanceTypes := #[]
  staticTypes := #[]
  resolved := Array.replicate 43 none
  statics := none }

def pool2 : Array CpInfo := pool [(1, .class_ 2), (0, u "java/lang/constant/Constable"), (0, .class_ 4), (0, u "java/lang/Object")] 6

/-- java/lang/constant/Constable -/
def k2 : Class := { plain "java/lang/constant/Constable" (some 0) with
  accessFlags := 1537
  interfaces := #[]
  cf := some (fileOf pool2 1 #[] #[] 1537 3 #[] #[])
  fields := #[]
  methods := #[]
  instanceTypes := #[]
  staticTypes := #[]
  resolved := Array.replicate 11 none
  statics := none }

def pool3 : Array CpInfo := pool [(1, .class_ 2), (0, u "java/lang/Comparable"), (0, .class_ 4), (0, u "java/lang/Object")] 7

/-- java/lang/Comparable -/
def k3 : Class := { plain "java/lang/Comparable" (some 0) with
  accessFlags := 1537
  interfaces := #[]
  cf := some (fileOf pool3 1 #[] #[] 1537 3 #[] #[])
  fields := #[]
  methods := #[]
  instanceTypes := #[]
  staticTypes := #[]
  resolved := Array.replicate 12 none
  statics := none }

def pool4 : Array CpInfo := pool [(1, .class_ 2), (0, u "java/io/Serializable"), (0, .class_ 4), (0, u "java/lang/Object")] 2

/-- java/io/Serializable -/
def k4 : Class := { plain "java/io/Serializable" (some 0) with
  accessFlags := 1537
  interfaces := #[]
  cf := some (fileOf pool4 1 #[] #[] 1537 3 #[] #[])
  fields := #[]
  methods := #[]
  instanceTypes := #[]
  staticTypes := #[]
  resolved := Array.replicate 7 none
  statics := none }

def pool5 : Array CpInfo := pool [(2, .class_ 4), (1, u "java/lang/Enum"), (0, u "name"), (0, u "Ljava/lang/String;"), (2, u "ordinal"), (0, u "I"), (1, .class_ 14), (1, u "java/lang/Object"), (4, u "hash"), (86, .class_ 108), (1, u "java/lang/Enum$EnumDesc"), (2, .class_ 112), (0, u "java/lang/constant/Constable"), (0, .class_ 114), (0, u "java/lang/Comparable"), (0, .class_ 116), (0, u "java/io/Serializable")] 87

/-- java/lang/Enum -/
def k5 : Class := { plain "java/lang/Enum" (some 0) with
  accessFlags := 1057
  interfaces := #[2, 3, 4]
  cf := some (fileOf pool5 2 #[.nestMembers #[106]] #[] 1057 12 #[111, 113, 115] #[{ accessFlags := 18, nameIndex := 5, descriptorIndex := 6, attributes := #[] }, { accessFlags := 18, nameIndex := 9, descriptorIndex := 10, attributes := #[] }, { accessFlags := 2, nameIndex := 19, descriptorIndex := 10, attributes := #[] }])
  fields := #[{ name := "name", type := (.object "java/lang/String"), accessFlags := 18, slot := 0, constantValue := 0 }, { name := "ordinal", type := .int, accessFlags := 18, slot := 1, constantValue := 0 }, { name := "hash", type := .int, accessFlags := 2, slot := 2, constantValue := 0 }]
  methods := #[]
  instanceTypes := #[(.object "java/lang/String"), .int, .int]
  staticTypes := #[]
  resolved := Array.replicate 204 none
  statics := none }

def pool6 : Array CpInfo := pool [(1, .class_ 2), (0, u "com/example/lull/lull/tree/Flow"), (0, .fieldref 1 4), (0, .nameAndType 5 6), (0, u "NEXT"), (0, u "Lcom/example/lull/lull/tree/Flow;"), (0, .fieldref 1 8), (0, .nameAndType 9 6), (0, u "BREAK"), (0, .fieldref 1 11), (0, .nameAndType 12 6), (0, u "CONTINUE"), (2, u "RETURN"), (2, u "PAUSE"), (2, u "$VALUES"), (0, u "[Lcom/example/lull/lull/tree/Flow;"), (6, .class_ 31), (1, u "java/lang/Enum"), (26, u "outOfLoop"), (0, u "()Lcom/example/lull/lull/tree/Flow;")] 4

def k6c0 : Code := { maxStack := 2, maxLocals := 1, code := prog_132_method_5_code, exceptionTable := #[], attributes := #[] }
def k6m0 : Method := { name := "outOfLoop", desc := "()Lcom/example/lull/lull/tree/Flow;", sig := { parameters := [], returnType := some (.object "com/example/lull/lull/tree/Flow") }, accessFlags := 0, code := some k6c0 }
/-- com/example/lull/lull/tree/Flow -/
def k6 : Class := { plain "com/example/lull/lull/tree/Flow" (some 5) with
  accessFlags := 16433
  interfaces := #[]
  cf := some (fileOf pool6 1 #[] #[{ accessFlags := 0, nameIndex := 58, descriptorIndex := 59, attributes := #[] }] 16433 29 #[] #[{ accessFlags := 16409, nameIndex := 5, descriptorIndex := 6, attributes := #[] }, { accessFlags := 16409, nameIndex := 9, descriptorIndex := 6, attributes := #[] }, { accessFlags := 16409, nameIndex := 12, descriptorIndex := 6, attributes := #[] }, { accessFlags := 16409, nameIndex := 15, descriptorIndex := 6, attributes := #[] }, { accessFlags := 16409, nameIndex := 18, descriptorIndex := 6, attributes := #[] }, { accessFlags := 4122, nameIndex := 21, descriptorIndex := 22, attributes := #[] }])
  fields := #[{ name := "NEXT", type := (.object "com/example/lull/lull/tree/Flow"), accessFlags := 16409, slot := 0, constantValue := 0 }, { name := "BREAK", type := (.object "com/example/lull/lull/tree/Flow"), accessFlags := 16409, slot := 1, constantValue := 0 }, { name := "CONTINUE", type := (.object "com/example/lull/lull/tree/Flow"), accessFlags := 16409, slot := 2, constantValue := 0 }, { name := "RETURN", type := (.object "com/example/lull/lull/tree/Flow"), accessFlags := 16409, slot := 3, constantValue := 0 }, { name := "PAUSE", type := (.object "com/example/lull/lull/tree/Flow"), accessFlags := 16409, slot := 4, constantValue := 0 }, { name := "$VALUES", type := (.array (.object "com/example/lull/lull/tree/Flow")), accessFlags := 4122, slot := 5, constantValue := 0 }]
  methods := #[k6m0]
  instanceTypes := #[(.object "java/lang/String"), .int, .int]
  staticTypes := #[(.object "com/example/lull/lull/tree/Flow"), (.object "com/example/lull/lull/tree/Flow"), (.object "com/example/lull/lull/tree/Flow"), (.object "com/example/lull/lull/tree/Flow"), (.object "com/example/lull/lull/tree/Flow"), (.array (.object "com/example/lull/lull/tree/Flow"))]
  resolved := Array.replicate 64 none
  statics := some 0 }

def pool7 : Array CpInfo := pool [(1, u "java/lang/Cloneable"), (0, .class_ 1), (0, u "java/lang/Object"), (0, .class_ 3)] 3

/-- java/lang/Cloneable -/
def k7 : Class := { plain "java/lang/Cloneable" (some 0) with
  accessFlags := 1537
  interfaces := #[]
  cf := some (fileOf pool7 2 #[] #[] 1537 4 #[] #[])
  fields := #[]
  methods := #[]
  instanceTypes := #[]
  staticTypes := #[]
  resolved := Array.replicate 8 none
  statics := none }

/-- the primitive byte -/
def k8 : Class := { plain "byte" none with kind := .primitive 'B', accessFlags := 0x411 }
/-- [B -/
def k9 : Class := { plain "[B" (some 0) with kind := .array 8 .byte, interfaces := #[7, 4], accessFlags := 1041 }

/-- the primitive int -/
def k10 : Class := { plain "int" none with kind := .primitive 'I', accessFlags := 0x411 }
/-- [I -/
def k11 : Class := { plain "[I" (some 0) with kind := .array 10 .int, interfaces := #[7, 4], accessFlags := 1041 }

def heap : Heap := #[{ cls := 6, slots := #[.ref 1, .ref 2, .ref 3, .ref 4, .ref 5, .null], vm := .statics 6 },
  { cls := 6, slots := #[.null, .int 0, .int 0], vm := .none },
  { cls := 6, slots := #[.null, .int 1, .int 0], vm := .none },
  { cls := 6, slots := #[.null, .int 2, .int 0], vm := .none },
  { cls := 6, slots := #[.null, .int 3, .int 0], vm := .none },
  { cls := 6, slots := #[.null, .int 4, .int 0], vm := .none }]
def classes : Array Class := #[k0, k1, k2, k3, k4, k5, k6, k7, k8, k9, k10, k11]
def interned : List (Array UInt16 × Addr) := []
def slotsUsed : Nat := 21
def theMethod : MethodId := ⟨1, 2⟩
def args0 : Array Value := #[.int 5]
def aboutOver (below : List Frame) : State where
  vm := { classes := classes, interned := interned.toArray }
  heap := heap
  slotsUsed := slotsUsed
  threads := #[{ frames := .invoking theMethod args0 :: below }]
def below0 : List Frame := [.native { method := ⟨0, 0⟩, args := #[] }]
def about1 : State := aboutOver below0
def p0 : Program := .bare "" "" ""
def e0 : Env := launch0.env 0 0 0
theorem w_frames : about1.frames = Frame.invoking theMethod args0 :: below0 := rfl
set_option maxRecDepth 65536 in
theorem w_args : argsFit about1.vm theMethod args0 = true := by decide +kernel
set_option maxRecDepth 65536 in
theorem w_heap : heapFits about1 = true := by decide +kernel
set_option maxRecDepth 65536 in
theorem w_runnable : about1.curStatus? = some .runnable := by decide +kernel
set_option maxRecDepth 65536 in
theorem w_alone : about1.alone = true := by decide +kernel
set_option maxRecDepth 65536 in
theorem w_named : about1.methodNamed? x = some theMethod := by decide +kernel
set_option maxRecDepth 65536 in
theorem w_hears : about1.hears theMethod below0 = true := by decide +kernel
set_option maxRecDepth 65536 in
theorem w_ripe : about1.ripe theMethod args0 below0 = true := by decide +kernel
theorem w_running : about1.status = .running := rfl
set_option maxRecDepth 65536 in
theorem w_room : about1.hasRoom e0.platform room_1 = true :=
  launch0.hasRoom_least _ room_1 (by decide +kernel) (by decide +kernel) (by decide +kernel) (by decide +kernel) (by decide +kernel) (by decide +kernel)
theorem allAtoms_all (ts : List Jvm.Cond) (a : Array Jvm.Value) (st : Jvm.State) : (allAtoms ts).before a st = ts.all (fun c => c.before a st) := by
  induction ts with
  | nil => rfl
  | cons c t ih =>
    show (Jvm.Cond.and c (allAtoms t)).before a st = _
    rw [Jvm.Cond.before_and, ih, List.all_cons]
def words1 : List Jvm.Cond := Jvm.Cond.code x code maxLocals ret :: tables_1
/-- a 'code' word, met by the world's own term for the bytes: nothing is compared byte by byte -/
theorem code_word {y : MethodName} {bytes : ByteArray} {mx : Nat} {rt : Option FieldType} {a : Array Value} {s : State} {m : MethodId} {meth : Method} {c : Code} (h1 : s.methodNamed? y = some m) (h2 : s.vm.method? m = some meth) (h3 : meth.code = some c) (h4 : c.code = bytes)
    (h5 : (c.maxLocals == mx && c.exceptionTable.isEmpty && decide (c.maxStack ≤ mostOperands) && decide (meth.sig.returnType = rt) && !meth.locks && decide (parseMethodDescriptor y.desc = some meth.sig)) = true) : (Jvm.Cond.code y bytes mx rt).before a s = true := by
  simp only [Bool.and_eq_true, beq_iff_eq, Bool.not_eq_true', decide_eq_true_eq] at h5
  obtain ⟨⟨⟨⟨⟨g1, g2⟩, g3⟩, g4⟩, g5⟩, g6⟩ := h5
  simp [Cond.before, Cond.holds, Cond.value, h1, h2, h3, h4, g1, g2, g3, g4, g5, g6]
def isCode : Jvm.Cond → Bool
  | .code _ _ _ _ => true
  | _ => false
theorem all_split {L : List Jvm.Cond} {P : Jvm.Cond → Bool} (h1 : L.all (fun c => isCode c || P c) = true) (h2 : ∀ c ∈ L.filter isCode, P c = true) : L.all P = true := by
  refine List.all_eq_true.mpr fun c hc => ?_
  have h := List.all_eq_true.mp h1 c hc
  rcases Bool.eq_false_or_eq_true (isCode c) with hi | hi
  · exact h2 c (List.mem_filter.mpr ⟨hc, hi⟩)
  · simpa [hi] using h
set_option maxRecDepth 65536 in
theorem w_c0 : (Jvm.Cond.code x code maxLocals ret).before args0 about1 = true := code_word (m := ⟨1, 2⟩) (meth := k1m2) (c := k1c2) (by decide +kernel) rfl rfl rfl (by decide +kernel)
set_option maxRecDepth 65536 in
theorem w_c1 : (Jvm.Cond.code ({ cls := "com/example/lull/lull/tree/FlowOutOfLoopPinLaw", name := "pick", desc := "(I)Lcom/example/lull/lull/tree/Flow;" } : Jvm.MethodName) method_2_code (1 : Nat) (Option.some (Jvm.ClassFile.FieldType.object "com/example/lull/lull/tree/Flow"))).before args0 about1 = true := code_word (m := ⟨1, 1⟩) (meth := k1m1) (c := k1c1) (by decide +kernel) rfl rfl rfl (by decide +kernel)
set_option maxRecDepth 65536 in
theorem w_c2 : (Jvm.Cond.code ({ cls := "com/example/lull/lull/tree/Flow", name := "outOfLoop", desc := "()Lcom/example/lull/lull/tree/Flow;" } : Jvm.MethodName) prog_132_method_5_code (1 : Nat) (Option.some (Jvm.ClassFile.FieldType.object "com/example/lull/lull/tree/Flow"))).before args0 about1 = true := code_word (m := ⟨6, 0⟩) (meth := k6m0) (c := k6c0) (by decide +kernel) rfl rfl rfl (by decide +kernel)
def codes1 : List Jvm.Cond := [Jvm.Cond.code x code maxLocals ret, Jvm.Cond.code ({ cls := "com/example/lull/lull/tree/FlowOutOfLoopPinLaw", name := "pick", desc := "(I)Lcom/example/lull/lull/tree/Flow;" } : Jvm.MethodName) method_2_code (1 : Nat) (Option.some (Jvm.ClassFile.FieldType.object "com/example/lull/lull/tree/Flow")), Jvm.Cond.code ({ cls := "com/example/lull/lull/tree/Flow", name := "outOfLoop", desc := "()Lcom/example/lull/lull/tree/Flow;" } : Jvm.MethodName) prog_132_method_5_code (1 : Nat) (Option.some (Jvm.ClassFile.FieldType.object "com/example/lull/lull/tree/Flow"))]
set_option maxRecDepth 65536 in
theorem codes_eq : words1.filter isCode = codes1 := rfl
theorem w_codes : ∀ c ∈ words1.filter isCode, c.before args0 about1 = true := by
  rw [codes_eq]
  intro c hc
  simp only [codes1, List.mem_cons, List.not_mem_nil, or_false] at hc
  rcases hc with rfl | rfl | rfl
  · exact w_c0
  · exact w_c1
  · exact w_c2
set_option maxRecDepth 65536 in
theorem w_t1 : (words1.take 24).all (fun c => isCode c || c.before args0 about1) = true := by decide +kernel
set_option maxRecDepth 65536 in
theorem w_t2 : (words1.drop 24).all (fun c => isCode c || c.before args0 about1) = true := by decide +kernel
theorem w_tables : (allAtoms (Jvm.Cond.code x code maxLocals ret :: tables_1)).before args0 about1 = true := by
  rw [allAtoms_all]
  show words1.all (fun c => c.before args0 about1) = true
  refine all_split ?_ w_codes
  rw [← List.take_append_drop 24 words1, List.all_append, w_t1, w_t2]
  rfl
set_option maxRecDepth 65536 in
theorem w_case : (Jvm.Cond.and given_1 narrow_1).before args0 about1 = true := by decide +kernel
theorem w_applies : (headSpec (Jvm.Cond.code x code maxLocals ret :: tables_1) room_1).applies x e0.platform about1 = true :=
  (Spec.applies_iff w_frames).mpr ⟨w_running, w_runnable, w_alone, w_named, w_hears, w_ripe, w_room, w_tables⟩
theorem atStart : AtStart classFile x code maxLocals ret World_1 tables_1 room_1 Calls_1 rest_1 Pre_1 launch0 p0 e0 about1 theMethod args0 below0 :=
  ⟨lists_1, trivial, launch0.admits_env _ _ _, launch0.least_env, fairChoices_fair.cas, fairChoices_fair.clock, w_frames, w_args, w_heap, w_applies, trivial, trivial, w_case⟩
end start1
theorem witness_1 : WitnessClaimed_1 := ⟨start1.p0, start1.e0, start1.about1, start1.theMethod, start1.args0, start1.below0, start1.atStart⟩
end Jvm.Pilot.@@N@@
