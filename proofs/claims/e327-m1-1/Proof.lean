import JvmDerived
import JvmDerived.Pilot.@@N@@Statement
import JvmDerived.Pilot.@@N@@Code
set_option linter.unusedVariables false
set_option linter.unusedSimpArgs false
namespace Jvm.Pilot.@@N@@
open Jvm Jvm.ClassFile Sem Op Lib Jvm.Free Jvm.Stand Jvm.LawKit Jvm.RoadKit Bundle Jvm.Pilot.@@N@@.Jvm.D

/-- the run that stands at the frame f over T ends as Q says -/
def own_Go (p : Program) (e : Env) (below : List Frame) (s : State) (Q : Option Value → Heap → List Loc → Prop) (rc rs : Nat) (T : State) (f : JFrame) : Prop :=
  ∃ s₂ o, Steps p.tables e below (T.setTop f) s₂ ∧ s₂.status = .running ∧ Ended s₂ below o ∧ ∃ v L, o = .returned v ∧ Q v s₂.heap L ∧ FrameEnd s o s₂ L rc rs
theorem own_by {p : Program} {e : Env} {below : List Frame} {s : State} {Q : Option Value → Heap → List Loc → Prop} {rc rs : Nat} {T T' : State} {f f' : JFrame} (k : ∀ t, Steps p.tables e below (T'.setTop f') t → Steps p.tables e below (T.setTop f) t) (h : own_Go p e below s Q rc rs T' f') : own_Go p e below s Q rc rs T f := by
  obtain ⟨s₂, o, st, r⟩ := h
  exact ⟨s₂, o, k _ st, r⟩
theorem own_mk {p : Program} {e : Env} {below : List Frame} {s : State} {Q : Option Value → Heap → List Loc → Prop} {rc rs : Nat} {T : State} {f : JFrame} (h : ∃ s₂ o, Steps p.tables e below (T.setTop f) s₂ ∧ s₂.status = .running ∧ Ended s₂ below o ∧ ∃ v L, o = .returned v ∧ Q v s₂.heap L ∧ FrameEnd s o s₂ L rc rs) : own_Go p e below s Q rc rs T f := h
theorem own_open {p : Program} {e : Env} {below : List Frame} {s : State} {Q : Option Value → Heap → List Loc → Prop} {rc rs : Nat} {T : State} {f f0 : JFrame} (k : ∀ t, Steps p.tables e below (T.setTop f) t → Steps p.tables e below (T.setTop f0) t) (h : own_Go p e below s Q rc rs T f) : ∃ s₂ o, Steps p.tables e below (T.setTop f0) s₂ ∧ s₂.status = .running ∧ Ended s₂ below o ∧ ∃ v L, o = .returned v ∧ Q v s₂.heap L ∧ FrameEnd s o s₂ L rc rs := by
  obtain ⟨s₂, o, st, r⟩ := h
  exact ⟨s₂, o, k _ st, r⟩
theorem own_eqI {args : Array Value} {s : State} {a : Term} {k : Int32} (h : (Cond.eq a (.int k)).value args s none s [] = some true) : a.eval args s none [] s = some (.int k) := by
  obtain ⟨x, y, h1, h2, -, K⟩ := cmp_v (Or.inl h)
  have e : y = .int k := (Option.some.inj h2).symm
  subst e
  obtain ⟨z, rfl⟩ := K
  have q : z = k := by simpa [Cond.value, h1, h2] using h
  rw [h1, q]
theorem own_extt {h h' h'' : Heap} (E : Ext h h') (E' : Ext h' h'') : Ext h h'' := ⟨Nat.le_trans E.1 E'.1, fun a c q => E'.2 a c (E.2 a c q)⟩
theorem own_extw {h h' h'' : Heap} {a : Addr} {sl : Nat} {v : Value} (E : Ext h h') (W : Wr h' h'' a sl v) (g : h.size ≤ a) : Ext h h'' := by
  refine ⟨Nat.le_trans E.1 (Nat.le_of_eq W.size.symm), fun b c q => ?_⟩
  have ne : b ≠ a := Nat.ne_of_lt (Nat.lt_of_lt_of_le (Array.getElem?_eq_some_iff.mp q).1 g)
  obtain ⟨cell, -, -, -, rfl⟩ := W
  rw [Array.getElem?_setIfInBounds_ne (Ne.symm ne)]
  exact E.2 b c q
theorem own_eqL {args : Array Value} {s : State} {a : Term} {k : Int64} (h : (Cond.eq a (.long k)).value args s none s [] = some true) : a.eval args s none [] s = some (.long k) := by
  obtain ⟨x, y, h1, h2, -, K⟩ := cmp_v (Or.inl h)
  have e : y = .long k := (Option.some.inj h2).symm
  subst e
  obtain ⟨z, rfl⟩ := K
  have q : z = k := by simpa [Cond.value, h1, h2] using h
  rw [h1, q]
theorem own_eqR {args : Array Value} {s : State} {a b : Term} {r : Addr} (h : (Cond.eq a b).value args s none s [] = some true) (hb : b.eval args s none [] s = some (.ref r)) : a.eval args s none [] s = some (.ref r) := by
  obtain ⟨x, y, h1, h2, -, K⟩ := cmp_v (Or.inl h)
  cases hb.symm.trans h2
  rcases ref_cases K.2 with rfl | ⟨q, rfl⟩
  · simp [Cond.value, h1, h2] at h
  · have e : q = r := by simpa [Cond.value, h1, h2] using h
    rw [h1, e]
theorem own_cmp0 {x y : Int64} (h : x = y) : XT.cmpL x y = 0 := by subst h; unfold XT.cmpL; rw [if_neg (by simp), if_pos rfl]
theorem own_cmp1 {x y : Int64} (h : ¬ x = y) : ¬ XT.cmpL x y = 0 := by
  unfold XT.cmpL
  by_cases q : y < x
  · rw [if_pos q]; decide
  · rw [if_neg q, if_neg h]; decide
theorem own_fldL {args : Array Value} {s : State} {t : Term} {C n d : String} {x : Addr} {k : Int64} (ev : t.eval args s none [] s = some (.ref x)) (h : (Cond.eq (.field t C n d) (.long k)).value args s none s [] = some true) : Fld s s.heap x C n d (.long k) := Fld.start ((fld_at ev).symm.trans (own_eqL h))
theorem own_fld {args : Array Value} {s : State} {t : Term} {C n d : String} {x : Addr} {k : Int32} (ev : t.eval args s none [] s = some (.ref x)) (h : (Cond.eq (.field t C n d) (.int k)).value args s none s [] = some true) : Fld s s.heap x C n d (.int k) := Fld.start ((fld_at ev).symm.trans (own_eqI h))

theorem own_mod (x y : Int32) (d : Int) (hy : y.toInt = d) (hd : 0 < d) : 0 ≤ ((x &&& 2147483647) % y).toInt ∧ ((x &&& 2147483647) % y).toInt < d := by
  have h0 : 0 ≤ (x &&& 2147483647).toInt := (c_andS x 2147483647).2.2 (by decide)
  rw [(c_irem _ y d hy).1 h0]
  exact ⟨Int.emod_nonneg _ (by omega), Int.emod_lt_of_pos _ hd⟩
theorem own_k (x : Int32) : (x &&& 2147483647) % 5 = 0 ∨ (x &&& 2147483647) % 5 = 1 ∨ (x &&& 2147483647) % 5 = 2 ∨ (x &&& 2147483647) % 5 = 3 ∨ (x &&& 2147483647) % 5 = 4 := by
  obtain ⟨h1, h2⟩ := own_mod x 5 5 rfl (by decide)
  generalize (x &&& 2147483647) % 5 = k at h1 h2 ⊢
  simp only [← Int32.toInt_inj, Int32.reduceToInt]
  omega
theorem d1_0 : decode prog_132_method_4_code 0 = .ok (.aload_n 0, 1) := by decide +kernel
theorem d1_1 : decode prog_132_method_4_code 1 = .ok (.getstatic 7, 3) := by decide +kernel
theorem d1_4 : decode prog_132_method_4_code 4 = .ok (.if_acmp .eq 17, 3) := by decide +kernel
theorem d1_7 : decode prog_132_method_4_code 7 = .ok (.aload_n 0, 1) := by decide +kernel
theorem d1_8 : decode prog_132_method_4_code 8 = .ok (.getstatic 13, 3) := by decide +kernel
theorem d1_11 : decode prog_132_method_4_code 11 = .ok (.if_acmp .eq 10, 3) := by decide +kernel
theorem d1_14 : decode prog_132_method_4_code 14 = .ok (.aload_n 0, 1) := by decide +kernel
theorem d1_15 : decode prog_132_method_4_code 15 = .ok (.getstatic 16, 3) := by decide +kernel
theorem d1_18 : decode prog_132_method_4_code 18 = .ok (.if_acmp .ne 7, 3) := by decide +kernel
theorem d1_21 : decode prog_132_method_4_code 21 = .ok (.iconst 1, 1) := by decide +kernel
theorem d1_22 : decode prog_132_method_4_code 22 = .ok (.goto 4, 3) := by decide +kernel
theorem d1_25 : decode prog_132_method_4_code 25 = .ok (.iconst 0, 1) := by decide +kernel
theorem d1_26 : decode prog_132_method_4_code 26 = .ok (.ireturn, 1) := by decide +kernel
theorem own_pn1 : plainName "com/example/lull/lull/tree/Flow" = true := by first | (simp [plainName, overriddenIn]; done) | decide +kernel
theorem own_ef1 (m : MethodId) (x0 : Addr) : entryFrame m #[(.ref x0)] 1 = mkF m 0 #[.val (.ref x0)] [] := by first | (simp [entryFrame, mkF, argsToLocals, Value.category, maxLocals]; done) | rfl
theorem own_pd1 : parseMethodDescriptor "()Z" = some ⟨[], some .boolean⟩ := by decide +kernel
def Q1 (a1 w_BREAK w_RETURN w_PAUSE : Addr) (h0 : Heap) (n0 : Nat) (v : Option Value) (h : Heap) (L : List Loc) : Prop := v = some (.int (if a1 = w_BREAK ∨ a1 = w_RETURN ∨ a1 = w_PAUSE then 1 else 0)) ∧ Fr n0 L ∧ h = h0
set_option maxRecDepth 65536 in
set_option maxHeartbeats 40000000 in
theorem rm1 (l : Launch) (Z : State) (a0 : Array Value) (hw : ∀ d ∈ tables_1, d.before a0 Z = true) (ws : List Jvm.Cond) (a1 w_BREAK w_RETURN w_PAUSE : Addr) (h0 : Heap) (n0 : Nat) (Z0 : n0 ≤ h0.size) (S_BREAK : Sta Z h0 "com/example/lull/lull/tree/Flow" "BREAK" "Lcom/example/lull/lull/tree/Flow;" (.ref w_BREAK)) (S_RETURN : Sta Z h0 "com/example/lull/lull/tree/Flow" "RETURN" "Lcom/example/lull/lull/tree/Flow;" (.ref w_RETURN)) (S_PAUSE : Sta Z h0 "com/example/lull/lull/tree/Flow" "PAUSE" "Lcom/example/lull/lull/tree/Flow;" (.ref w_PAUSE)) :
    MetFree l (⟨"com/example/lull/lull/tree/Flow", "endsLoop", "()Z"⟩ : MethodName) (head1 (Jvm.Cond.code (⟨"com/example/lull/lull/tree/Flow", "endsLoop", "()Z"⟩ : MethodName) prog_132_method_4_code 1 (Option.some Jvm.ClassFile.FieldType.boolean) :: ws) ({ frames := 0, cells := 0, slots := 0, locals := 0 } : Room)) (fun a U => a = #[(.ref a1)] ∧ Z.Warmed39 U.vm ∧ U.heap = h0) (fun _ _ _ _ _ => True) (fun _ U o U' => ∃ v L, o = .returned v ∧ Q1 a1 w_BREAK w_RETURN w_PAUSE h0 n0 v U'.heap L ∧ FrameEnd U o U' L ({ frames := 0, cells := 0, slots := 0, locals := 0 } : Room).cells ({ frames := 0, cells := 0, slots := 0, locals := 0 } : Room).slots) := by
  refine MetFree.of_bodySF (plainFor_of_name own_pn1) hisR ?_
  intro p e s m args below meth c s₁ Bd hml0 hP hK
  obtain ⟨rfl, hZ, hh⟩ := hP
  have hx := Bd.exec
  have hby := Bd.bytes
  have hml : c.maxLocals = 1 := hml0
  have hown : s.vm.findClass "com/example/lull/lull/tree/Flow" = some m.cls := findClass_of_methodNamed Bd.named
  have hnm := (name_of_methodNamed Bd.named Bd.method).1
  have X0 : Stand p l e ({ frames := 0, cells := 0, slots := 0, locals := 0 } : Room) s m #[(.ref a1)] below meth c s₁ [] 0 0 := Stand.of_body Bd
  have e0 : s₁.heap = h0 := by rw [← hh, Bd.state]; rfl
  have N0 := Fr.nil n0
  refine own_open (f := (mkF m 0 #[.val (.ref a1)] [])) (fun t k => castTop (own_ef1 m a1) k) ?_
  refine own_by (f' := (mkF m 1 #[.val (.ref a1)] [(.ref a1)])) (fun t h => XS.aloadN X0.here hx rfl (hb hby d1_0) rfl rfl h) ?_
  obtain ⟨T1, X1, e1, st1⟩ := getS2 X0 hx hZ hown (host := "") (Or.inl (hw _ (List.mem_of_getElem? (i := 9) rfl))) Via.refl e0 S_BREAK (g := (mkF m 1 #[.val (.ref a1)] [(.ref a1)])) rfl (hb hby d1_1)
  refine own_by (f' := (mkF m 4 #[.val (.ref a1)] [(.ref w_BREAK), (.ref a1)])) st1 ?_
  by_cases hc4_2 : a1 = w_BREAK
  · refine own_by (f' := (mkF m 21 #[.val (.ref a1)] [])) (fun t h => Jvm.RoadKit.acmp (g := (mkF m 4 #[.val (.ref a1)] [(.ref w_BREAK), (.ref a1)])) X1 hx rfl rfl rfl (pc0 := 4) (pc' := 21) (same := true) rfl (hb hby d1_4) rfl (decide_eq_true (congrArg Value.ref hc4_2)) (by decide) (by decide) h) ?_
    refine own_by (f' := (mkF m 22 #[.val (.ref a1)] [(.int (1 : Int32))])) (fun t h => XS.iconst X1.here hx rfl (hb hby d1_21) h) ?_
    refine own_by (f' := (mkF m 26 #[.val (.ref a1)] [(.int (1 : Int32))])) (fun t h => XS.goto X1.here hx rfl (pc0 := 22) (pc' := 26) rfl (hb hby d1_22) (by decide) (by decide) h) ?_
    obtain ⟨fs, hr, hrun, hended, hW, hsame⟩ := X1.leave (v := some (.int (1 : Int32))) (fun h => by rw [Bd.returns] at h; cases h)
    refine own_mk ⟨_, _, retN X1 hx (t := .boolean) Bd.returns (by simp) (hb hby d1_26) hr, hrun, hended, _, _, rfl, ?_, ⟨_, rfl⟩, hW, hsame.mono (by decide) (by decide)⟩
    show Q1 a1 w_BREAK w_RETURN w_PAUSE h0 n0 _ T1.heap _
    rw [e1]
    exact ⟨by simp [hc4_2], N0, rfl⟩
  · refine own_by (f' := (mkF m 7 #[.val (.ref a1)] [])) (fun t h => Jvm.RoadKit.acmp (g := (mkF m 4 #[.val (.ref a1)] [(.ref w_BREAK), (.ref a1)])) X1 hx rfl rfl rfl (pc0 := 4) (pc' := 7) (same := false) rfl (hb hby d1_4) rfl (decide_eq_false fun q => hc4_2 (Value.ref.inj q)) (by decide) (by decide) h) ?_
    refine own_by (f' := (mkF m 8 #[.val (.ref a1)] [(.ref a1)])) (fun t h => XS.aloadN X1.here hx rfl (hb hby d1_7) rfl rfl h) ?_
    obtain ⟨T3, X3, e3, st3⟩ := getS2 X1 hx hZ hown (host := "") (Or.inl (hw _ (List.mem_of_getElem? (i := 11) rfl))) Via.refl e1 S_RETURN (g := (mkF m 8 #[.val (.ref a1)] [(.ref a1)])) rfl (hb hby d1_8)
    refine own_by (f' := (mkF m 11 #[.val (.ref a1)] [(.ref w_RETURN), (.ref a1)])) st3 ?_
    by_cases hc11_4 : a1 = w_RETURN
    · refine own_by (f' := (mkF m 21 #[.val (.ref a1)] [])) (fun t h => Jvm.RoadKit.acmp (g := (mkF m 11 #[.val (.ref a1)] [(.ref w_RETURN), (.ref a1)])) X3 hx rfl rfl rfl (pc0 := 11) (pc' := 21) (same := true) rfl (hb hby d1_11) rfl (decide_eq_true (congrArg Value.ref hc11_4)) (by decide) (by decide) h) ?_
      refine own_by (f' := (mkF m 22 #[.val (.ref a1)] [(.int (1 : Int32))])) (fun t h => XS.iconst X3.here hx rfl (hb hby d1_21) h) ?_
      refine own_by (f' := (mkF m 26 #[.val (.ref a1)] [(.int (1 : Int32))])) (fun t h => XS.goto X3.here hx rfl (pc0 := 22) (pc' := 26) rfl (hb hby d1_22) (by decide) (by decide) h) ?_
      obtain ⟨fs, hr, hrun, hended, hW, hsame⟩ := X3.leave (v := some (.int (1 : Int32))) (fun h => by rw [Bd.returns] at h; cases h)
      refine own_mk ⟨_, _, retN X3 hx (t := .boolean) Bd.returns (by simp) (hb hby d1_26) hr, hrun, hended, _, _, rfl, ?_, ⟨_, rfl⟩, hW, hsame.mono (by decide) (by decide)⟩
      show Q1 a1 w_BREAK w_RETURN w_PAUSE h0 n0 _ T3.heap _
      rw [e3]
      exact ⟨by simp [hc4_2, hc11_4], N0, rfl⟩
    · refine own_by (f' := (mkF m 14 #[.val (.ref a1)] [])) (fun t h => Jvm.RoadKit.acmp (g := (mkF m 11 #[.val (.ref a1)] [(.ref w_RETURN), (.ref a1)])) X3 hx rfl rfl rfl (pc0 := 11) (pc' := 14) (same := false) rfl (hb hby d1_11) rfl (decide_eq_false fun q => hc11_4 (Value.ref.inj q)) (by decide) (by decide) h) ?_
      refine own_by (f' := (mkF m 15 #[.val (.ref a1)] [(.ref a1)])) (fun t h => XS.aloadN X3.here hx rfl (hb hby d1_14) rfl rfl h) ?_
      obtain ⟨T5, X5, e5, st5⟩ := getS2 X3 hx hZ hown (host := "") (Or.inl (hw _ (List.mem_of_getElem? (i := 13) rfl))) Via.refl e3 S_PAUSE (g := (mkF m 15 #[.val (.ref a1)] [(.ref a1)])) rfl (hb hby d1_15)
      refine own_by (f' := (mkF m 18 #[.val (.ref a1)] [(.ref w_PAUSE), (.ref a1)])) st5 ?_
      by_cases hc18_6 : a1 = w_PAUSE
      · refine own_by (f' := (mkF m 21 #[.val (.ref a1)] [])) (fun t h => Jvm.RoadKit.acmp (g := (mkF m 18 #[.val (.ref a1)] [(.ref w_PAUSE), (.ref a1)])) X5 hx rfl rfl rfl (pc0 := 18) (pc' := 21) (same := true) rfl (hb hby d1_18) rfl (decide_eq_true (congrArg Value.ref hc18_6)) (by decide) (by decide) h) ?_
        refine own_by (f' := (mkF m 22 #[.val (.ref a1)] [(.int (1 : Int32))])) (fun t h => XS.iconst X5.here hx rfl (hb hby d1_21) h) ?_
        refine own_by (f' := (mkF m 26 #[.val (.ref a1)] [(.int (1 : Int32))])) (fun t h => XS.goto X5.here hx rfl (pc0 := 22) (pc' := 26) rfl (hb hby d1_22) (by decide) (by decide) h) ?_
        obtain ⟨fs, hr, hrun, hended, hW, hsame⟩ := X5.leave (v := some (.int (1 : Int32))) (fun h => by rw [Bd.returns] at h; cases h)
        refine own_mk ⟨_, _, retN X5 hx (t := .boolean) Bd.returns (by simp) (hb hby d1_26) hr, hrun, hended, _, _, rfl, ?_, ⟨_, rfl⟩, hW, hsame.mono (by decide) (by decide)⟩
        show Q1 a1 w_BREAK w_RETURN w_PAUSE h0 n0 _ T5.heap _
        rw [e5]
        exact ⟨by simp [hc4_2, hc11_4, hc18_6], N0, rfl⟩
      · refine own_by (f' := (mkF m 25 #[.val (.ref a1)] [])) (fun t h => Jvm.RoadKit.acmp (g := (mkF m 18 #[.val (.ref a1)] [(.ref w_PAUSE), (.ref a1)])) X5 hx rfl rfl rfl (pc0 := 18) (pc' := 25) (same := false) rfl (hb hby d1_18) rfl (decide_eq_false fun q => hc18_6 (Value.ref.inj q)) (by decide) (by decide) h) ?_
        refine own_by (f' := (mkF m 26 #[.val (.ref a1)] [(.int (0 : Int32))])) (fun t h => XS.iconst X5.here hx rfl (hb hby d1_25) h) ?_
        obtain ⟨fs, hr, hrun, hended, hW, hsame⟩ := X5.leave (v := some (.int (0 : Int32))) (fun h => by rw [Bd.returns] at h; cases h)
        refine own_mk ⟨_, _, retN X5 hx (t := .boolean) Bd.returns (by simp) (hb hby d1_26) hr, hrun, hended, _, _, rfl, ?_, ⟨_, rfl⟩, hW, hsame.mono (by decide) (by decide)⟩
        show Q1 a1 w_BREAK w_RETURN w_PAUSE h0 n0 _ T5.heap _
        rw [e5]
        exact ⟨by simp [hc4_2, hc11_4, hc18_6], N0, rfl⟩
theorem own_pn0 : plainName "com/example/lull/lull/tree/FlowEndsLoopPinLaw" = true := by first | (simp [plainName, overriddenIn]; done) | decide +kernel
theorem own_ef0 (m : MethodId) (x0 : Int32) : entryFrame m #[(.int x0)] maxLocals = mkF m 0 #[.val (.int x0), .unset, .unset, .unset] [] := by first | (simp [entryFrame, mkF, argsToLocals, Value.category, maxLocals]; done) | rfl
def Q0 (n0 : Nat) (v : Option Value) (h : Heap) (L : List Loc) : Prop := v = some (.int 1) ∧ Fr n0 L
set_option maxRecDepth 65536 in
set_option maxHeartbeats 40000000 in
theorem rm0 (l : Launch) (Z : State) (a0 : Array Value) (hw : ∀ d ∈ tables_1, d.before a0 Z = true) (ws : List Jvm.Cond) (p1 : Int32) (w_NEXT w_BREAK w_CONTINUE w_RETURN w_PAUSE : Addr) (h0 : Heap) (n0 : Nat) (Z0 : n0 ≤ h0.size) (S_NEXT : Sta Z h0 "com/example/lull/lull/tree/Flow" "NEXT" "Lcom/example/lull/lull/tree/Flow;" (.ref w_NEXT)) (S_BREAK : Sta Z h0 "com/example/lull/lull/tree/Flow" "BREAK" "Lcom/example/lull/lull/tree/Flow;" (.ref w_BREAK)) (S_CONTINUE : Sta Z h0 "com/example/lull/lull/tree/Flow" "CONTINUE" "Lcom/example/lull/lull/tree/Flow;" (.ref w_CONTINUE)) (S_RETURN : Sta Z h0 "com/example/lull/lull/tree/Flow" "RETURN" "Lcom/example/lull/lull/tree/Flow;" (.ref w_RETURN)) (S_PAUSE : Sta Z h0 "com/example/lull/lull/tree/Flow" "PAUSE" "Lcom/example/lull/lull/tree/Flow;" (.ref w_PAUSE)) (E_NEXT : Exa Z h0 w_NEXT "com/example/lull/lull/tree/Flow") (E_BREAK : Exa Z h0 w_BREAK "com/example/lull/lull/tree/Flow") (E_CONTINUE : Exa Z h0 w_CONTINUE "com/example/lull/lull/tree/Flow") (E_RETURN : Exa Z h0 w_RETURN "com/example/lull/lull/tree/Flow") (E_PAUSE : Exa Z h0 w_PAUSE "com/example/lull/lull/tree/Flow") (ne_NEXT_BREAK : ¬ (w_NEXT = w_BREAK)) (ne_NEXT_RETURN : ¬ (w_NEXT = w_RETURN)) (ne_NEXT_PAUSE : ¬ (w_NEXT = w_PAUSE)) (ne_CONTINUE_BREAK : ¬ (w_CONTINUE = w_BREAK)) (ne_CONTINUE_RETURN : ¬ (w_CONTINUE = w_RETURN)) (ne_CONTINUE_PAUSE : ¬ (w_CONTINUE = w_PAUSE)) :
    MetFree l x (head1 (Jvm.Cond.code x code maxLocals ret :: ws) room_1) (fun a U => a = #[(.int p1)] ∧ Z.Warmed39 U.vm ∧ U.heap = h0) (fun _ _ _ _ _ => True) (fun _ U o U' => ∃ v L, o = .returned v ∧ Q0 n0 v U'.heap L ∧ FrameEnd U o U' L room_1.cells room_1.slots) := by
  refine MetFree.of_bodySF (plainFor_of_name own_pn0) hisR ?_
  intro p e s m args below meth c s₁ Bd hml0 hP hK
  obtain ⟨rfl, hZ, hh⟩ := hP
  have hx := Bd.exec
  have hby := Bd.bytes
  have hml : c.maxLocals = 4 := hml0
  have hown : s.vm.findClass "com/example/lull/lull/tree/FlowEndsLoopPinLaw" = some m.cls := findClass_of_methodNamed Bd.named
  have hnm := (name_of_methodNamed Bd.named Bd.method).1
  have X0 : Stand p l e room_1 s m #[(.int p1)] below meth c s₁ [] 0 0 := Stand.of_body Bd
  have e0 : s₁.heap = h0 := by rw [← hh, Bd.state]; rfl
  have N0 := Fr.nil n0
  refine own_open (f := (mkF m 0 #[.val (.int p1), .unset, .unset, .unset] [])) (fun t k => castTop (own_ef0 m p1) k) ?_
  refine own_by (f' := (mkF m 1 #[.val (.int p1), .unset, .unset, .unset] [(.int p1)])) (fun t h => XS.iloadN X0.here hx rfl (hb hby at_0) rfl h) ?_
  refine own_by (f' := (mkF m 3 #[.val (.int p1), .unset, .unset, .unset] [(.int (2147483647 : Int32)), (.int p1)])) (fun t h => X0.ldcI hx hown (mvT hZ (hw _ (List.mem_of_getElem? (i := 0) rfl))) rfl (hb hby at_1) h) ?_
  refine own_by (f' := (mkF m 4 #[.val (.int p1), .unset, .unset, .unset] [(.int (p1 &&& (2147483647 : Int32)))])) (fun t h => XS.iand X0.here hx rfl (hb hby at_3) rfl h) ?_
  refine own_by (f' := (mkF m 5 #[.val (.int p1), .unset, .unset, .unset] [(.int (5 : Int32)), (.int (p1 &&& (2147483647 : Int32)))])) (fun t h => XS.iconst X0.here hx rfl (hb hby at_4) h) ?_
  refine own_by (f' := (mkF m 6 #[.val (.int p1), .unset, .unset, .unset] [(.int ((p1 &&& (2147483647 : Int32)) % (5 : Int32)))])) (fun t h => iremM X0 hx rfl (hb hby at_5) rfl (by decide) h) ?_
  refine own_by (f' := (mkF m 7 #[.val (.int p1), .val (.int ((p1 &&& (2147483647 : Int32)) % (5 : Int32))), .unset, .unset] [])) (fun t h => XS.istoreN X0.here hx rfl (hb hby at_6) rfl (l' := #[.val (.int p1), .val (.int ((p1 &&& (2147483647 : Int32)) % (5 : Int32))), .unset, .unset]) rfl h) ?_
  have hk := own_k p1
  generalize ((p1 &&& (2147483647 : Int32)) % (5 : Int32)) = k at hk ⊢
  rcases hk with rfl | rfl | rfl | rfl | rfl
  · refine own_by (f' := (mkF m 8 #[.val (.int p1), .val (.int (0 : Int32)), .unset, .unset] [(.int (0 : Int32))])) (fun t h => XS.iloadN X0.here hx rfl (hb hby at_7) rfl h) ?_
    refine own_by (f' := (mkF m 11 #[.val (.int p1), .val (.int (0 : Int32)), .unset, .unset] [])) (fun t h => XS.ifNo X0.here hx rfl (hb hby at_8) rfl (by decide) h) ?_
    obtain ⟨T1, X1, e1, st1⟩ := getS2 X0 hx hZ hown (host := "") (Or.inl (hw _ (List.mem_of_getElem? (i := 1) rfl))) Via.refl e0 S_NEXT (g := (mkF m 11 #[.val (.int p1), .val (.int (0 : Int32)), .unset, .unset] [])) rfl (hb hby at_11)
    refine own_by (f' := (mkF m 14 #[.val (.int p1), .val (.int (0 : Int32)), .unset, .unset] [(.ref w_NEXT)])) st1 ?_
    refine own_by (f' := (mkF m 15 #[.val (.int p1), .val (.int (0 : Int32)), .val (.ref w_NEXT), .unset] [])) (fun t h => XS.astoreN X1.here hx rfl (hb hby at_14) rfl rfl (l' := #[.val (.int p1), .val (.int (0 : Int32)), .val (.ref w_NEXT), .unset]) rfl h) ?_
    refine own_by (f' := (mkF m 16 #[.val (.int p1), .val (.int (0 : Int32)), .val (.ref w_NEXT), .unset] [(.int (0 : Int32))])) (fun t h => XS.iconst X1.here hx rfl (hb hby at_15) h) ?_
    refine own_by (f' := (mkF m 17 #[.val (.int p1), .val (.int (0 : Int32)), .val (.ref w_NEXT), .val (.int (0 : Int32))] [])) (fun t h => XS.istoreN X1.here hx rfl (hb hby at_16) rfl (l' := #[.val (.int p1), .val (.int (0 : Int32)), .val (.ref w_NEXT), .val (.int (0 : Int32))]) rfl h) ?_
    refine own_by (f' := (mkF m 68 #[.val (.int p1), .val (.int (0 : Int32)), .val (.ref w_NEXT), .val (.int (0 : Int32))] [])) (fun t h => XS.goto X1.here hx rfl (pc0 := 17) (pc' := 68) rfl (hb hby at_17) (by decide) (by decide) h) ?_
    refine own_by (f' := (mkF m 69 #[.val (.int p1), .val (.int (0 : Int32)), .val (.ref w_NEXT), .val (.int (0 : Int32))] [(.ref w_NEXT)])) (fun t h => XS.aloadN X1.here hx rfl (hb hby at_68) rfl rfl h) ?_
    obtain ⟨cq2, kq2, q2a, q2b, q2c⟩ := isOf hZ e1 E_NEXT
    obtain ⟨v2, _, ⟨T2, L2, k2, n2⟩, -, X2, ⟨Lc2, hQ2, l2, y2, z2⟩, st2⟩ := X1.virtualBack hx (y := (⟨"com/example/lull/lull/tree/Flow", "endsLoop", "()Z"⟩ : MethodName)) (z := (⟨"com/example/lull/lull/tree/Flow", "endsLoop", "()Z"⟩ : MethodName)) hown (mvT hZ (hw _ (List.mem_of_getElem? (i := 4) rfl))) (mvT hZ (hw _ (List.mem_of_getElem? (i := 5) rfl))) (notFace_of_selects (args := #[]) (mvT hZ (hw _ (List.mem_of_getElem? (i := 7) rfl)))) (mvT hZ (hw _ (List.mem_of_getElem? (i := 7) rfl))) (mvT hZ (hw _ (List.mem_of_getElem? (i := 6) rfl))) (by decide) (backOf (W := 0) (rm1 l Z a0 hw [] w_NEXT w_BREAK w_RETURN w_PAUSE h0 n0 Z0 S_BREAK S_RETURN S_PAUSE) hZ (hw _ (List.mem_of_getElem? (i := 8) rfl)) (hw _ (List.mem_of_getElem? (i := 2) rfl)) (by decide) (by decide)) q2a q2c (g := (mkF m 69 #[.val (.int p1), .val (.int (0 : Int32)), .val (.ref w_NEXT), .val (.int (0 : Int32))] [(.ref w_NEXT)])) rfl (by rw [hml]; rfl) (Steps.refl _) (argsL := []) (rest := []) (lenOf own_pd1 rfl) rfl (by show 2 * 0 + _ ≤ _; exact Nat.le_of_eq rfl) (hb hby at_69) (fun _ _ => ⟨rfl, e1, (by decide : 0 + 0 ≤ _), (by decide : 0 + 0 ≤ _)⟩)
    dsimp only [Pt.U, Pt.locs, Pt.cells, Pt.slots] at X2 l2 y2 z2 st2 hQ2
    subst l2 y2 z2
    obtain ⟨hv2, Nc2, e2⟩ := hQ2
    have N2 := Fr.app N0 Nc2
    obtain rfl : v2 = some (.int (0 : Int32)) := hv2.trans (by simp [ne_NEXT_BREAK, ne_NEXT_RETURN, ne_NEXT_PAUSE])
    refine own_by (f' := (mkF m 72 #[.val (.int p1), .val (.int (0 : Int32)), .val (.ref w_NEXT), .val (.int (0 : Int32))] [(.int (0 : Int32))])) (fun t h => st2.trans h) ?_
    refine own_by (f' := (mkF m 73 #[.val (.int p1), .val (.int (0 : Int32)), .val (.ref w_NEXT), .val (.int (0 : Int32))] [(.int (0 : Int32)), (.int (0 : Int32))])) (fun t h => XS.iloadN X2.here hx rfl (hb hby at_72) rfl h) ?_
    refine own_by (f' := (mkF m 76 #[.val (.int p1), .val (.int (0 : Int32)), .val (.ref w_NEXT), .val (.int (0 : Int32))] [])) (fun t h => XS.icmpNo X2.here hx rfl (hb hby at_73) rfl (by decide) h) ?_
    refine own_by (f' := (mkF m 77 #[.val (.int p1), .val (.int (0 : Int32)), .val (.ref w_NEXT), .val (.int (0 : Int32))] [(.int (1 : Int32))])) (fun t h => XS.iconst X2.here hx rfl (hb hby at_76) h) ?_
    refine own_by (f' := (mkF m 81 #[.val (.int p1), .val (.int (0 : Int32)), .val (.ref w_NEXT), .val (.int (0 : Int32))] [(.int (1 : Int32))])) (fun t h => XS.goto X2.here hx rfl (pc0 := 77) (pc' := 81) rfl (hb hby at_77) (by decide) (by decide) h) ?_
    obtain ⟨fs, hr, hrun, hended, hW, hsame⟩ := X2.leave (v := some (.int (1 : Int32))) (fun h => by rw [Bd.returns] at h; cases h)
    refine own_mk ⟨_, _, retN X2 hx (t := .boolean) Bd.returns (by simp) (hb hby at_81) hr, hrun, hended, _, _, rfl, ?_, ⟨_, rfl⟩, hW, hsame.mono (by decide) (by decide)⟩
    show Q0 n0 _ T2.heap _
    rw [e2]
    exact ⟨rfl, N2⟩
  · refine own_by (f' := (mkF m 8 #[.val (.int p1), .val (.int (1 : Int32)), .unset, .unset] [(.int (1 : Int32))])) (fun t h => XS.iloadN X0.here hx rfl (hb hby at_7) rfl h) ?_
    refine own_by (f' := (mkF m 20 #[.val (.int p1), .val (.int (1 : Int32)), .unset, .unset] [])) (fun t h => XS.ifYes X0.here hx rfl (pc0 := 8) (pc' := 20) rfl (hb hby at_8) rfl (by decide) (by decide) (by decide) h) ?_
    refine own_by (f' := (mkF m 21 #[.val (.int p1), .val (.int (1 : Int32)), .unset, .unset] [(.int (1 : Int32))])) (fun t h => XS.iloadN X0.here hx rfl (hb hby at_20) rfl h) ?_
    refine own_by (f' := (mkF m 22 #[.val (.int p1), .val (.int (1 : Int32)), .unset, .unset] [(.int (1 : Int32)), (.int (1 : Int32))])) (fun t h => XS.iconst X0.here hx rfl (hb hby at_21) h) ?_
    refine own_by (f' := (mkF m 25 #[.val (.int p1), .val (.int (1 : Int32)), .unset, .unset] [])) (fun t h => XS.icmpNo X0.here hx rfl (hb hby at_22) rfl (by decide) h) ?_
    obtain ⟨T3, X3, e3, st3⟩ := getS2 X0 hx hZ hown (host := "") (Or.inl (hw _ (List.mem_of_getElem? (i := 16) rfl))) Via.refl e0 S_BREAK (g := (mkF m 25 #[.val (.int p1), .val (.int (1 : Int32)), .unset, .unset] [])) rfl (hb hby at_25)
    refine own_by (f' := (mkF m 28 #[.val (.int p1), .val (.int (1 : Int32)), .unset, .unset] [(.ref w_BREAK)])) st3 ?_
    refine own_by (f' := (mkF m 29 #[.val (.int p1), .val (.int (1 : Int32)), .val (.ref w_BREAK), .unset] [])) (fun t h => XS.astoreN X3.here hx rfl (hb hby at_28) rfl rfl (l' := #[.val (.int p1), .val (.int (1 : Int32)), .val (.ref w_BREAK), .unset]) rfl h) ?_
    refine own_by (f' := (mkF m 30 #[.val (.int p1), .val (.int (1 : Int32)), .val (.ref w_BREAK), .unset] [(.int (1 : Int32))])) (fun t h => XS.iconst X3.here hx rfl (hb hby at_29) h) ?_
    refine own_by (f' := (mkF m 31 #[.val (.int p1), .val (.int (1 : Int32)), .val (.ref w_BREAK), .val (.int (1 : Int32))] [])) (fun t h => XS.istoreN X3.here hx rfl (hb hby at_30) rfl (l' := #[.val (.int p1), .val (.int (1 : Int32)), .val (.ref w_BREAK), .val (.int (1 : Int32))]) rfl h) ?_
    refine own_by (f' := (mkF m 68 #[.val (.int p1), .val (.int (1 : Int32)), .val (.ref w_BREAK), .val (.int (1 : Int32))] [])) (fun t h => XS.goto X3.here hx rfl (pc0 := 31) (pc' := 68) rfl (hb hby at_31) (by decide) (by decide) h) ?_
    refine own_by (f' := (mkF m 69 #[.val (.int p1), .val (.int (1 : Int32)), .val (.ref w_BREAK), .val (.int (1 : Int32))] [(.ref w_BREAK)])) (fun t h => XS.aloadN X3.here hx rfl (hb hby at_68) rfl rfl h) ?_
    obtain ⟨cq4, kq4, q4a, q4b, q4c⟩ := isOf hZ e3 E_BREAK
    obtain ⟨v4, _, ⟨T4, L4, k4, n4⟩, -, X4, ⟨Lc4, hQ4, l4, y4, z4⟩, st4⟩ := X3.virtualBack hx (y := (⟨"com/example/lull/lull/tree/Flow", "endsLoop", "()Z"⟩ : MethodName)) (z := (⟨"com/example/lull/lull/tree/Flow", "endsLoop", "()Z"⟩ : MethodName)) hown (mvT hZ (hw _ (List.mem_of_getElem? (i := 4) rfl))) (mvT hZ (hw _ (List.mem_of_getElem? (i := 5) rfl))) (notFace_of_selects (args := #[]) (mvT hZ (hw _ (List.mem_of_getElem? (i := 7) rfl)))) (mvT hZ (hw _ (List.mem_of_getElem? (i := 7) rfl))) (mvT hZ (hw _ (List.mem_of_getElem? (i := 6) rfl))) (by decide) (backOf (W := 0) (rm1 l Z a0 hw [] w_BREAK w_BREAK w_RETURN w_PAUSE h0 n0 Z0 S_BREAK S_RETURN S_PAUSE) hZ (hw _ (List.mem_of_getElem? (i := 8) rfl)) (hw _ (List.mem_of_getElem? (i := 2) rfl)) (by decide) (by decide)) q4a q4c (g := (mkF m 69 #[.val (.int p1), .val (.int (1 : Int32)), .val (.ref w_BREAK), .val (.int (1 : Int32))] [(.ref w_BREAK)])) rfl (by rw [hml]; rfl) (Steps.refl _) (argsL := []) (rest := []) (lenOf own_pd1 rfl) rfl (by show 2 * 0 + _ ≤ _; exact Nat.le_of_eq rfl) (hb hby at_69) (fun _ _ => ⟨rfl, e3, (by decide : 0 + 0 ≤ _), (by decide : 0 + 0 ≤ _)⟩)
    dsimp only [Pt.U, Pt.locs, Pt.cells, Pt.slots] at X4 l4 y4 z4 st4 hQ4
    subst l4 y4 z4
    obtain ⟨hv4, Nc4, e4⟩ := hQ4
    have N4 := Fr.app N0 Nc4
    obtain rfl : v4 = some (.int (1 : Int32)) := hv4.trans (by simp)
    refine own_by (f' := (mkF m 72 #[.val (.int p1), .val (.int (1 : Int32)), .val (.ref w_BREAK), .val (.int (1 : Int32))] [(.int (1 : Int32))])) (fun t h => st4.trans h) ?_
    refine own_by (f' := (mkF m 73 #[.val (.int p1), .val (.int (1 : Int32)), .val (.ref w_BREAK), .val (.int (1 : Int32))] [(.int (1 : Int32)), (.int (1 : Int32))])) (fun t h => XS.iloadN X4.here hx rfl (hb hby at_72) rfl h) ?_
    refine own_by (f' := (mkF m 76 #[.val (.int p1), .val (.int (1 : Int32)), .val (.ref w_BREAK), .val (.int (1 : Int32))] [])) (fun t h => XS.icmpNo X4.here hx rfl (hb hby at_73) rfl (by decide) h) ?_
    refine own_by (f' := (mkF m 77 #[.val (.int p1), .val (.int (1 : Int32)), .val (.ref w_BREAK), .val (.int (1 : Int32))] [(.int (1 : Int32))])) (fun t h => XS.iconst X4.here hx rfl (hb hby at_76) h) ?_
    refine own_by (f' := (mkF m 81 #[.val (.int p1), .val (.int (1 : Int32)), .val (.ref w_BREAK), .val (.int (1 : Int32))] [(.int (1 : Int32))])) (fun t h => XS.goto X4.here hx rfl (pc0 := 77) (pc' := 81) rfl (hb hby at_77) (by decide) (by decide) h) ?_
    obtain ⟨fs, hr, hrun, hended, hW, hsame⟩ := X4.leave (v := some (.int (1 : Int32))) (fun h => by rw [Bd.returns] at h; cases h)
    refine own_mk ⟨_, _, retN X4 hx (t := .boolean) Bd.returns (by simp) (hb hby at_81) hr, hrun, hended, _, _, rfl, ?_, ⟨_, rfl⟩, hW, hsame.mono (by decide) (by decide)⟩
    show Q0 n0 _ T4.heap _
    rw [e4]
    exact ⟨rfl, N4⟩
  · refine own_by (f' := (mkF m 8 #[.val (.int p1), .val (.int (2 : Int32)), .unset, .unset] [(.int (2 : Int32))])) (fun t h => XS.iloadN X0.here hx rfl (hb hby at_7) rfl h) ?_
    refine own_by (f' := (mkF m 20 #[.val (.int p1), .val (.int (2 : Int32)), .unset, .unset] [])) (fun t h => XS.ifYes X0.here hx rfl (pc0 := 8) (pc' := 20) rfl (hb hby at_8) rfl (by decide) (by decide) (by decide) h) ?_
    refine own_by (f' := (mkF m 21 #[.val (.int p1), .val (.int (2 : Int32)), .unset, .unset] [(.int (2 : Int32))])) (fun t h => XS.iloadN X0.here hx rfl (hb hby at_20) rfl h) ?_
    refine own_by (f' := (mkF m 22 #[.val (.int p1), .val (.int (2 : Int32)), .unset, .unset] [(.int (1 : Int32)), (.int (2 : Int32))])) (fun t h => XS.iconst X0.here hx rfl (hb hby at_21) h) ?_
    refine own_by (f' := (mkF m 34 #[.val (.int p1), .val (.int (2 : Int32)), .unset, .unset] [])) (fun t h => XS.icmpYes X0.here hx rfl (pc0 := 22) (pc' := 34) rfl (hb hby at_22) rfl (by decide) (by decide) (by decide) h) ?_
    refine own_by (f' := (mkF m 35 #[.val (.int p1), .val (.int (2 : Int32)), .unset, .unset] [(.int (2 : Int32))])) (fun t h => XS.iloadN X0.here hx rfl (hb hby at_34) rfl h) ?_
    refine own_by (f' := (mkF m 36 #[.val (.int p1), .val (.int (2 : Int32)), .unset, .unset] [(.int (2 : Int32)), (.int (2 : Int32))])) (fun t h => XS.iconst X0.here hx rfl (hb hby at_35) h) ?_
    refine own_by (f' := (mkF m 39 #[.val (.int p1), .val (.int (2 : Int32)), .unset, .unset] [])) (fun t h => XS.icmpNo X0.here hx rfl (hb hby at_36) rfl (by decide) h) ?_
    obtain ⟨T5, X5, e5, st5⟩ := getS2 X0 hx hZ hown (host := "") (Or.inl (hw _ (List.mem_of_getElem? (i := 18) rfl))) Via.refl e0 S_CONTINUE (g := (mkF m 39 #[.val (.int p1), .val (.int (2 : Int32)), .unset, .unset] [])) rfl (hb hby at_39)
    refine own_by (f' := (mkF m 42 #[.val (.int p1), .val (.int (2 : Int32)), .unset, .unset] [(.ref w_CONTINUE)])) st5 ?_
    refine own_by (f' := (mkF m 43 #[.val (.int p1), .val (.int (2 : Int32)), .val (.ref w_CONTINUE), .unset] [])) (fun t h => XS.astoreN X5.here hx rfl (hb hby at_42) rfl rfl (l' := #[.val (.int p1), .val (.int (2 : Int32)), .val (.ref w_CONTINUE), .unset]) rfl h) ?_
    refine own_by (f' := (mkF m 44 #[.val (.int p1), .val (.int (2 : Int32)), .val (.ref w_CONTINUE), .unset] [(.int (0 : Int32))])) (fun t h => XS.iconst X5.here hx rfl (hb hby at_43) h) ?_
    refine own_by (f' := (mkF m 45 #[.val (.int p1), .val (.int (2 : Int32)), .val (.ref w_CONTINUE), .val (.int (0 : Int32))] [])) (fun t h => XS.istoreN X5.here hx rfl (hb hby at_44) rfl (l' := #[.val (.int p1), .val (.int (2 : Int32)), .val (.ref w_CONTINUE), .val (.int (0 : Int32))]) rfl h) ?_
    refine own_by (f' := (mkF m 68 #[.val (.int p1), .val (.int (2 : Int32)), .val (.ref w_CONTINUE), .val (.int (0 : Int32))] [])) (fun t h => XS.goto X5.here hx rfl (pc0 := 45) (pc' := 68) rfl (hb hby at_45) (by decide) (by decide) h) ?_
    refine own_by (f' := (mkF m 69 #[.val (.int p1), .val (.int (2 : Int32)), .val (.ref w_CONTINUE), .val (.int (0 : Int32))] [(.ref w_CONTINUE)])) (fun t h => XS.aloadN X5.here hx rfl (hb hby at_68) rfl rfl h) ?_
    obtain ⟨cq6, kq6, q6a, q6b, q6c⟩ := isOf hZ e5 E_CONTINUE
    obtain ⟨v6, _, ⟨T6, L6, k6, n6⟩, -, X6, ⟨Lc6, hQ6, l6, y6, z6⟩, st6⟩ := X5.virtualBack hx (y := (⟨"com/example/lull/lull/tree/Flow", "endsLoop", "()Z"⟩ : MethodName)) (z := (⟨"com/example/lull/lull/tree/Flow", "endsLoop", "()Z"⟩ : MethodName)) hown (mvT hZ (hw _ (List.mem_of_getElem? (i := 4) rfl))) (mvT hZ (hw _ (List.mem_of_getElem? (i := 5) rfl))) (notFace_of_selects (args := #[]) (mvT hZ (hw _ (List.mem_of_getElem? (i := 7) rfl)))) (mvT hZ (hw _ (List.mem_of_getElem? (i := 7) rfl))) (mvT hZ (hw _ (List.mem_of_getElem? (i := 6) rfl))) (by decide) (backOf (W := 0) (rm1 l Z a0 hw [] w_CONTINUE w_BREAK w_RETURN w_PAUSE h0 n0 Z0 S_BREAK S_RETURN S_PAUSE) hZ (hw _ (List.mem_of_getElem? (i := 8) rfl)) (hw _ (List.mem_of_getElem? (i := 2) rfl)) (by decide) (by decide)) q6a q6c (g := (mkF m 69 #[.val (.int p1), .val (.int (2 : Int32)), .val (.ref w_CONTINUE), .val (.int (0 : Int32))] [(.ref w_CONTINUE)])) rfl (by rw [hml]; rfl) (Steps.refl _) (argsL := []) (rest := []) (lenOf own_pd1 rfl) rfl (by show 2 * 0 + _ ≤ _; exact Nat.le_of_eq rfl) (hb hby at_69) (fun _ _ => ⟨rfl, e5, (by decide : 0 + 0 ≤ _), (by decide : 0 + 0 ≤ _)⟩)
    dsimp only [Pt.U, Pt.locs, Pt.cells, Pt.slots] at X6 l6 y6 z6 st6 hQ6
    subst l6 y6 z6
    obtain ⟨hv6, Nc6, e6⟩ := hQ6
    have N6 := Fr.app N0 Nc6
    obtain rfl : v6 = some (.int (0 : Int32)) := hv6.trans (by simp [ne_CONTINUE_BREAK, ne_CONTINUE_RETURN, ne_CONTINUE_PAUSE])
    refine own_by (f' := (mkF m 72 #[.val (.int p1), .val (.int (2 : Int32)), .val (.ref w_CONTINUE), .val (.int (0 : Int32))] [(.int (0 : Int32))])) (fun t h => st6.trans h) ?_
    refine own_by (f' := (mkF m 73 #[.val (.int p1), .val (.int (2 : Int32)), .val (.ref w_CONTINUE), .val (.int (0 : Int32))] [(.int (0 : Int32)), (.int (0 : Int32))])) (fun t h => XS.iloadN X6.here hx rfl (hb hby at_72) rfl h) ?_
    refine own_by (f' := (mkF m 76 #[.val (.int p1), .val (.int (2 : Int32)), .val (.ref w_CONTINUE), .val (.int (0 : Int32))] [])) (fun t h => XS.icmpNo X6.here hx rfl (hb hby at_73) rfl (by decide) h) ?_
    refine own_by (f' := (mkF m 77 #[.val (.int p1), .val (.int (2 : Int32)), .val (.ref w_CONTINUE), .val (.int (0 : Int32))] [(.int (1 : Int32))])) (fun t h => XS.iconst X6.here hx rfl (hb hby at_76) h) ?_
    refine own_by (f' := (mkF m 81 #[.val (.int p1), .val (.int (2 : Int32)), .val (.ref w_CONTINUE), .val (.int (0 : Int32))] [(.int (1 : Int32))])) (fun t h => XS.goto X6.here hx rfl (pc0 := 77) (pc' := 81) rfl (hb hby at_77) (by decide) (by decide) h) ?_
    obtain ⟨fs, hr, hrun, hended, hW, hsame⟩ := X6.leave (v := some (.int (1 : Int32))) (fun h => by rw [Bd.returns] at h; cases h)
    refine own_mk ⟨_, _, retN X6 hx (t := .boolean) Bd.returns (by simp) (hb hby at_81) hr, hrun, hended, _, _, rfl, ?_, ⟨_, rfl⟩, hW, hsame.mono (by decide) (by decide)⟩
    show Q0 n0 _ T6.heap _
    rw [e6]
    exact ⟨rfl, N6⟩
  · refine own_by (f' := (mkF m 8 #[.val (.int p1), .val (.int (3 : Int32)), .unset, .unset] [(.int (3 : Int32))])) (fun t h => XS.iloadN X0.here hx rfl (hb hby at_7) rfl h) ?_
    refine own_by (f' := (mkF m 20 #[.val (.int p1), .val (.int (3 : Int32)), .unset, .unset] [])) (fun t h => XS.ifYes X0.here hx rfl (pc0 := 8) (pc' := 20) rfl (hb hby at_8) rfl (by decide) (by decide) (by decide) h) ?_
    refine own_by (f' := (mkF m 21 #[.val (.int p1), .val (.int (3 : Int32)), .unset, .unset] [(.int (3 : Int32))])) (fun t h => XS.iloadN X0.here hx rfl (hb hby at_20) rfl h) ?_
    refine own_by (f' := (mkF m 22 #[.val (.int p1), .val (.int (3 : Int32)), .unset, .unset] [(.int (1 : Int32)), (.int (3 : Int32))])) (fun t h => XS.iconst X0.here hx rfl (hb hby at_21) h) ?_
    refine own_by (f' := (mkF m 34 #[.val (.int p1), .val (.int (3 : Int32)), .unset, .unset] [])) (fun t h => XS.icmpYes X0.here hx rfl (pc0 := 22) (pc' := 34) rfl (hb hby at_22) rfl (by decide) (by decide) (by decide) h) ?_
    refine own_by (f' := (mkF m 35 #[.val (.int p1), .val (.int (3 : Int32)), .unset, .unset] [(.int (3 : Int32))])) (fun t h => XS.iloadN X0.here hx rfl (hb hby at_34) rfl h) ?_
    refine own_by (f' := (mkF m 36 #[.val (.int p1), .val (.int (3 : Int32)), .unset, .unset] [(.int (2 : Int32)), (.int (3 : Int32))])) (fun t h => XS.iconst X0.here hx rfl (hb hby at_35) h) ?_
    refine own_by (f' := (mkF m 48 #[.val (.int p1), .val (.int (3 : Int32)), .unset, .unset] [])) (fun t h => XS.icmpYes X0.here hx rfl (pc0 := 36) (pc' := 48) rfl (hb hby at_36) rfl (by decide) (by decide) (by decide) h) ?_
    refine own_by (f' := (mkF m 49 #[.val (.int p1), .val (.int (3 : Int32)), .unset, .unset] [(.int (3 : Int32))])) (fun t h => XS.iloadN X0.here hx rfl (hb hby at_48) rfl h) ?_
    refine own_by (f' := (mkF m 50 #[.val (.int p1), .val (.int (3 : Int32)), .unset, .unset] [(.int (3 : Int32)), (.int (3 : Int32))])) (fun t h => XS.iconst X0.here hx rfl (hb hby at_49) h) ?_
    refine own_by (f' := (mkF m 53 #[.val (.int p1), .val (.int (3 : Int32)), .unset, .unset] [])) (fun t h => XS.icmpNo X0.here hx rfl (hb hby at_50) rfl (by decide) h) ?_
    obtain ⟨T7, X7, e7, st7⟩ := getS2 X0 hx hZ hown (host := "") (Or.inl (hw _ (List.mem_of_getElem? (i := 15) rfl))) Via.refl e0 S_RETURN (g := (mkF m 53 #[.val (.int p1), .val (.int (3 : Int32)), .unset, .unset] [])) rfl (hb hby at_53)
    refine own_by (f' := (mkF m 56 #[.val (.int p1), .val (.int (3 : Int32)), .unset, .unset] [(.ref w_RETURN)])) st7 ?_
    refine own_by (f' := (mkF m 57 #[.val (.int p1), .val (.int (3 : Int32)), .val (.ref w_RETURN), .unset] [])) (fun t h => XS.astoreN X7.here hx rfl (hb hby at_56) rfl rfl (l' := #[.val (.int p1), .val (.int (3 : Int32)), .val (.ref w_RETURN), .unset]) rfl h) ?_
    refine own_by (f' := (mkF m 58 #[.val (.int p1), .val (.int (3 : Int32)), .val (.ref w_RETURN), .unset] [(.int (1 : Int32))])) (fun t h => XS.iconst X7.here hx rfl (hb hby at_57) h) ?_
    refine own_by (f' := (mkF m 59 #[.val (.int p1), .val (.int (3 : Int32)), .val (.ref w_RETURN), .val (.int (1 : Int32))] [])) (fun t h => XS.istoreN X7.here hx rfl (hb hby at_58) rfl (l' := #[.val (.int p1), .val (.int (3 : Int32)), .val (.ref w_RETURN), .val (.int (1 : Int32))]) rfl h) ?_
    refine own_by (f' := (mkF m 68 #[.val (.int p1), .val (.int (3 : Int32)), .val (.ref w_RETURN), .val (.int (1 : Int32))] [])) (fun t h => XS.goto X7.here hx rfl (pc0 := 59) (pc' := 68) rfl (hb hby at_59) (by decide) (by decide) h) ?_
    refine own_by (f' := (mkF m 69 #[.val (.int p1), .val (.int (3 : Int32)), .val (.ref w_RETURN), .val (.int (1 : Int32))] [(.ref w_RETURN)])) (fun t h => XS.aloadN X7.here hx rfl (hb hby at_68) rfl rfl h) ?_
    obtain ⟨cq8, kq8, q8a, q8b, q8c⟩ := isOf hZ e7 E_RETURN
    obtain ⟨v8, _, ⟨T8, L8, k8, n8⟩, -, X8, ⟨Lc8, hQ8, l8, y8, z8⟩, st8⟩ := X7.virtualBack hx (y := (⟨"com/example/lull/lull/tree/Flow", "endsLoop", "()Z"⟩ : MethodName)) (z := (⟨"com/example/lull/lull/tree/Flow", "endsLoop", "()Z"⟩ : MethodName)) hown (mvT hZ (hw _ (List.mem_of_getElem? (i := 4) rfl))) (mvT hZ (hw _ (List.mem_of_getElem? (i := 5) rfl))) (notFace_of_selects (args := #[]) (mvT hZ (hw _ (List.mem_of_getElem? (i := 7) rfl)))) (mvT hZ (hw _ (List.mem_of_getElem? (i := 7) rfl))) (mvT hZ (hw _ (List.mem_of_getElem? (i := 6) rfl))) (by decide) (backOf (W := 0) (rm1 l Z a0 hw [] w_RETURN w_BREAK w_RETURN w_PAUSE h0 n0 Z0 S_BREAK S_RETURN S_PAUSE) hZ (hw _ (List.mem_of_getElem? (i := 8) rfl)) (hw _ (List.mem_of_getElem? (i := 2) rfl)) (by decide) (by decide)) q8a q8c (g := (mkF m 69 #[.val (.int p1), .val (.int (3 : Int32)), .val (.ref w_RETURN), .val (.int (1 : Int32))] [(.ref w_RETURN)])) rfl (by rw [hml]; rfl) (Steps.refl _) (argsL := []) (rest := []) (lenOf own_pd1 rfl) rfl (by show 2 * 0 + _ ≤ _; exact Nat.le_of_eq rfl) (hb hby at_69) (fun _ _ => ⟨rfl, e7, (by decide : 0 + 0 ≤ _), (by decide : 0 + 0 ≤ _)⟩)
    dsimp only [Pt.U, Pt.locs, Pt.cells, Pt.slots] at X8 l8 y8 z8 st8 hQ8
    subst l8 y8 z8
    obtain ⟨hv8, Nc8, e8⟩ := hQ8
    have N8 := Fr.app N0 Nc8
    obtain rfl : v8 = some (.int (1 : Int32)) := hv8.trans (by simp)
    refine own_by (f' := (mkF m 72 #[.val (.int p1), .val (.int (3 : Int32)), .val (.ref w_RETURN), .val (.int (1 : Int32))] [(.int (1 : Int32))])) (fun t h => st8.trans h) ?_
    refine own_by (f' := (mkF m 73 #[.val (.int p1), .val (.int (3 : Int32)), .val (.ref w_RETURN), .val (.int (1 : Int32))] [(.int (1 : Int32)), (.int (1 : Int32))])) (fun t h => XS.iloadN X8.here hx rfl (hb hby at_72) rfl h) ?_
    refine own_by (f' := (mkF m 76 #[.val (.int p1), .val (.int (3 : Int32)), .val (.ref w_RETURN), .val (.int (1 : Int32))] [])) (fun t h => XS.icmpNo X8.here hx rfl (hb hby at_73) rfl (by decide) h) ?_
    refine own_by (f' := (mkF m 77 #[.val (.int p1), .val (.int (3 : Int32)), .val (.ref w_RETURN), .val (.int (1 : Int32))] [(.int (1 : Int32))])) (fun t h => XS.iconst X8.here hx rfl (hb hby at_76) h) ?_
    refine own_by (f' := (mkF m 81 #[.val (.int p1), .val (.int (3 : Int32)), .val (.ref w_RETURN), .val (.int (1 : Int32))] [(.int (1 : Int32))])) (fun t h => XS.goto X8.here hx rfl (pc0 := 77) (pc' := 81) rfl (hb hby at_77) (by decide) (by decide) h) ?_
    obtain ⟨fs, hr, hrun, hended, hW, hsame⟩ := X8.leave (v := some (.int (1 : Int32))) (fun h => by rw [Bd.returns] at h; cases h)
    refine own_mk ⟨_, _, retN X8 hx (t := .boolean) Bd.returns (by simp) (hb hby at_81) hr, hrun, hended, _, _, rfl, ?_, ⟨_, rfl⟩, hW, hsame.mono (by decide) (by decide)⟩
    show Q0 n0 _ T8.heap _
    rw [e8]
    exact ⟨rfl, N8⟩
  · refine own_by (f' := (mkF m 8 #[.val (.int p1), .val (.int (4 : Int32)), .unset, .unset] [(.int (4 : Int32))])) (fun t h => XS.iloadN X0.here hx rfl (hb hby at_7) rfl h) ?_
    refine own_by (f' := (mkF m 20 #[.val (.int p1), .val (.int (4 : Int32)), .unset, .unset] [])) (fun t h => XS.ifYes X0.here hx rfl (pc0 := 8) (pc' := 20) rfl (hb hby at_8) rfl (by decide) (by decide) (by decide) h) ?_
    refine own_by (f' := (mkF m 21 #[.val (.int p1), .val (.int (4 : Int32)), .unset, .unset] [(.int (4 : Int32))])) (fun t h => XS.iloadN X0.here hx rfl (hb hby at_20) rfl h) ?_
    refine own_by (f' := (mkF m 22 #[.val (.int p1), .val (.int (4 : Int32)), .unset, .unset] [(.int (1 : Int32)), (.int (4 : Int32))])) (fun t h => XS.iconst X0.here hx rfl (hb hby at_21) h) ?_
    refine own_by (f' := (mkF m 34 #[.val (.int p1), .val (.int (4 : Int32)), .unset, .unset] [])) (fun t h => XS.icmpYes X0.here hx rfl (pc0 := 22) (pc' := 34) rfl (hb hby at_22) rfl (by decide) (by decide) (by decide) h) ?_
    refine own_by (f' := (mkF m 35 #[.val (.int p1), .val (.int (4 : Int32)), .unset, .unset] [(.int (4 : Int32))])) (fun t h => XS.iloadN X0.here hx rfl (hb hby at_34) rfl h) ?_
    refine own_by (f' := (mkF m 36 #[.val (.int p1), .val (.int (4 : Int32)), .unset, .unset] [(.int (2 : Int32)), (.int (4 : Int32))])) (fun t h => XS.iconst X0.here hx rfl (hb hby at_35) h) ?_
    refine own_by (f' := (mkF m 48 #[.val (.int p1), .val (.int (4 : Int32)), .unset, .unset] [])) (fun t h => XS.icmpYes X0.here hx rfl (pc0 := 36) (pc' := 48) rfl (hb hby at_36) rfl (by decide) (by decide) (by decide) h) ?_
    refine own_by (f' := (mkF m 49 #[.val (.int p1), .val (.int (4 : Int32)), .unset, .unset] [(.int (4 : Int32))])) (fun t h => XS.iloadN X0.here hx rfl (hb hby at_48) rfl h) ?_
    refine own_by (f' := (mkF m 50 #[.val (.int p1), .val (.int (4 : Int32)), .unset, .unset] [(.int (3 : Int32)), (.int (4 : Int32))])) (fun t h => XS.iconst X0.here hx rfl (hb hby at_49) h) ?_
    refine own_by (f' := (mkF m 62 #[.val (.int p1), .val (.int (4 : Int32)), .unset, .unset] [])) (fun t h => XS.icmpYes X0.here hx rfl (pc0 := 50) (pc' := 62) rfl (hb hby at_50) rfl (by decide) (by decide) (by decide) h) ?_
    obtain ⟨T9, X9, e9, st9⟩ := getS2 X0 hx hZ hown (host := "") (Or.inl (hw _ (List.mem_of_getElem? (i := 17) rfl))) Via.refl e0 S_PAUSE (g := (mkF m 62 #[.val (.int p1), .val (.int (4 : Int32)), .unset, .unset] [])) rfl (hb hby at_62)
    refine own_by (f' := (mkF m 65 #[.val (.int p1), .val (.int (4 : Int32)), .unset, .unset] [(.ref w_PAUSE)])) st9 ?_
    refine own_by (f' := (mkF m 66 #[.val (.int p1), .val (.int (4 : Int32)), .val (.ref w_PAUSE), .unset] [])) (fun t h => XS.astoreN X9.here hx rfl (hb hby at_65) rfl rfl (l' := #[.val (.int p1), .val (.int (4 : Int32)), .val (.ref w_PAUSE), .unset]) rfl h) ?_
    refine own_by (f' := (mkF m 67 #[.val (.int p1), .val (.int (4 : Int32)), .val (.ref w_PAUSE), .unset] [(.int (1 : Int32))])) (fun t h => XS.iconst X9.here hx rfl (hb hby at_66) h) ?_
    refine own_by (f' := (mkF m 68 #[.val (.int p1), .val (.int (4 : Int32)), .val (.ref w_PAUSE), .val (.int (1 : Int32))] [])) (fun t h => XS.istoreN X9.here hx rfl (hb hby at_67) rfl (l' := #[.val (.int p1), .val (.int (4 : Int32)), .val (.ref w_PAUSE), .val (.int (1 : Int32))]) rfl h) ?_
    refine own_by (f' := (mkF m 69 #[.val (.int p1), .val (.int (4 : Int32)), .val (.ref w_PAUSE), .val (.int (1 : Int32))] [(.ref w_PAUSE)])) (fun t h => XS.aloadN X9.here hx rfl (hb hby at_68) rfl rfl h) ?_
    obtain ⟨cq10, kq10, q10a, q10b, q10c⟩ := isOf hZ e9 E_PAUSE
    obtain ⟨v10, _, ⟨T10, L10, k10, n10⟩, -, X10, ⟨Lc10, hQ10, l10, y10, z10⟩, st10⟩ := X9.virtualBack hx (y := (⟨"com/example/lull/lull/tree/Flow", "endsLoop", "()Z"⟩ : MethodName)) (z := (⟨"com/example/lull/lull/tree/Flow", "endsLoop", "()Z"⟩ : MethodName)) hown (mvT hZ (hw _ (List.mem_of_getElem? (i := 4) rfl))) (mvT hZ (hw _ (List.mem_of_getElem? (i := 5) rfl))) (notFace_of_selects (args := #[]) (mvT hZ (hw _ (List.mem_of_getElem? (i := 7) rfl)))) (mvT hZ (hw _ (List.mem_of_getElem? (i := 7) rfl))) (mvT hZ (hw _ (List.mem_of_getElem? (i := 6) rfl))) (by decide) (backOf (W := 0) (rm1 l Z a0 hw [] w_PAUSE w_BREAK w_RETURN w_PAUSE h0 n0 Z0 S_BREAK S_RETURN S_PAUSE) hZ (hw _ (List.mem_of_getElem? (i := 8) rfl)) (hw _ (List.mem_of_getElem? (i := 2) rfl)) (by decide) (by decide)) q10a q10c (g := (mkF m 69 #[.val (.int p1), .val (.int (4 : Int32)), .val (.ref w_PAUSE), .val (.int (1 : Int32))] [(.ref w_PAUSE)])) rfl (by rw [hml]; rfl) (Steps.refl _) (argsL := []) (rest := []) (lenOf own_pd1 rfl) rfl (by show 2 * 0 + _ ≤ _; exact Nat.le_of_eq rfl) (hb hby at_69) (fun _ _ => ⟨rfl, e9, (by decide : 0 + 0 ≤ _), (by decide : 0 + 0 ≤ _)⟩)
    dsimp only [Pt.U, Pt.locs, Pt.cells, Pt.slots] at X10 l10 y10 z10 st10 hQ10
    subst l10 y10 z10
    obtain ⟨hv10, Nc10, e10⟩ := hQ10
    have N10 := Fr.app N0 Nc10
    obtain rfl : v10 = some (.int (1 : Int32)) := hv10.trans (by simp)
    refine own_by (f' := (mkF m 72 #[.val (.int p1), .val (.int (4 : Int32)), .val (.ref w_PAUSE), .val (.int (1 : Int32))] [(.int (1 : Int32))])) (fun t h => st10.trans h) ?_
    refine own_by (f' := (mkF m 73 #[.val (.int p1), .val (.int (4 : Int32)), .val (.ref w_PAUSE), .val (.int (1 : Int32))] [(.int (1 : Int32)), (.int (1 : Int32))])) (fun t h => XS.iloadN X10.here hx rfl (hb hby at_72) rfl h) ?_
    refine own_by (f' := (mkF m 76 #[.val (.int p1), .val (.int (4 : Int32)), .val (.ref w_PAUSE), .val (.int (1 : Int32))] [])) (fun t h => XS.icmpNo X10.here hx rfl (hb hby at_73) rfl (by decide) h) ?_
    refine own_by (f' := (mkF m 77 #[.val (.int p1), .val (.int (4 : Int32)), .val (.ref w_PAUSE), .val (.int (1 : Int32))] [(.int (1 : Int32))])) (fun t h => XS.iconst X10.here hx rfl (hb hby at_76) h) ?_
    refine own_by (f' := (mkF m 81 #[.val (.int p1), .val (.int (4 : Int32)), .val (.ref w_PAUSE), .val (.int (1 : Int32))] [(.int (1 : Int32))])) (fun t h => XS.goto X10.here hx rfl (pc0 := 77) (pc' := 81) rfl (hb hby at_77) (by decide) (by decide) h) ?_
    obtain ⟨fs, hr, hrun, hended, hW, hsame⟩ := X10.leave (v := some (.int (1 : Int32))) (fun h => by rw [Bd.returns] at h; cases h)
    refine own_mk ⟨_, _, retN X10 hx (t := .boolean) Bd.returns (by simp) (hb hby at_81) hr, hrun, hended, _, _, rfl, ?_, ⟨_, rfl⟩, hW, hsame.mono (by decide) (by decide)⟩
    show Q0 n0 _ T10.heap _
    rw [e10]
    exact ⟨rfl, N10⟩
set_option maxRecDepth 65536 in
set_option maxHeartbeats 40000000 in
theorem comes_1 {Post : Tables → Env → Array Value → State → Outcome → State → Prop} (hpost : ∀ tb e args s v u, (limb_1_1.after args s (.returned v) u = true ∧ limb_1_2.after args s (.returned v) u = true ∧ True) → FrameEnd s (.returned v) u (Jvm.fieldLocs frame_1_writes args s ++ Jvm.arrayLocs frame_1_arrays args s ++ Jvm.staticLocs frame_1_statics s) 0 0 → Post tb e args s (.returned v) u) :
    ArmFor flags0 classFile x code maxLocals ret World_1 tables_1 room_1 Calls_1 rest_1 Pre_1 Post := by
  intro l hfl _ _ p e ha hc hk s m args below hf hA hF happ hP
  obtain ⟨hcalls, hrest, hpre⟩ := hP
  obtain ⟨-, -, -, hnamed, -, -, -, hat⟩ := (Spec.applies_iff hf).mp happ
  obtain ⟨hg, hn⟩ := and_e (Cond.before_iff.mp (show (Jvm.Cond.and given_1 narrow_1).before args s = true from hpre))
  obtain ⟨hcount, hg⟩ := and_e hg
  have hk0 := hg
  obtain ⟨w0, rfl⟩ : ∃ w0 : Value, args = #[w0] := by
    have hs : args.size = 1 := by simpa [Cond.value, given_1] using hcount
    obtain ⟨L⟩ := args
    match L, hs with
    | [w0], _ => exact ⟨w0, rfl⟩
  have hw := fun d (hd : d ∈ tables_1) => atoms_spec (ws := Jvm.Cond.code x code maxLocals ret :: tables_1) hat d (List.mem_cons_of_mem _ hd)
  obtain ⟨i0, ei0⟩ := is_v hk0
  obtain rfl : w0 = (.int i0) := Option.some.inj ei0
  obtain ⟨hn0, hn⟩ := and_e hn
  obtain ⟨hn1, hn⟩ := and_e hn
  obtain ⟨hn2, hn⟩ := and_e hn
  obtain ⟨hn3, hn⟩ := and_e hn
  obtain ⟨hn4, hn⟩ := and_e hn
  obtain ⟨hn5, hn⟩ := and_e hn
  obtain ⟨hn6, hn⟩ := and_e hn
  obtain ⟨hn7, hn⟩ := and_e hn
  obtain ⟨hn8, hn⟩ := and_e hn
  have hn9 := hn
  obtain ⟨w_NEXT, ev_NEXT⟩ := exa_v hn0
  have E_NEXT := Exa.start ev_NEXT hn0
  have S_NEXT := Sta.start ev_NEXT (Or.inr ⟨(hw _ (List.mem_of_getElem? (i := 2) rfl)), (hw _ (List.mem_of_getElem? (i := 3) rfl))⟩)
  obtain ⟨w_BREAK, ev_BREAK⟩ := exa_v hn1
  have E_BREAK := Exa.start ev_BREAK hn1
  have S_BREAK := Sta.start ev_BREAK (Or.inr ⟨(hw _ (List.mem_of_getElem? (i := 2) rfl)), (hw _ (List.mem_of_getElem? (i := 10) rfl))⟩)
  obtain ⟨w_RETURN, ev_RETURN⟩ := exa_v hn4
  have E_RETURN := Exa.start ev_RETURN hn4
  have S_RETURN := Sta.start ev_RETURN (Or.inr ⟨(hw _ (List.mem_of_getElem? (i := 2) rfl)), (hw _ (List.mem_of_getElem? (i := 12) rfl))⟩)
  obtain ⟨w_PAUSE, ev_PAUSE⟩ := exa_v hn6
  have E_PAUSE := Exa.start ev_PAUSE hn6
  have S_PAUSE := Sta.start ev_PAUSE (Or.inr ⟨(hw _ (List.mem_of_getElem? (i := 2) rfl)), (hw _ (List.mem_of_getElem? (i := 14) rfl))⟩)
  obtain ⟨w_CONTINUE, ev_CONTINUE⟩ := exa_v hn8
  have E_CONTINUE := Exa.start ev_CONTINUE hn8
  have S_CONTINUE := Sta.start ev_CONTINUE (Or.inr ⟨(hw _ (List.mem_of_getElem? (i := 2) rfl)), (hw _ (List.mem_of_getElem? (i := 19) rfl))⟩)
  have F_ordinal_NEXT := own_fld ev_NEXT hn2
  have F_ordinal_BREAK := own_fld ev_BREAK hn3
  have F_ordinal_RETURN := own_fld ev_RETURN hn5
  have F_ordinal_PAUSE := own_fld ev_PAUSE hn7
  have F_ordinal_CONTINUE := own_fld ev_CONTINUE hn9
  have ne_NEXT_BREAK : ¬ (w_NEXT = w_BREAK) := Fld.ne F_ordinal_NEXT F_ordinal_BREAK (by decide)
  have ne_NEXT_RETURN : ¬ (w_NEXT = w_RETURN) := Fld.ne F_ordinal_NEXT F_ordinal_RETURN (by decide)
  have ne_NEXT_PAUSE : ¬ (w_NEXT = w_PAUSE) := Fld.ne F_ordinal_NEXT F_ordinal_PAUSE (by decide)
  have ne_CONTINUE_BREAK : ¬ (w_CONTINUE = w_BREAK) := Fld.ne F_ordinal_CONTINUE F_ordinal_BREAK (by decide)
  have ne_CONTINUE_RETURN : ¬ (w_CONTINUE = w_RETURN) := Fld.ne F_ordinal_CONTINUE F_ordinal_RETURN (by decide)
  have ne_CONTINUE_PAUSE : ¬ (w_CONTINUE = w_PAUSE) := Fld.ne F_ordinal_CONTINUE F_ordinal_PAUSE (by decide)
  obtain ⟨n, o, h1, h2, h3, _, L, rfl, ⟨rfl, N⟩, hq⟩ := rm0 l s _ hw tables_1 i0 w_NEXT w_BREAK w_CONTINUE w_RETURN w_PAUSE s.heap s.heap.size (Nat.le_refl _) S_NEXT S_BREAK S_CONTINUE S_RETURN S_PAUSE E_NEXT E_BREAK E_CONTINUE E_RETURN E_PAUSE ne_NEXT_BREAK ne_NEXT_RETURN ne_NEXT_PAUSE ne_CONTINUE_BREAK ne_CONTINUE_RETURN ne_CONTINUE_PAUSE p e ha hc hk s m _ below hf ((Spec.applies_iff_loose hf).mp happ).1 ⟨rfl, State.Warmed39.refl s, rfl⟩ trivial
  refine ⟨n, _, h1, h2, h3, hpost _ _ _ _ _ _ ⟨Cond.after_iff.mpr rfl, Cond.after_iff.mpr (eq_i res_at (Term.int_eval (1)) rfl), trivial⟩ ⟨hq.1, hq.2.1, (hq.2.2.sift fun y hy => Or.inr (N y hy)).mono (by decide) (by decide)⟩⟩
theorem main_1_1 : Claimed_1_1 := comes_1 fun _ _ _ _ _ _ h hF => ⟨h.1, hF⟩
theorem main_1_2 : Claimed_1_2 := comes_1 fun _ _ _ _ _ _ h hF => ⟨h.2.1, hF⟩
end Jvm.Pilot.@@N@@
namespace Jvm.Pilot.@@N@@
open Jvm Jvm.ClassFile Sem Op Lib Jvm.Free Jvm.Stand Jvm.Pilot.@@N@@.Jvm.D
/-! MADE BY PROGRAM (witnessworld.py) out of the Statement's table words and the real class files: 12 classes; the members and pool entries that the words name. The judged class is class 1, her method 1. -/
namespace start1
open Jvm.ClassFile
def u (s : String) : CpInfo := .utf8 (stringToUtf16 s)
/-- a pool by its gaps: so many unusable entries, then the entry; so many at the end -/
def gap : Nat → List CpInfo → List CpInfo
  | 0, r => r
  | n + 1, r => .unusable :: gap n r
def poolList (es : List (Nat × CpInfo)) (last : Nat) : List CpInfo := es.foldr (fun e r => gap e.1 (e.2 :: r)) (gap last [])
def pool (es : List (Nat × CpInfo)) (last : Nat) : Array CpInfo := ⟨poolList es last⟩
def fileOf (pool : Array CpInfo) (this : Nat) (attrs : Array Attribute := #[]) (ms : Array MethodInfo := #[]) (fl : Nat := 33) (sup : Nat := 0) (ifs : Array Nat := #[]) (fds : Array FieldInfo := #[]) : ClassFile where
  minorVersion := 0
  majorVersion := 65
  constantPool := pool
  accessFlags := fl
  thisClass := this
  superClass := sup
  interfaces := ifs
  fields := fds
  methods := ms
  attributes := attrs
def plain (name : String) (sup : Option ClassId) : Class where
  name := name
  kind := .ordinary
  loader := none
  accessFlags := 33
  super := sup
  interfaces := #[]
  cf := none
  fields := #[]
  methods := #[]
  instanceTypes := #[]
  staticTypes := #[]
  resolved := #[]
  callSites := []
  init := .initialized
  statics := none
  mirror := none

def pool0 : Array CpInfo := pool [(5, u "<init>"), (0, u "()V"), (1, .class_ 10), (1, u "java/lang/Object")] 113

def k0m0 : Method := { name := "<init>", desc := "()V", sig := { parameters := [], returnType := none }, accessFlags := 1, code := none }
/-- java/lang/Object -/
def k0 : Class := { plain "java/lang/Object" none with
  accessFlags := 33
  interfaces := #[]
  cf := some (fileOf pool0 8 #[] #[{ accessFlags := 1, nameIndex := 5, descriptorIndex := 6, attributes := #[] }] 33 0 #[] #[])
  fields := #[]
  methods := #[k0m0]
  instanceTypes := #[]
  staticTypes := #[]
  resolved := Array.replicate 124 none
  statics := none }

def pool1 : Array CpInfo := pool [(2, .class_ 4), (1, u "java/lang/Object"), (0, u "<init>"), (0, u "()V"), (0, .integer 2147483647), (0, .fieldref 9 10), (0, .class_ 11), (0, .nameAndType 12 13), (0, u "com/example/lull/lull/tree/Flow"), (0, u "NEXT"), (0, u "Lcom/example/lull/lull/tree/Flow;"), (0, .fieldref 9 15), (0, .nameAndType 16 13), (0, u "BREAK"), (0, .fieldref 9 18), (0, .nameAndType 19 13), (0, u "CONTINUE"), (0, .fieldref 9 21), (0, .nameAndType 22 13), (0, u "RETURN"), (0, .fieldref 9 24), (0, .nameAndType 25 13), (0, u "PAUSE"), (0, .methodref 9 27), (0, .nameAndType 28 29), (0, u "endsLoop"), (0, u "()Z"), (0, .class_ 31), (0, u "com/example/lull/lull/tree/FlowEndsLoopPinLaw"), (2, u "law"), (0, u "(I)Z")] 3

def k1m0 : Method := { name := "<init>", desc := "()V", sig := { parameters := [], returnType := none }, accessFlags := 1, code := none }
def k1c1 : Code := { maxStack := 2, maxLocals := 4, code := code, exceptionTable := #[], attributes := #[] }
def k1m1 : Method := { name := "law", desc := "(I)Z", sig := { parameters := [.int], returnType := some .boolean }, accessFlags := 9, code := some k1c1 }
/-- com/example/lull/lull/tree/FlowEndsLoopPinLaw -/
def k1 : Class := { plain "com/example/lull/lull/tree/FlowEndsLoopPinLaw" (some 0) with
  accessFlags := 49
  interfaces := #[]
  cf := some (fileOf pool1 30 #[] #[{ accessFlags := 1, nameIndex := 5, descriptorIndex := 6, attributes := #[] }, { accessFlags := 9, nameIndex := 34, descriptorIndex := 35, attributes := #[] }] 49 2 #[] #[])
  fields := #[]
  methods := #[k1m0, k1m1]
  instanceTypes := #[]
  staticTypes := #[]
  resolved := Array.replicate 39 none
  statics := none }

def pool2 : Array CpInfo := pool [(1, .class_ 2), (0, u "java/lang/constant/Constable"), (0, .class_ 4), (0, u "java/lang/Object")] 6

/-- java/lang/constant/Constable -/
def k2 : Class := { plain "java/lang/constant/Constable" (some 0) with
  accessFlags := 1537
  interfaces := #[]
  cf := some (fileOf pool2 1 #[] #[] 1537 3 #[] #[])
  fields := #[]
  methods := #[]
  instanceTypes := #[]
  staticTypes := #[]
  resolved := Array.replicate 11 none
  statics := none }

def pool3 : Array CpInfo := pool [(1, .class_ 2), (0, u "java/lang/Comparable"), (0, .class_ 4), (0, u "java/lang/Object")] 7

/-- java/lang/Comparable -/
def k3 : Class := { plain "java/lang/Comparable" (some 0) with
  accessFlags := 1537
  interfaces := #[]
  cf := some (fileOf pool3 1 #[] #[] 1537 3 #[] #[])
  fields := #[]
  methods := #[]
  instanceTypes := #[]
  staticTypes := #[]
  resolved := Array.replicate 12 none
  statics := none }

def pool4 : Array CpInfo := pool [(1, .class_ 2), (0, u "java/io/Serializable"), (0, .class_ 4), (0, u "java/lang/Object")] 2

/-- java/io/Serializable -/
def k4 : Class := { plain "java/io/Serializable" (some 0) with
  accessFlags := 1537
  interfaces := #[]
  cf := some (fileOf pool4 1 #[] #[] 1537 3 #[] #[])
  fields := #[]
  methods := #[]
  instanceTypes := #[]
  staticTypes := #[]
  resolved := Array.replicate 7 none
  statics := none }

def pool5 : Array CpInfo := pool [(2, .class_ 4), (1, u "java/lang/Enum"), (0, u "name"), (0, u "Ljava/lang/String;"), (2, u "ordinal"), (0, u "I"), (1, .class_ 14), (1, u "java/lang/Object"), (4, u "hash"), (86, .class_ 108), (1, u "java/lang/Enum$EnumDesc"), (2, .class_ 112), (0, u "java/lang/constant/Constable"), (0, .class_ 114), (0, u "java/lang/Comparable"), (0, .class_ 116), (0, u "java/io/Serializable")] 87

/-- java/lang/Enum -/
def k5 : Class := { plain "java/lang/Enum" (some 0) with
  accessFlags := 1057
  interfaces := #[2, 3, 4]
  cf := some (fileOf pool5 2 #[.nestMembers #[106]] #[] 1057 12 #[111, 113, 115] #[{ accessFlags := 18, nameIndex := 5, descriptorIndex := 6, attributes := #[] }, { accessFlags := 18, nameIndex := 9, descriptorIndex := 10, attributes := #[] }, { accessFlags := 2, nameIndex := 19, descriptorIndex := 10, attributes := #[] }])
  fields := #[{ name := "name", type := (.object "java/lang/String"), accessFlags := 18, slot := 0, constantValue := 0 }, { name := "ordinal", type := .int, accessFlags := 18, slot := 1, constantValue := 0 }, { name := "hash", type := .int, accessFlags := 2, slot := 2, constantValue := 0 }]
  methods := #[]
  instanceTypes := #[(.object "java/lang/String"), .int, .int]
  staticTypes := #[]
  resolved := Array.replicate 204 none
  statics := none }

def pool6 : Array CpInfo := pool [(1, .class_ 2), (0, u "com/example/lull/lull/tree/Flow"), (2, u "NEXT"), (0, u "Lcom/example/lull/lull/tree/Flow;"), (0, .fieldref 1 8), (0, .nameAndType 9 6), (0, u "BREAK"), (2, u "CONTINUE"), (0, .fieldref 1 14), (0, .nameAndType 15 6), (0, u "RETURN"), (0, .fieldref 1 17), (0, .nameAndType 18 6), (0, u "PAUSE"), (2, u "$VALUES"), (0, u "[Lcom/example/lull/lull/tree/Flow;"), (6, .class_ 31), (1, u "java/lang/Enum"), (23, u "endsLoop"), (0, u "()Z")] 7

def k6c0 : Code := { maxStack := 2, maxLocals := 1, code := prog_132_method_4_code, exceptionTable := #[], attributes := #[] }
def k6m0 : Method := { name := "endsLoop", desc := "()Z", sig := { parameters := [], returnType := some .boolean }, accessFlags := 0, code := some k6c0 }
/-- com/example/lull/lull/tree/Flow -/
def k6 : Class := { plain "com/example/lull/lull/tree/Flow" (some 5) with
  accessFlags := 16433
  interfaces := #[]
  cf := some (fileOf pool6 1 #[] #[{ accessFlags := 0, nameIndex := 55, descriptorIndex := 56, attributes := #[] }] 16433 29 #[] #[{ accessFlags := 16409, nameIndex := 5, descriptorIndex := 6, attributes := #[] }, { accessFlags := 16409, nameIndex := 9, descriptorIndex := 6, attributes := #[] }, { accessFlags := 16409, nameIndex := 12, descriptorIndex := 6, attributes := #[] }, { accessFlags := 16409, nameIndex := 15, descriptorIndex := 6, attributes := #[] }, { accessFlags := 16409, nameIndex := 18, descriptorIndex := 6, attributes := #[] }, { accessFlags := 4122, nameIndex := 21, descriptorIndex := 22, attributes := #[] }])
  fields := #[{ name := "NEXT", type := (.object "com/example/lull/lull/tree/Flow"), accessFlags := 16409, slot := 0, constantValue := 0 }, { name := "BREAK", type := (.object "com/example/lull/lull/tree/Flow"), accessFlags := 16409, slot := 1, constantValue := 0 }, { name := "CONTINUE", type := (.object "com/example/lull/lull/tree/Flow"), accessFlags := 16409, slot := 2, constantValue := 0 }, { name := "RETURN", type := (.object "com/example/lull/lull/tree/Flow"), accessFlags := 16409, slot := 3, constantValue := 0 }, { name := "PAUSE", type := (.object "com/example/lull/lull/tree/Flow"), accessFlags := 16409, slot := 4, constantValue := 0 }, { name := "$VALUES", type := (.array (.object "com/example/lull/lull/tree/Flow")), accessFlags := 4122, slot := 5, constantValue := 0 }]
  methods := #[k6m0]
  instanceTypes := #[(.object "java/lang/String"), .int, .int]
  staticTypes := #[(.object "com/example/lull/lull/tree/Flow"), (.object "com/example/lull/lull/tree/Flow"), (.object "com/example/lull/lull/tree/Flow"), (.object "com/example/lull/lull/tree/Flow"), (.object "com/example/lull/lull/tree/Flow"), (.array (.object "com/example/lull/lull/tree/Flow"))]
  resolved := Array.replicate 64 none
  statics := some 0 }

def pool7 : Array CpInfo := pool [(1, u "java/lang/Cloneable"), (0, .class_ 1), (0, u "java/lang/Object"), (0, .class_ 3)] 3

/-- java/lang/Cloneable -/
def k7 : Class := { plain "java/lang/Cloneable" (some 0) with
  accessFlags := 1537
  interfaces := #[]
  cf := some (fileOf pool7 2 #[] #[] 1537 4 #[] #[])
  fields := #[]
  methods := #[]
  instanceTypes := #[]
  staticTypes := #[]
  resolved := Array.replicate 8 none
  statics := none }

/-- the primitive byte -/
def k8 : Class := { plain "byte" none with kind := .primitive 'B', accessFlags := 0x411 }
/-- [B -/
def k9 : Class := { plain "[B" (some 0) with kind := .array 8 .byte, interfaces := #[7, 4], accessFlags := 1041 }

/-- the primitive int -/
def k10 : Class := { plain "int" none with kind := .primitive 'I', accessFlags := 0x411 }
/-- [I -/
def k11 : Class := { plain "[I" (some 0) with kind := .array 10 .int, interfaces := #[7, 4], accessFlags := 1041 }

def heap : Heap := #[{ cls := 6, slots := #[.ref 1, .ref 2, .ref 3, .ref 4, .ref 5, .null], vm := .statics 6 },
  { cls := 6, slots := #[.null, .int 0, .int 0], vm := .none },
  { cls := 6, slots := #[.null, .int 1, .int 0], vm := .none },
  { cls := 6, slots := #[.null, .int 2, .int 0], vm := .none },
  { cls := 6, slots := #[.null, .int 3, .int 0], vm := .none },
  { cls := 6, slots := #[.null, .int 4, .int 0], vm := .none }]
def classes : Array Class := #[k0, k1, k2, k3, k4, k5, k6, k7, k8, k9, k10, k11]
def interned : List (Array UInt16 × Addr) := []
def slotsUsed : Nat := 21
def theMethod : MethodId := ⟨1, 1⟩
def args0 : Array Value := #[.int 5]
def aboutOver (below : List Frame) : State where
  vm := { classes := classes, interned := interned.toArray }
  heap := heap
  slotsUsed := slotsUsed
  threads := #[{ frames := .invoking theMethod args0 :: below }]
def below0 : List Frame := [.native { method := ⟨0, 0⟩, args := #[] }]
def about1 : State := aboutOver below0
def p0 : Program := .bare "" "" ""
def e0 : Env := launch0.env 0 0 0
theorem w_frames : about1.frames = Frame.invoking theMethod args0 :: below0 := rfl
set_option maxRecDepth 65536 in
theorem w_args : argsFit about1.vm theMethod args0 = true := by decide +kernel
set_option maxRecDepth 65536 in
theorem w_heap : heapFits about1 = true := by decide +kernel
set_option maxRecDepth 65536 in
theorem w_runnable : about1.curStatus? = some .runnable := by decide +kernel
set_option maxRecDepth 65536 in
theorem w_alone : about1.alone = true := by decide +kernel
set_option maxRecDepth 65536 in
theorem w_named : about1.methodNamed? x = some theMethod := by decide +kernel
set_option maxRecDepth 65536 in
theorem w_hears : about1.hears theMethod below0 = true := by decide +kernel
set_option maxRecDepth 65536 in
theorem w_ripe : about1.ripe theMethod args0 below0 = true := by decide +kernel
theorem w_running : about1.status = .running := rfl
set_option maxRecDepth 65536 in
theorem w_room : about1.hasRoom e0.platform room_1 = true :=
  launch0.hasRoom_least _ room_1 (by decide +kernel) (by decide +kernel) (by decide +kernel) (by decide +kernel) (by decide +kernel) (by decide +kernel)
theorem allAtoms_all (ts : List Jvm.Cond) (a : Array Jvm.Value) (st : Jvm.State) : (allAtoms ts).before a st = ts.all (fun c => c.before a st) := by
  induction ts with
  | nil => rfl
  | cons c t ih =>
    show (Jvm.Cond.and c (allAtoms t)).before a st = _
    rw [Jvm.Cond.before_and, ih, List.all_cons]
def words1 : List Jvm.Cond := Jvm.Cond.code x code maxLocals ret :: tables_1
/-- a 'code' word, met by the world's own term for the bytes: nothing is compared byte by byte -/
theorem code_word {y : MethodName} {bytes : ByteArray} {mx : Nat} {rt : Option FieldType} {a : Array Value} {s : State} {m : MethodId} {meth : Method} {c : Code} (h1 : s.methodNamed? y = some m) (h2 : s.vm.method? m = some meth) (h3 : meth.code = some c) (h4 : c.code = bytes)
    (h5 : (c.maxLocals == mx && c.exceptionTable.isEmpty && decide (c.maxStack ≤ mostOperands) && decide (meth.sig.returnType = rt) && !meth.locks && decide (parseMethodDescriptor y.desc = some meth.sig)) = true) : (Jvm.Cond.code y bytes mx rt).before a s = true := by
  simp only [Bool.and_eq_true, beq_iff_eq, Bool.not_eq_true', decide_eq_true_eq] at h5
  obtain ⟨⟨⟨⟨⟨g1, g2⟩, g3⟩, g4⟩, g5⟩, g6⟩ := h5
  simp [Cond.before, Cond.holds, Cond.value, h1, h2, h3, h4, g1, g2, g3, g4, g5, g6]
def isCode : Jvm.Cond → Bool
  | .code _ _ _ _ => true
  | _ => false
theorem all_split {L : List Jvm.Cond} {P : Jvm.Cond → Bool} (h1 : L.all (fun c => isCode c || P c) = true) (h2 : ∀ c ∈ L.filter isCode, P c = true) : L.all P = true := by
  refine List.all_eq_true.mpr fun c hc => ?_
  have h := List.all_eq_true.mp h1 c hc
  rcases Bool.eq_false_or_eq_true (isCode c) with hi | hi
  · exact h2 c (List.mem_filter.mpr ⟨hc, hi⟩)
  · simpa [hi] using h
set_option maxRecDepth 65536 in
theorem w_c0 : (Jvm.Cond.code x code maxLocals ret).before args0 about1 = true := code_word (m := ⟨1, 1⟩) (meth := k1m1) (c := k1c1) (by decide +kernel) rfl rfl rfl (by decide +kernel)
set_option maxRecDepth 65536 in
theorem w_c1 : (Jvm.Cond.code ({ cls := "com/example/lull/lull/tree/Flow", name := "endsLoop", desc := "()Z" } : Jvm.MethodName) prog_132_method_4_code (1 : Nat) (Option.some Jvm.ClassFile.FieldType.boolean)).before args0 about1 = true := code_word (m := ⟨6, 0⟩) (meth := k6m0) (c := k6c0) (by decide +kernel) rfl rfl rfl (by decide +kernel)
def codes1 : List Jvm.Cond := [Jvm.Cond.code x code maxLocals ret, Jvm.Cond.code ({ cls := "com/example/lull/lull/tree/Flow", name := "endsLoop", desc := "()Z" } : Jvm.MethodName) prog_132_method_4_code (1 : Nat) (Option.some Jvm.ClassFile.FieldType.boolean)]
set_option maxRecDepth 65536 in
theorem codes_eq : words1.filter isCode = codes1 := rfl
theorem w_codes : ∀ c ∈ words1.filter isCode, c.before args0 about1 = true := by
  rw [codes_eq]
  intro c hc
  simp only [codes1, List.mem_cons, List.not_mem_nil, or_false] at hc
  rcases hc with rfl | rfl
  · exact w_c0
  · exact w_c1
set_option maxRecDepth 65536 in
theorem w_t1 : words1.all (fun c => isCode c || c.before args0 about1) = true := by decide +kernel
theorem w_tables : (allAtoms (Jvm.Cond.code x code maxLocals ret :: tables_1)).before args0 about1 = true := by
  rw [allAtoms_all]
  show words1.all (fun c => c.before args0 about1) = true
  refine all_split ?_ w_codes
  rw [w_t1]
set_option maxRecDepth 65536 in
theorem w_case : (Jvm.Cond.and given_1 narrow_1).before args0 about1 = true := by decide +kernel
theorem w_applies : (headSpec (Jvm.Cond.code x code maxLocals ret :: tables_1) room_1).applies x e0.platform about1 = true :=
  (Spec.applies_iff w_frames).mpr ⟨w_running, w_runnable, w_alone, w_named, w_hears, w_ripe, w_room, w_tables⟩
theorem atStart : AtStart classFile x code maxLocals ret World_1 tables_1 room_1 Calls_1 rest_1 Pre_1 launch0 p0 e0 about1 theMethod args0 below0 :=
  ⟨lists_1, trivial, launch0.admits_env _ _ _, launch0.least_env, fairChoices_fair.cas, fairChoices_fair.clock, w_frames, w_args, w_heap, w_applies, trivial, trivial, w_case⟩
end start1
theorem witness_1 : WitnessClaimed_1 := ⟨start1.p0, start1.e0, start1.about1, start1.theMethod, start1.args0, start1.below0, start1.atStart⟩
end Jvm.Pilot.@@N@@
