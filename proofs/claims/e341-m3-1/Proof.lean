import JvmDerived
import JvmDerived.Pilot.@@N@@Statement
import JvmDerived.Pilot.@@N@@Code
set_option linter.unusedVariables false
set_option linter.unusedSimpArgs false
namespace Jvm.RoadKit
open Sem ClassFile Op Lib Jvm.Stand Jvm.Free Jvm.LawKit
section New
variable {p : Program} {l : Launch} {e : Env} {R : Room} {s : State} {m : MethodId} {args : Array Value} {below : List Frame} {meth : Method} {c : Code} {T : State} {locs : List Loc} {cells slots : Nat}
theorem retI (X : Stand p l e R s m args below meth c T locs cells slots) (hx : p.tables.exec = Jvm.exec) {pc : Nat} {Ls : Array Slot} {z : Int32} {rest : List Value} (hret : meth.sig.returnType = some .int) (hd : decode c.code pc = .ok (.ireturn, 1)) {fs : List Frame}
    (hl : ∀ (f : JFrame) (acts : List Action), f.method = m → f.locked = none → f.entered = [] → (doReturn e (T.setTop f) acts (some (.int z))).1 = T.setFrames fs) : Steps p.tables e below (T.setTop (mkF m pc Ls (.int z :: rest))) (T.setFrames fs) := by
  have hm' : T.vm.method? m = some meth := X.method'
  have hn : narrow .int (.int z) = .int z := rfl
  show Steps p.tables e below (T.setTop { method := m, pc := pc, locals := Ls, stack := _ :: rest, locked := none }) _
  jvm_step X.here [X.here.top, hx, hd, hm', hret, hn]
  first | (intro acts; rw [hl _ acts rfl rfl rfl]) | rw [hl _ _ rfl rfl rfl]
  exact Steps.refl _
end New
end Jvm.RoadKit
namespace Jvm.Pilot.@@N@@
open Jvm Jvm.ClassFile Sem Op Lib Jvm.Free Jvm.Stand Jvm.LawKit Jvm.RoadKit Bundle Jvm.Pilot.@@N@@.Jvm.D

/-- the run that stands at the frame f over T ends as Q says -/
def own_Go (p : Program) (e : Env) (below : List Frame) (s : State) (Q : Option Value → Heap → List Loc → Prop) (rc rs : Nat) (T : State) (f : JFrame) : Prop :=
  ∃ s₂ o, Steps p.tables e below (T.setTop f) s₂ ∧ s₂.status = .running ∧ Ended s₂ below o ∧ ∃ v L, o = .returned v ∧ Q v s₂.heap L ∧ FrameEnd s o s₂ L rc rs
theorem own_by {p : Program} {e : Env} {below : List Frame} {s : State} {Q : Option Value → Heap → List Loc → Prop} {rc rs : Nat} {T T' : State} {f f' : JFrame} (k : ∀ t, Steps p.tables e below (T'.setTop f') t → Steps p.tables e below (T.setTop f) t) (h : own_Go p e below s Q rc rs T' f') : own_Go p e below s Q rc rs T f := by
  obtain ⟨s₂, o, st, r⟩ := h
  exact ⟨s₂, o, k _ st, r⟩
theorem own_mk {p : Program} {e : Env} {below : List Frame} {s : State} {Q : Option Value → Heap → List Loc → Prop} {rc rs : Nat} {T : State} {f : JFrame} (h : ∃ s₂ o, Steps p.tables e below (T.setTop f) s₂ ∧ s₂.status = .running ∧ Ended s₂ below o ∧ ∃ v L, o = .returned v ∧ Q v s₂.heap L ∧ FrameEnd s o s₂ L rc rs) : own_Go p e below s Q rc rs T f := h
theorem own_open {p : Program} {e : Env} {below : List Frame} {s : State} {Q : Option Value → Heap → List Loc → Prop} {rc rs : Nat} {T : State} {f f0 : JFrame} (k : ∀ t, Steps p.tables e below (T.setTop f) t → Steps p.tables e below (T.setTop f0) t) (h : own_Go p e below s Q rc rs T f) : ∃ s₂ o, Steps p.tables e below (T.setTop f0) s₂ ∧ s₂.status = .running ∧ Ended s₂ below o ∧ ∃ v L, o = .returned v ∧ Q v s₂.heap L ∧ FrameEnd s o s₂ L rc rs := by
  obtain ⟨s₂, o, st, r⟩ := h
  exact ⟨s₂, o, k _ st, r⟩
theorem own_eqI {args : Array Value} {s : State} {a : Term} {k : Int32} (h : (Cond.eq a (.int k)).value args s none s [] = some true) : a.eval args s none [] s = some (.int k) := by
  obtain ⟨x, y, h1, h2, -, K⟩ := cmp_v (Or.inl h)
  have e : y = .int k := (Option.some.inj h2).symm
  subst e
  obtain ⟨z, rfl⟩ := K
  have q : z = k := by simpa [Cond.value, h1, h2] using h
  rw [h1, q]
theorem own_extt {h h' h'' : Heap} (E : Ext h h') (E' : Ext h' h'') : Ext h h'' := ⟨Nat.le_trans E.1 E'.1, fun a c q => E'.2 a c (E.2 a c q)⟩
theorem own_extw {h h' h'' : Heap} {a : Addr} {sl : Nat} {v : Value} (E : Ext h h') (W : Wr h' h'' a sl v) (g : h.size ≤ a) : Ext h h'' := by
  refine ⟨Nat.le_trans E.1 (Nat.le_of_eq W.size.symm), fun b c q => ?_⟩
  have ne : b ≠ a := Nat.ne_of_lt (Nat.lt_of_lt_of_le (Array.getElem?_eq_some_iff.mp q).1 g)
  obtain ⟨cell, -, -, -, rfl⟩ := W
  rw [Array.getElem?_setIfInBounds_ne (Ne.symm ne)]
  exact E.2 b c q
theorem own_eqL {args : Array Value} {s : State} {a : Term} {k : Int64} (h : (Cond.eq a (.long k)).value args s none s [] = some true) : a.eval args s none [] s = some (.long k) := by
  obtain ⟨x, y, h1, h2, -, K⟩ := cmp_v (Or.inl h)
  have e : y = .long k := (Option.some.inj h2).symm
  subst e
  obtain ⟨z, rfl⟩ := K
  have q : z = k := by simpa [Cond.value, h1, h2] using h
  rw [h1, q]
theorem own_eqR {args : Array Value} {s : State} {a b : Term} {r : Addr} (h : (Cond.eq a b).value args s none s [] = some true) (hb : b.eval args s none [] s = some (.ref r)) : a.eval args s none [] s = some (.ref r) := by
  obtain ⟨x, y, h1, h2, -, K⟩ := cmp_v (Or.inl h)
  cases hb.symm.trans h2
  rcases ref_cases K.2 with rfl | ⟨q, rfl⟩
  · simp [Cond.value, h1, h2] at h
  · have e : q = r := by simpa [Cond.value, h1, h2] using h
    rw [h1, e]
theorem own_cmp0 {x y : Int64} (h : x = y) : XT.cmpL x y = 0 := by subst h; unfold XT.cmpL; rw [if_neg (by simp), if_pos rfl]
theorem own_cmp1 {x y : Int64} (h : ¬ x = y) : ¬ XT.cmpL x y = 0 := by
  unfold XT.cmpL
  by_cases q : y < x
  · rw [if_pos q]; decide
  · rw [if_neg q, if_neg h]; decide
theorem own_fldL {args : Array Value} {s : State} {t : Term} {C n d : String} {x : Addr} {k : Int64} (ev : t.eval args s none [] s = some (.ref x)) (h : (Cond.eq (.field t C n d) (.long k)).value args s none s [] = some true) : Fld s s.heap x C n d (.long k) := Fld.start ((fld_at ev).symm.trans (own_eqL h))
theorem own_fld {args : Array Value} {s : State} {t : Term} {C n d : String} {x : Addr} {k : Int32} (ev : t.eval args s none [] s = some (.ref x)) (h : (Cond.eq (.field t C n d) (.int k)).value args s none s [] = some true) : Fld s s.heap x C n d (.int k) := Fld.start ((fld_at ev).symm.trans (own_eqI h))
/-- the run that stands at the frame f over T ends as Q says -/
def own_GoW (p : Program) (e : Env) (below : List Frame) (s : State) (Q : Option Value → Heap → List Loc → Prop) (rc rs : Nat) (T : State) (f : JFrame) : Prop :=
  ∃ s₂ o, Steps p.tables e below (T.setTop f) s₂ ∧ s₂.status = .running ∧ Ended s₂ below o ∧ ∃ v L, o = .returned v ∧ Q v s₂.heap L ∧ ReturnedEndW s o s₂ L rc rs
theorem own_byW {p : Program} {e : Env} {below : List Frame} {s : State} {Q : Option Value → Heap → List Loc → Prop} {rc rs : Nat} {T T' : State} {f f' : JFrame} (k : ∀ t, Steps p.tables e below (T'.setTop f') t → Steps p.tables e below (T.setTop f) t) (h : own_GoW p e below s Q rc rs T' f') : own_GoW p e below s Q rc rs T f := by
  obtain ⟨s₂, o, st, r⟩ := h
  exact ⟨s₂, o, k _ st, r⟩
theorem own_mkW {p : Program} {e : Env} {below : List Frame} {s : State} {Q : Option Value → Heap → List Loc → Prop} {rc rs : Nat} {T : State} {f : JFrame} (h : ∃ s₂ o, Steps p.tables e below (T.setTop f) s₂ ∧ s₂.status = .running ∧ Ended s₂ below o ∧ ∃ v L, o = .returned v ∧ Q v s₂.heap L ∧ ReturnedEndW s o s₂ L rc rs) : own_GoW p e below s Q rc rs T f := h
theorem own_openW {p : Program} {e : Env} {below : List Frame} {s : State} {Q : Option Value → Heap → List Loc → Prop} {rc rs : Nat} {T : State} {f f0 : JFrame} (k : ∀ t, Steps p.tables e below (T.setTop f) t → Steps p.tables e below (T.setTop f0) t) (h : own_GoW p e below s Q rc rs T f) : ∃ s₂ o, Steps p.tables e below (T.setTop f0) s₂ ∧ s₂.status = .running ∧ Ended s₂ below o ∧ ∃ v L, o = .returned v ∧ Q v s₂.heap L ∧ ReturnedEndW s o s₂ L rc rs := by
  obtain ⟨s₂, o, st, r⟩ := h
  exact ⟨s₂, o, k _ st, r⟩

theorem own_mod (x y : Int32) (d : Int) (hy : y.toInt = d) (hd : 0 < d) : 0 ≤ ((x &&& 2147483647) % y).toInt ∧ ((x &&& 2147483647) % y).toInt < d := by
  have h0 : 0 ≤ (x &&& 2147483647).toInt := (c_andS x 2147483647).2.2 (by decide)
  rw [(c_irem _ y d hy).1 h0]
  exact ⟨Int.emod_nonneg _ (by omega), Int.emod_lt_of_pos _ hd⟩
theorem own_k (x : Int32) : (x &&& 2147483647) % 11 = 0 ∨ (x &&& 2147483647) % 11 = 1 ∨ (x &&& 2147483647) % 11 = 2 ∨ (x &&& 2147483647) % 11 = 3 ∨ (x &&& 2147483647) % 11 = 4 ∨ (x &&& 2147483647) % 11 = 5 ∨ (x &&& 2147483647) % 11 = 6 ∨ (x &&& 2147483647) % 11 = 7 ∨ (x &&& 2147483647) % 11 = 8 ∨ (x &&& 2147483647) % 11 = 9 ∨ (x &&& 2147483647) % 11 = 10 := by
  obtain ⟨h1, h2⟩ := own_mod x 11 11 rfl (by decide)
  generalize (x &&& 2147483647) % 11 = k at h1 h2 ⊢
  simp only [← Int32.toInt_inj, Int32.reduceToInt]
  omega
theorem own_strS {Z : State} {a0 : Array Value} (hw : ∀ d ∈ tables_1, d.before a0 Z = true) : ∀ a ∈ Bundle.stringAtoms, a.before a0 Z = true := by
  intro d hd
  simp only [Bundle.stringAtoms, List.mem_cons, List.not_mem_nil, or_false] at hd
  rcases hd with rfl | rfl | rfl | rfl | rfl | rfl | rfl
  · exact hw _ (List.mem_of_getElem? (i := 36) rfl)
  · exact hw _ (List.mem_of_getElem? (i := 37) rfl)
  · exact hw _ (List.mem_of_getElem? (i := 38) rfl)
  · exact hw _ (List.mem_of_getElem? (i := 39) rfl)
  · exact hw _ (List.mem_of_getElem? (i := 40) rfl)
  · exact hw _ (List.mem_of_getElem? (i := 41) rfl)
  · exact hw _ (List.mem_of_getElem? (i := 42) rfl)
theorem d1_0 : decode prog_96_method_5_code 0 = .ok (.aload_n 0, 1) := by decide +kernel
theorem d1_1 : decode prog_96_method_5_code 1 = .ok (.getstatic 28, 3) := by decide +kernel
theorem d1_4 : decode prog_96_method_5_code 4 = .ok (.if_acmp .eq 17, 3) := by decide +kernel
theorem d1_7 : decode prog_96_method_5_code 7 = .ok (.aload_n 0, 1) := by decide +kernel
theorem d1_8 : decode prog_96_method_5_code 8 = .ok (.getstatic 31, 3) := by decide +kernel
theorem d1_11 : decode prog_96_method_5_code 11 = .ok (.if_acmp .eq 10, 3) := by decide +kernel
theorem d1_14 : decode prog_96_method_5_code 14 = .ok (.aload_n 0, 1) := by decide +kernel
theorem d1_15 : decode prog_96_method_5_code 15 = .ok (.getstatic 34, 3) := by decide +kernel
theorem d1_18 : decode prog_96_method_5_code 18 = .ok (.if_acmp .ne 7, 3) := by decide +kernel
theorem d1_21 : decode prog_96_method_5_code 21 = .ok (.iconst 1, 1) := by decide +kernel
theorem d1_22 : decode prog_96_method_5_code 22 = .ok (.goto 4, 3) := by decide +kernel
theorem d1_25 : decode prog_96_method_5_code 25 = .ok (.iconst 0, 1) := by decide +kernel
theorem d1_26 : decode prog_96_method_5_code 26 = .ok (.ireturn, 1) := by decide +kernel
theorem own_pn1 : plainName "com/example/subscript/subscript/Nodes$Operator" = true := by first | (simp [plainName, overriddenIn]; done) | decide +kernel
theorem own_ef1 (m : MethodId) (x0 : Addr) : entryFrame m #[(.ref x0)] 1 = mkF m 0 #[.val (.ref x0)] [] := by first | (simp [entryFrame, mkF, argsToLocals, Value.category, maxLocals]; done) | rfl
theorem own_pd1 : parseMethodDescriptor "()Z" = some ⟨[], some .boolean⟩ := by decide +kernel
def Q1 (a1 w_AND w_OR w_XOR : Addr) (h0 : Heap) (n0 : Nat) (v : Option Value) (h : Heap) (L : List Loc) : Prop := v = some (.int (if a1 = w_AND ∨ a1 = w_OR ∨ a1 = w_XOR then 1 else 0)) ∧ Fr n0 L ∧ h = h0
set_option maxRecDepth 65536 in
set_option maxHeartbeats 40000000 in
theorem rm1 (l : Launch) (Z : State) (a0 : Array Value) (hw : ∀ d ∈ tables_1, d.before a0 Z = true) (ws : List Jvm.Cond) (a1 w_AND w_OR w_XOR : Addr) (h0 : Heap) (n0 : Nat) (Z0 : n0 ≤ h0.size) (S_AND : Sta Z h0 "com/example/subscript/subscript/Nodes$Operator" "AND" "Lcom/example/subscript/subscript/Nodes$Operator;" (.ref w_AND)) (S_OR : Sta Z h0 "com/example/subscript/subscript/Nodes$Operator" "OR" "Lcom/example/subscript/subscript/Nodes$Operator;" (.ref w_OR)) (S_XOR : Sta Z h0 "com/example/subscript/subscript/Nodes$Operator" "XOR" "Lcom/example/subscript/subscript/Nodes$Operator;" (.ref w_XOR)) :
    MetFree l (⟨"com/example/subscript/subscript/Nodes$Operator", "isBitwise", "()Z"⟩ : MethodName) (head1 (Jvm.Cond.code (⟨"com/example/subscript/subscript/Nodes$Operator", "isBitwise", "()Z"⟩ : MethodName) prog_96_method_5_code 1 (Option.some Jvm.ClassFile.FieldType.boolean) :: ws) ({ frames := 0, cells := 0, slots := 0, locals := 0 } : Room)) (fun a U => a = #[(.ref a1)] ∧ Z.Warmed39 U.vm ∧ U.heap = h0) (fun _ _ _ _ _ => True) (fun _ U o U' => ∃ v L, o = .returned v ∧ Q1 a1 w_AND w_OR w_XOR h0 n0 v U'.heap L ∧ FrameEnd U o U' L ({ frames := 0, cells := 0, slots := 0, locals := 0 } : Room).cells ({ frames := 0, cells := 0, slots := 0, locals := 0 } : Room).slots) := by
  refine MetFree.of_bodySF (plainFor_of_name own_pn1) hisR ?_
  intro p e s m args below meth c s₁ Bd hml0 hP hK
  obtain ⟨rfl, hZ, hh⟩ := hP
  have hx := Bd.exec
  have hby := Bd.bytes
  have hml : c.maxLocals = 1 := hml0
  have hown : s.vm.findClass "com/example/subscript/subscript/Nodes$Operator" = some m.cls := findClass_of_methodNamed Bd.named
  have hnm := (name_of_methodNamed Bd.named Bd.method).1
  have X0 : Stand p l e ({ frames := 0, cells := 0, slots := 0, locals := 0 } : Room) s m #[(.ref a1)] below meth c s₁ [] 0 0 := Stand.of_body Bd
  have e0 : s₁.heap = h0 := by rw [← hh, Bd.state]; rfl
  have N0 := Fr.nil n0
  refine own_open (f := (mkF m 0 #[.val (.ref a1)] [])) (fun t k => castTop (own_ef1 m a1) k) ?_
  refine own_by (f' := (mkF m 1 #[.val (.ref a1)] [(.ref a1)])) (fun t h => XS.aloadN X0.here hx rfl (hb hby d1_0) rfl rfl h) ?_
  obtain ⟨T1, X1, e1, st1⟩ := getS2 X0 hx hZ hown (host := "") (Or.inl (hw _ (List.mem_of_getElem? (i := 32) rfl))) Via.refl e0 S_AND (g := (mkF m 1 #[.val (.ref a1)] [(.ref a1)])) rfl (hb hby d1_1)
  refine own_by (f' := (mkF m 4 #[.val (.ref a1)] [(.ref w_AND), (.ref a1)])) st1 ?_
  by_cases hc4_2 : a1 = w_AND
  · refine own_by (f' := (mkF m 21 #[.val (.ref a1)] [])) (fun t h => Jvm.RoadKit.acmp (g := (mkF m 4 #[.val (.ref a1)] [(.ref w_AND), (.ref a1)])) X1 hx rfl rfl rfl (pc0 := 4) (pc' := 21) (same := true) rfl (hb hby d1_4) rfl (decide_eq_true (congrArg Value.ref hc4_2)) (by decide) (by decide) h) ?_
    refine own_by (f' := (mkF m 22 #[.val (.ref a1)] [(.int (1 : Int32))])) (fun t h => XS.iconst X1.here hx rfl (hb hby d1_21) h) ?_
    refine own_by (f' := (mkF m 26 #[.val (.ref a1)] [(.int (1 : Int32))])) (fun t h => XS.goto X1.here hx rfl (pc0 := 22) (pc' := 26) rfl (hb hby d1_22) (by decide) (by decide) h) ?_
    obtain ⟨fs, hr, hrun, hended, hW, hsame⟩ := X1.leave (v := some (.int (1 : Int32))) (fun h => by rw [Bd.returns] at h; cases h)
    refine own_mk ⟨_, _, retN X1 hx (t := .boolean) Bd.returns (by simp) (hb hby d1_26) hr, hrun, hended, _, _, rfl, ?_, ⟨_, rfl⟩, hW, hsame.mono (by decide) (by decide)⟩
    show Q1 a1 w_AND w_OR w_XOR h0 n0 _ T1.heap _
    rw [e1]
    exact ⟨by simp [hc4_2], N0, rfl⟩
  · refine own_by (f' := (mkF m 7 #[.val (.ref a1)] [])) (fun t h => Jvm.RoadKit.acmp (g := (mkF m 4 #[.val (.ref a1)] [(.ref w_AND), (.ref a1)])) X1 hx rfl rfl rfl (pc0 := 4) (pc' := 7) (same := false) rfl (hb hby d1_4) rfl (decide_eq_false fun q => hc4_2 (Value.ref.inj q)) (by decide) (by decide) h) ?_
    refine own_by (f' := (mkF m 8 #[.val (.ref a1)] [(.ref a1)])) (fun t h => XS.aloadN X1.here hx rfl (hb hby d1_7) rfl rfl h) ?_
    obtain ⟨T3, X3, e3, st3⟩ := getS2 X1 hx hZ hown (host := "") (Or.inl (hw _ (List.mem_of_getElem? (i := 33) rfl))) Via.refl e1 S_OR (g := (mkF m 8 #[.val (.ref a1)] [(.ref a1)])) rfl (hb hby d1_8)
    refine own_by (f' := (mkF m 11 #[.val (.ref a1)] [(.ref w_OR), (.ref a1)])) st3 ?_
    by_cases hc11_4 : a1 = w_OR
    · refine own_by (f' := (mkF m 21 #[.val (.ref a1)] [])) (fun t h => Jvm.RoadKit.acmp (g := (mkF m 11 #[.val (.ref a1)] [(.ref w_OR), (.ref a1)])) X3 hx rfl rfl rfl (pc0 := 11) (pc' := 21) (same := true) rfl (hb hby d1_11) rfl (decide_eq_true (congrArg Value.ref hc11_4)) (by decide) (by decide) h) ?_
      refine own_by (f' := (mkF m 22 #[.val (.ref a1)] [(.int (1 : Int32))])) (fun t h => XS.iconst X3.here hx rfl (hb hby d1_21) h) ?_
      refine own_by (f' := (mkF m 26 #[.val (.ref a1)] [(.int (1 : Int32))])) (fun t h => XS.goto X3.here hx rfl (pc0 := 22) (pc' := 26) rfl (hb hby d1_22) (by decide) (by decide) h) ?_
      obtain ⟨fs, hr, hrun, hended, hW, hsame⟩ := X3.leave (v := some (.int (1 : Int32))) (fun h => by rw [Bd.returns] at h; cases h)
      refine own_mk ⟨_, _, retN X3 hx (t := .boolean) Bd.returns (by simp) (hb hby d1_26) hr, hrun, hended, _, _, rfl, ?_, ⟨_, rfl⟩, hW, hsame.mono (by decide) (by decide)⟩
      show Q1 a1 w_AND w_OR w_XOR h0 n0 _ T3.heap _
      rw [e3]
      exact ⟨by simp [hc4_2, hc11_4], N0, rfl⟩
    · refine own_by (f' := (mkF m 14 #[.val (.ref a1)] [])) (fun t h => Jvm.RoadKit.acmp (g := (mkF m 11 #[.val (.ref a1)] [(.ref w_OR), (.ref a1)])) X3 hx rfl rfl rfl (pc0 := 11) (pc' := 14) (same := false) rfl (hb hby d1_11) rfl (decide_eq_false fun q => hc11_4 (Value.ref.inj q)) (by decide) (by decide) h) ?_
      refine own_by (f' := (mkF m 15 #[.val (.ref a1)] [(.ref a1)])) (fun t h => XS.aloadN X3.here hx rfl (hb hby d1_14) rfl rfl h) ?_
      obtain ⟨T5, X5, e5, st5⟩ := getS2 X3 hx hZ hown (host := "") (Or.inl (hw _ (List.mem_of_getElem? (i := 34) rfl))) Via.refl e3 S_XOR (g := (mkF m 15 #[.val (.ref a1)] [(.ref a1)])) rfl (hb hby d1_15)
      refine own_by (f' := (mkF m 18 #[.val (.ref a1)] [(.ref w_XOR), (.ref a1)])) st5 ?_
      by_cases hc18_6 : a1 = w_XOR
      · refine own_by (f' := (mkF m 21 #[.val (.ref a1)] [])) (fun t h => Jvm.RoadKit.acmp (g := (mkF m 18 #[.val (.ref a1)] [(.ref w_XOR), (.ref a1)])) X5 hx rfl rfl rfl (pc0 := 18) (pc' := 21) (same := true) rfl (hb hby d1_18) rfl (decide_eq_true (congrArg Value.ref hc18_6)) (by decide) (by decide) h) ?_
        refine own_by (f' := (mkF m 22 #[.val (.ref a1)] [(.int (1 : Int32))])) (fun t h => XS.iconst X5.here hx rfl (hb hby d1_21) h) ?_
        refine own_by (f' := (mkF m 26 #[.val (.ref a1)] [(.int (1 : Int32))])) (fun t h => XS.goto X5.here hx rfl (pc0 := 22) (pc' := 26) rfl (hb hby d1_22) (by decide) (by decide) h) ?_
        obtain ⟨fs, hr, hrun, hended, hW, hsame⟩ := X5.leave (v := some (.int (1 : Int32))) (fun h => by rw [Bd.returns] at h; cases h)
        refine own_mk ⟨_, _, retN X5 hx (t := .boolean) Bd.returns (by simp) (hb hby d1_26) hr, hrun, hended, _, _, rfl, ?_, ⟨_, rfl⟩, hW, hsame.mono (by decide) (by decide)⟩
        show Q1 a1 w_AND w_OR w_XOR h0 n0 _ T5.heap _
        rw [e5]
        exact ⟨by simp [hc4_2, hc11_4, hc18_6], N0, rfl⟩
      · refine own_by (f' := (mkF m 25 #[.val (.ref a1)] [])) (fun t h => Jvm.RoadKit.acmp (g := (mkF m 18 #[.val (.ref a1)] [(.ref w_XOR), (.ref a1)])) X5 hx rfl rfl rfl (pc0 := 18) (pc' := 25) (same := false) rfl (hb hby d1_18) rfl (decide_eq_false fun q => hc18_6 (Value.ref.inj q)) (by decide) (by decide) h) ?_
        refine own_by (f' := (mkF m 26 #[.val (.ref a1)] [(.int (0 : Int32))])) (fun t h => XS.iconst X5.here hx rfl (hb hby d1_25) h) ?_
        obtain ⟨fs, hr, hrun, hended, hW, hsame⟩ := X5.leave (v := some (.int (0 : Int32))) (fun h => by rw [Bd.returns] at h; cases h)
        refine own_mk ⟨_, _, retN X5 hx (t := .boolean) Bd.returns (by simp) (hb hby d1_26) hr, hrun, hended, _, _, rfl, ?_, ⟨_, rfl⟩, hW, hsame.mono (by decide) (by decide)⟩
        show Q1 a1 w_AND w_OR w_XOR h0 n0 _ T5.heap _
        rw [e5]
        exact ⟨by simp [hc4_2, hc11_4, hc18_6], N0, rfl⟩
theorem d4_0 : decode prog_96_method_4_code 0 = .ok (.aload_n 0, 1) := by decide +kernel
theorem d4_1 : decode prog_96_method_4_code 1 = .ok (.getstatic 19, 3) := by decide +kernel
theorem d4_4 : decode prog_96_method_4_code 4 = .ok (.if_acmp .eq 17, 3) := by decide +kernel
theorem d4_7 : decode prog_96_method_4_code 7 = .ok (.aload_n 0, 1) := by decide +kernel
theorem d4_8 : decode prog_96_method_4_code 8 = .ok (.getstatic 22, 3) := by decide +kernel
theorem d4_11 : decode prog_96_method_4_code 11 = .ok (.if_acmp .eq 10, 3) := by decide +kernel
theorem d4_14 : decode prog_96_method_4_code 14 = .ok (.aload_n 0, 1) := by decide +kernel
theorem d4_15 : decode prog_96_method_4_code 15 = .ok (.getstatic 25, 3) := by decide +kernel
theorem d4_18 : decode prog_96_method_4_code 18 = .ok (.if_acmp .ne 7, 3) := by decide +kernel
theorem d4_21 : decode prog_96_method_4_code 21 = .ok (.iconst 1, 1) := by decide +kernel
theorem d4_22 : decode prog_96_method_4_code 22 = .ok (.goto 4, 3) := by decide +kernel
theorem d4_25 : decode prog_96_method_4_code 25 = .ok (.iconst 0, 1) := by decide +kernel
theorem d4_26 : decode prog_96_method_4_code 26 = .ok (.ireturn, 1) := by decide +kernel
theorem own_pn4 : plainName "com/example/subscript/subscript/Nodes$Operator" = true := by first | (simp [plainName, overriddenIn]; done) | decide +kernel
theorem own_ef4 (m : MethodId) (x0 : Addr) : entryFrame m #[(.ref x0)] 1 = mkF m 0 #[.val (.ref x0)] [] := by first | (simp [entryFrame, mkF, argsToLocals, Value.category, maxLocals]; done) | rfl
theorem own_pd4 : parseMethodDescriptor "()Z" = some ⟨[], some .boolean⟩ := by decide +kernel
def Q4 (a1 w_SHIFT_LEFT w_SHIFT_RIGHT w_UNSIGNED_SHIFT_RIGHT : Addr) (h0 : Heap) (n0 : Nat) (v : Option Value) (h : Heap) (L : List Loc) : Prop := v = some (.int (if a1 = w_SHIFT_LEFT ∨ a1 = w_SHIFT_RIGHT ∨ a1 = w_UNSIGNED_SHIFT_RIGHT then 1 else 0)) ∧ Fr n0 L ∧ h = h0
set_option maxRecDepth 65536 in
set_option maxHeartbeats 40000000 in
theorem rm4 (l : Launch) (Z : State) (a0 : Array Value) (hw : ∀ d ∈ tables_1, d.before a0 Z = true) (ws : List Jvm.Cond) (a1 w_SHIFT_LEFT w_SHIFT_RIGHT w_UNSIGNED_SHIFT_RIGHT : Addr) (h0 : Heap) (n0 : Nat) (Z0 : n0 ≤ h0.size) (S_SHIFT_LEFT : Sta Z h0 "com/example/subscript/subscript/Nodes$Operator" "SHIFT_LEFT" "Lcom/example/subscript/subscript/Nodes$Operator;" (.ref w_SHIFT_LEFT)) (S_SHIFT_RIGHT : Sta Z h0 "com/example/subscript/subscript/Nodes$Operator" "SHIFT_RIGHT" "Lcom/example/subscript/subscript/Nodes$Operator;" (.ref w_SHIFT_RIGHT)) (S_UNSIGNED_SHIFT_RIGHT : Sta Z h0 "com/example/subscript/subscript/Nodes$Operator" "UNSIGNED_SHIFT_RIGHT" "Lcom/example/subscript/subscript/Nodes$Operator;" (.ref w_UNSIGNED_SHIFT_RIGHT)) :
    MetFree l (⟨"com/example/subscript/subscript/Nodes$Operator", "isShift", "()Z"⟩ : MethodName) (head1 (Jvm.Cond.code (⟨"com/example/subscript/subscript/Nodes$Operator", "isShift", "()Z"⟩ : MethodName) prog_96_method_4_code 1 (Option.some Jvm.ClassFile.FieldType.boolean) :: ws) ({ frames := 0, cells := 0, slots := 0, locals := 0 } : Room)) (fun a U => a = #[(.ref a1)] ∧ Z.Warmed39 U.vm ∧ U.heap = h0) (fun _ _ _ _ _ => True) (fun _ U o U' => ∃ v L, o = .returned v ∧ Q4 a1 w_SHIFT_LEFT w_SHIFT_RIGHT w_UNSIGNED_SHIFT_RIGHT h0 n0 v U'.heap L ∧ FrameEnd U o U' L ({ frames := 0, cells := 0, slots := 0, locals := 0 } : Room).cells ({ frames := 0, cells := 0, slots := 0, locals := 0 } : Room).slots) := by
  refine MetFree.of_bodySF (plainFor_of_name own_pn4) hisR ?_
  intro p e s m args below meth c s₁ Bd hml0 hP hK
  obtain ⟨rfl, hZ, hh⟩ := hP
  have hx := Bd.exec
  have hby := Bd.bytes
  have hml : c.maxLocals = 1 := hml0
  have hown : s.vm.findClass "com/example/subscript/subscript/Nodes$Operator" = some m.cls := findClass_of_methodNamed Bd.named
  have hnm := (name_of_methodNamed Bd.named Bd.method).1
  have X0 : Stand p l e ({ frames := 0, cells := 0, slots := 0, locals := 0 } : Room) s m #[(.ref a1)] below meth c s₁ [] 0 0 := Stand.of_body Bd
  have e0 : s₁.heap = h0 := by rw [← hh, Bd.state]; rfl
  have N0 := Fr.nil n0
  refine own_open (f := (mkF m 0 #[.val (.ref a1)] [])) (fun t k => castTop (own_ef4 m a1) k) ?_
  refine own_by (f' := (mkF m 1 #[.val (.ref a1)] [(.ref a1)])) (fun t h => XS.aloadN X0.here hx rfl (hb hby d4_0) rfl rfl h) ?_
  obtain ⟨T1, X1, e1, st1⟩ := getS2 X0 hx hZ hown (host := "") (Or.inl (hw _ (List.mem_of_getElem? (i := 62) rfl))) Via.refl e0 S_SHIFT_LEFT (g := (mkF m 1 #[.val (.ref a1)] [(.ref a1)])) rfl (hb hby d4_1)
  refine own_by (f' := (mkF m 4 #[.val (.ref a1)] [(.ref w_SHIFT_LEFT), (.ref a1)])) st1 ?_
  by_cases hc4_2 : a1 = w_SHIFT_LEFT
  · refine own_by (f' := (mkF m 21 #[.val (.ref a1)] [])) (fun t h => Jvm.RoadKit.acmp (g := (mkF m 4 #[.val (.ref a1)] [(.ref w_SHIFT_LEFT), (.ref a1)])) X1 hx rfl rfl rfl (pc0 := 4) (pc' := 21) (same := true) rfl (hb hby d4_4) rfl (decide_eq_true (congrArg Value.ref hc4_2)) (by decide) (by decide) h) ?_
    refine own_by (f' := (mkF m 22 #[.val (.ref a1)] [(.int (1 : Int32))])) (fun t h => XS.iconst X1.here hx rfl (hb hby d4_21) h) ?_
    refine own_by (f' := (mkF m 26 #[.val (.ref a1)] [(.int (1 : Int32))])) (fun t h => XS.goto X1.here hx rfl (pc0 := 22) (pc' := 26) rfl (hb hby d4_22) (by decide) (by decide) h) ?_
    obtain ⟨fs, hr, hrun, hended, hW, hsame⟩ := X1.leave (v := some (.int (1 : Int32))) (fun h => by rw [Bd.returns] at h; cases h)
    refine own_mk ⟨_, _, retN X1 hx (t := .boolean) Bd.returns (by simp) (hb hby d4_26) hr, hrun, hended, _, _, rfl, ?_, ⟨_, rfl⟩, hW, hsame.mono (by decide) (by decide)⟩
    show Q4 a1 w_SHIFT_LEFT w_SHIFT_RIGHT w_UNSIGNED_SHIFT_RIGHT h0 n0 _ T1.heap _
    rw [e1]
    exact ⟨by simp [hc4_2], N0, rfl⟩
  · refine own_by (f' := (mkF m 7 #[.val (.ref a1)] [])) (fun t h => Jvm.RoadKit.acmp (g := (mkF m 4 #[.val (.ref a1)] [(.ref w_SHIFT_LEFT), (.ref a1)])) X1 hx rfl rfl rfl (pc0 := 4) (pc' := 7) (same := false) rfl (hb hby d4_4) rfl (decide_eq_false fun q => hc4_2 (Value.ref.inj q)) (by decide) (by decide) h) ?_
    refine own_by (f' := (mkF m 8 #[.val (.ref a1)] [(.ref a1)])) (fun t h => XS.aloadN X1.here hx rfl (hb hby d4_7) rfl rfl h) ?_
    obtain ⟨T3, X3, e3, st3⟩ := getS2 X1 hx hZ hown (host := "") (Or.inl (hw _ (List.mem_of_getElem? (i := 63) rfl))) Via.refl e1 S_SHIFT_RIGHT (g := (mkF m 8 #[.val (.ref a1)] [(.ref a1)])) rfl (hb hby d4_8)
    refine own_by (f' := (mkF m 11 #[.val (.ref a1)] [(.ref w_SHIFT_RIGHT), (.ref a1)])) st3 ?_
    by_cases hc11_4 : a1 = w_SHIFT_RIGHT
    · refine own_by (f' := (mkF m 21 #[.val (.ref a1)] [])) (fun t h => Jvm.RoadKit.acmp (g := (mkF m 11 #[.val (.ref a1)] [(.ref w_SHIFT_RIGHT), (.ref a1)])) X3 hx rfl rfl rfl (pc0 := 11) (pc' := 21) (same := true) rfl (hb hby d4_11) rfl (decide_eq_true (congrArg Value.ref hc11_4)) (by decide) (by decide) h) ?_
      refine own_by (f' := (mkF m 22 #[.val (.ref a1)] [(.int (1 : Int32))])) (fun t h => XS.iconst X3.here hx rfl (hb hby d4_21) h) ?_
      refine own_by (f' := (mkF m 26 #[.val (.ref a1)] [(.int (1 : Int32))])) (fun t h => XS.goto X3.here hx rfl (pc0 := 22) (pc' := 26) rfl (hb hby d4_22) (by decide) (by decide) h) ?_
      obtain ⟨fs, hr, hrun, hended, hW, hsame⟩ := X3.leave (v := some (.int (1 : Int32))) (fun h => by rw [Bd.returns] at h; cases h)
      refine own_mk ⟨_, _, retN X3 hx (t := .boolean) Bd.returns (by simp) (hb hby d4_26) hr, hrun, hended, _, _, rfl, ?_, ⟨_, rfl⟩, hW, hsame.mono (by decide) (by decide)⟩
      show Q4 a1 w_SHIFT_LEFT w_SHIFT_RIGHT w_UNSIGNED_SHIFT_RIGHT h0 n0 _ T3.heap _
      rw [e3]
      exact ⟨by simp [hc4_2, hc11_4], N0, rfl⟩
    · refine own_by (f' := (mkF m 14 #[.val (.ref a1)] [])) (fun t h => Jvm.RoadKit.acmp (g := (mkF m 11 #[.val (.ref a1)] [(.ref w_SHIFT_RIGHT), (.ref a1)])) X3 hx rfl rfl rfl (pc0 := 11) (pc' := 14) (same := false) rfl (hb hby d4_11) rfl (decide_eq_false fun q => hc11_4 (Value.ref.inj q)) (by decide) (by decide) h) ?_
      refine own_by (f' := (mkF m 15 #[.val (.ref a1)] [(.ref a1)])) (fun t h => XS.aloadN X3.here hx rfl (hb hby d4_14) rfl rfl h) ?_
      obtain ⟨T5, X5, e5, st5⟩ := getS2 X3 hx hZ hown (host := "") (Or.inl (hw _ (List.mem_of_getElem? (i := 64) rfl))) Via.refl e3 S_UNSIGNED_SHIFT_RIGHT (g := (mkF m 15 #[.val (.ref a1)] [(.ref a1)])) rfl (hb hby d4_15)
      refine own_by (f' := (mkF m 18 #[.val (.ref a1)] [(.ref w_UNSIGNED_SHIFT_RIGHT), (.ref a1)])) st5 ?_
      by_cases hc18_6 : a1 = w_UNSIGNED_SHIFT_RIGHT
      · refine own_by (f' := (mkF m 21 #[.val (.ref a1)] [])) (fun t h => Jvm.RoadKit.acmp (g := (mkF m 18 #[.val (.ref a1)] [(.ref w_UNSIGNED_SHIFT_RIGHT), (.ref a1)])) X5 hx rfl rfl rfl (pc0 := 18) (pc' := 21) (same := true) rfl (hb hby d4_18) rfl (decide_eq_true (congrArg Value.ref hc18_6)) (by decide) (by decide) h) ?_
        refine own_by (f' := (mkF m 22 #[.val (.ref a1)] [(.int (1 : Int32))])) (fun t h => XS.iconst X5.here hx rfl (hb hby d4_21) h) ?_
        refine own_by (f' := (mkF m 26 #[.val (.ref a1)] [(.int (1 : Int32))])) (fun t h => XS.goto X5.here hx rfl (pc0 := 22) (pc' := 26) rfl (hb hby d4_22) (by decide) (by decide) h) ?_
        obtain ⟨fs, hr, hrun, hended, hW, hsame⟩ := X5.leave (v := some (.int (1 : Int32))) (fun h => by rw [Bd.returns] at h; cases h)
        refine own_mk ⟨_, _, retN X5 hx (t := .boolean) Bd.returns (by simp) (hb hby d4_26) hr, hrun, hended, _, _, rfl, ?_, ⟨_, rfl⟩, hW, hsame.mono (by decide) (by decide)⟩
        show Q4 a1 w_SHIFT_LEFT w_SHIFT_RIGHT w_UNSIGNED_SHIFT_RIGHT h0 n0 _ T5.heap _
        rw [e5]
        exact ⟨by simp [hc4_2, hc11_4, hc18_6], N0, rfl⟩
      · refine own_by (f' := (mkF m 25 #[.val (.ref a1)] [])) (fun t h => Jvm.RoadKit.acmp (g := (mkF m 18 #[.val (.ref a1)] [(.ref w_UNSIGNED_SHIFT_RIGHT), (.ref a1)])) X5 hx rfl rfl rfl (pc0 := 18) (pc' := 25) (same := false) rfl (hb hby d4_18) rfl (decide_eq_false fun q => hc18_6 (Value.ref.inj q)) (by decide) (by decide) h) ?_
        refine own_by (f' := (mkF m 26 #[.val (.ref a1)] [(.int (0 : Int32))])) (fun t h => XS.iconst X5.here hx rfl (hb hby d4_25) h) ?_
        obtain ⟨fs, hr, hrun, hended, hW, hsame⟩ := X5.leave (v := some (.int (0 : Int32))) (fun h => by rw [Bd.returns] at h; cases h)
        refine own_mk ⟨_, _, retN X5 hx (t := .boolean) Bd.returns (by simp) (hb hby d4_26) hr, hrun, hended, _, _, rfl, ?_, ⟨_, rfl⟩, hW, hsame.mono (by decide) (by decide)⟩
        show Q4 a1 w_SHIFT_LEFT w_SHIFT_RIGHT w_UNSIGNED_SHIFT_RIGHT h0 n0 _ T5.heap _
        rw [e5]
        exact ⟨by simp [hc4_2, hc11_4, hc18_6], N0, rfl⟩
theorem d3_0 : decode jdk_37_method_2_code 0 = .ok (.aload_n 0, 1) := by decide +kernel
theorem d3_1 : decode jdk_37_method_2_code 1 = .ok (.getfield 7, 3) := by decide +kernel
theorem d3_4 : decode jdk_37_method_2_code 4 = .ok (.ireturn, 1) := by decide +kernel
theorem own_pn3 : plainName "java/lang/Enum" = true := by first | (simp [plainName, overriddenIn]; done) | decide +kernel
theorem own_ef3 (m : MethodId) (x0 : Addr) : entryFrame m #[(.ref x0)] 1 = mkF m 0 #[.val (.ref x0)] [] := by first | (simp [entryFrame, mkF, argsToLocals, Value.category, maxLocals]; done) | rfl
theorem own_pd3 : parseMethodDescriptor "()I" = some ⟨[], some .int⟩ := by decide +kernel
def Q3 (r1 : Int32) (h0 : Heap) (n0 : Nat) (v : Option Value) (h : Heap) (L : List Loc) : Prop := v = some (.int r1) ∧ Fr n0 L ∧ h = h0
set_option maxRecDepth 65536 in
set_option maxHeartbeats 40000000 in
theorem rm3 (l : Launch) (Z : State) (a0 : Array Value) (hw : ∀ d ∈ tables_1, d.before a0 Z = true) (ws : List Jvm.Cond) (a1 : Addr) (r1 : Int32) (h0 : Heap) (n0 : Nat) (Z0 : n0 ≤ h0.size) (F_o : Fld Z h0 a1 "java/lang/Enum" "ordinal" "I" (.int r1)) :
    MetFree l (⟨"java/lang/Enum", "ordinal", "()I"⟩ : MethodName) (head1 (Jvm.Cond.code (⟨"java/lang/Enum", "ordinal", "()I"⟩ : MethodName) jdk_37_method_2_code 1 (Option.some Jvm.ClassFile.FieldType.int) :: ws) ({ frames := 0, cells := 0, slots := 0, locals := 0 } : Room)) (fun a U => a = #[(.ref a1)] ∧ Z.Warmed39 U.vm ∧ U.heap = h0) (fun _ _ _ _ _ => True) (fun _ U o U' => ∃ v L, o = .returned v ∧ Q3 r1 h0 n0 v U'.heap L ∧ FrameEnd U o U' L ({ frames := 0, cells := 0, slots := 0, locals := 0 } : Room).cells ({ frames := 0, cells := 0, slots := 0, locals := 0 } : Room).slots) := by
  refine MetFree.of_bodySF (plainFor_of_name own_pn3) hisR ?_
  intro p e s m args below meth c s₁ Bd hml0 hP hK
  obtain ⟨rfl, hZ, hh⟩ := hP
  have hx := Bd.exec
  have hby := Bd.bytes
  have hml : c.maxLocals = 1 := hml0
  have hown : s.vm.findClass "java/lang/Enum" = some m.cls := findClass_of_methodNamed Bd.named
  have hnm := (name_of_methodNamed Bd.named Bd.method).1
  have X0 : Stand p l e ({ frames := 0, cells := 0, slots := 0, locals := 0 } : Room) s m #[(.ref a1)] below meth c s₁ [] 0 0 := Stand.of_body Bd
  have e0 : s₁.heap = h0 := by rw [← hh, Bd.state]; rfl
  have N0 := Fr.nil n0
  refine own_open (f := (mkF m 0 #[.val (.ref a1)] [])) (fun t k => castTop (own_ef3 m a1) k) ?_
  refine own_by (f' := (mkF m 1 #[.val (.ref a1)] [(.ref a1)])) (fun t h => XS.aloadN X0.here hx rfl (hb hby d3_0) rfl rfl h) ?_
  obtain ⟨T1, X1, e1, st1⟩ := getF X0 hx hZ hown (host := "") (Or.inl (hw _ (List.mem_of_getElem? (i := 55) rfl))) Via.refl e0 F_o (g := (mkF m 1 #[.val (.ref a1)] [(.ref a1)])) rfl rfl (hb hby d3_1)
  refine own_by (f' := (mkF m 4 #[.val (.ref a1)] [(.int r1)])) st1 ?_
  obtain ⟨fs, hr, hrun, hended, hW, hsame⟩ := X1.leave (v := some (.int r1)) (fun h => by rw [Bd.returns] at h; cases h)
  refine own_mk ⟨_, _, retI X1 hx Bd.returns (hb hby d3_4) hr, hrun, hended, _, _, rfl, ?_, ⟨_, rfl⟩, hW, hsame.mono (by decide) (by decide)⟩
  show Q3 r1 h0 n0 _ T1.heap _
  rw [e1]
  exact ⟨rfl, N0, rfl⟩
theorem d2_0 : decode prog_96_method_6_code 0 = .ok (.aload_n 0, 1) := by decide +kernel
theorem d2_1 : decode prog_96_method_6_code 1 = .ok (.invokevirtual 56, 3) := by decide +kernel
theorem d2_4 : decode prog_96_method_6_code 4 = .ok (.tableswitch 60 0 10 #[70, 76, 82, 88, 100, 112, 118, 124, 130, 136, 142], 60) := by decide +kernel
theorem d2_134 : decode prog_96_method_6_code 134 = .ok (.iload_n 1, 1) := by decide +kernel
theorem d2_135 : decode prog_96_method_6_code 135 = .ok (.iload_n 2, 1) := by decide +kernel
theorem d2_136 : decode prog_96_method_6_code 136 = .ok (.iand, 1) := by decide +kernel
theorem d2_137 : decode prog_96_method_6_code 137 = .ok (.goto 12, 3) := by decide +kernel
theorem d2_140 : decode prog_96_method_6_code 140 = .ok (.iload_n 1, 1) := by decide +kernel
theorem d2_141 : decode prog_96_method_6_code 141 = .ok (.iload_n 2, 1) := by decide +kernel
theorem d2_142 : decode prog_96_method_6_code 142 = .ok (.ior, 1) := by decide +kernel
theorem d2_143 : decode prog_96_method_6_code 143 = .ok (.goto 6, 3) := by decide +kernel
theorem d2_146 : decode prog_96_method_6_code 146 = .ok (.iload_n 1, 1) := by decide +kernel
theorem d2_147 : decode prog_96_method_6_code 147 = .ok (.iload_n 2, 1) := by decide +kernel
theorem d2_148 : decode prog_96_method_6_code 148 = .ok (.ixor, 1) := by decide +kernel
theorem d2_149 : decode prog_96_method_6_code 149 = .ok (.ireturn, 1) := by decide +kernel
theorem own_pn2 : plainName "com/example/subscript/subscript/Nodes$Operator" = true := by first | (simp [plainName, overriddenIn]; done) | decide +kernel
theorem own_ef2 (m : MethodId) (x0 : Addr) (x1 : Int32) (x2 : Int32) (x3 : Addr) (x4 : Int32) : entryFrame m #[(.ref x0), (.int x1), (.int x2), (.ref x3), (.int x4)] 5 = mkF m 0 #[.val (.ref x0), .val (.int x1), .val (.int x2), .val (.ref x3), .val (.int x4)] [] := by first | (simp [entryFrame, mkF, argsToLocals, Value.category, maxLocals]; done) | rfl
theorem own_pd2 : parseMethodDescriptor "(IILjava/lang/String;I)I" = some ⟨[.int, .int, (.object "java/lang/String"), .int], some .int⟩ := by decide +kernel
def Q2 (p2 p3 r1 : Int32) (h0 : Heap) (n0 : Nat) (v : Option Value) (h : Heap) (L : List Loc) : Prop := v = some (.int (if r1 = 8 then p2 &&& p3 else if r1 = 9 then p2 ||| p3 else p2 ^^^ p3)) ∧ Fr n0 L ∧ h = h0
set_option maxRecDepth 65536 in
set_option maxHeartbeats 40000000 in
theorem rm2 (l : Launch) (Z : State) (a0 : Array Value) (hw : ∀ d ∈ tables_1, d.before a0 Z = true) (ws : List Jvm.Cond) (a1 : Addr) (p2 p3 : Int32) (a4 : Addr) (p5 : Int32) (r1 : Int32) (h0 : Heap) (n0 : Nat) (Z0 : n0 ≤ h0.size) (E_a1 : Exa Z h0 a1 "com/example/subscript/subscript/Nodes$Operator") (F_o : Fld Z h0 a1 "java/lang/Enum" "ordinal" "I" (.int r1)) (hr : r1 = 8 ∨ r1 = 9 ∨ r1 = 10) :
    MetFree l (⟨"com/example/subscript/subscript/Nodes$Operator", "apply", "(IILjava/lang/String;I)I"⟩ : MethodName) (head1 (Jvm.Cond.code (⟨"com/example/subscript/subscript/Nodes$Operator", "apply", "(IILjava/lang/String;I)I"⟩ : MethodName) prog_96_method_6_code 5 (Option.some Jvm.ClassFile.FieldType.int) :: ws) ({ frames := 1, cells := 0, slots := 0, locals := 12 } : Room)) (fun a U => a = #[(.ref a1), (.int p2), (.int p3), (.ref a4), (.int p5)] ∧ Z.Warmed39 U.vm ∧ U.heap = h0) (fun _ _ _ _ _ => True) (fun _ U o U' => ∃ v L, o = .returned v ∧ Q2 p2 p3 r1 h0 n0 v U'.heap L ∧ FrameEnd U o U' L ({ frames := 1, cells := 0, slots := 0, locals := 12 } : Room).cells ({ frames := 1, cells := 0, slots := 0, locals := 12 } : Room).slots) := by
  refine MetFree.of_bodySF (plainFor_of_name own_pn2) hisR ?_
  intro p e s m args below meth c s₁ Bd hml0 hP hK
  obtain ⟨rfl, hZ, hh⟩ := hP
  have hx := Bd.exec
  have hby := Bd.bytes
  have hml : c.maxLocals = 5 := hml0
  have hown : s.vm.findClass "com/example/subscript/subscript/Nodes$Operator" = some m.cls := findClass_of_methodNamed Bd.named
  have hnm := (name_of_methodNamed Bd.named Bd.method).1
  have X0 : Stand p l e ({ frames := 1, cells := 0, slots := 0, locals := 12 } : Room) s m #[(.ref a1), (.int p2), (.int p3), (.ref a4), (.int p5)] below meth c s₁ [] 0 0 := Stand.of_body Bd
  have e0 : s₁.heap = h0 := by rw [← hh, Bd.state]; rfl
  have N0 := Fr.nil n0
  refine own_open (f := (mkF m 0 #[.val (.ref a1), .val (.int p2), .val (.int p3), .val (.ref a4), .val (.int p5)] [])) (fun t k => castTop (own_ef2 m a1 p2 p3 a4 p5) k) ?_
  refine own_by (f' := (mkF m 1 #[.val (.ref a1), .val (.int p2), .val (.int p3), .val (.ref a4), .val (.int p5)] [(.ref a1)])) (fun t h => XS.aloadN X0.here hx rfl (hb hby d2_0) rfl rfl h) ?_
  obtain ⟨cq1, kq1, q1a, q1b, q1c⟩ := isOf hZ e0 E_a1
  obtain ⟨v1, _, ⟨T1, L1, k1, n1⟩, -, X1, ⟨Lc1, hQ1, l1, y1, z1⟩, st1⟩ := X0.virtualBackUp hx (x := (⟨"com/example/subscript/subscript/Nodes$Operator", "ordinal", "()I"⟩ : MethodName)) (y := (⟨"java/lang/Enum", "ordinal", "()I"⟩ : MethodName)) (owner := "java/lang/Enum") hown (mvT hZ (hw _ (List.mem_of_getElem? (i := 48) rfl))) (mvT hZ (hw _ (List.mem_of_getElem? (i := 49) rfl))) (mvT hZ (hw _ (List.mem_of_getElem? (i := 50) rfl))) (by decide) (mvT hZ (hw _ (List.mem_of_getElem? (i := 52) rfl))) (mvT hZ (hw _ (List.mem_of_getElem? (i := 51) rfl))) (backOf (W := 0) (rm3 l Z a0 hw [] a1 r1 h0 n0 Z0 F_o) hZ (hw _ (List.mem_of_getElem? (i := 54) rfl)) (hw _ (List.mem_of_getElem? (i := 53) rfl)) (by decide) (by decide)) q1a q1c (g := (mkF m 1 #[.val (.ref a1), .val (.int p2), .val (.int p3), .val (.ref a4), .val (.int p5)] [(.ref a1)])) rfl (by rw [hml]; rfl) (Steps.refl _) (argsL := []) (rest := []) (lenOf own_pd3 rfl) rfl (by show 2 * 0 + _ ≤ _; exact Nat.le_of_eq rfl) (hb hby d2_1) (fun _ _ => ⟨rfl, e0, (by decide : 0 + 0 ≤ _), (by decide : 0 + 0 ≤ _)⟩)
  dsimp only [Pt.U, Pt.locs, Pt.cells, Pt.slots] at X1 l1 y1 z1 st1 hQ1
  subst l1 y1 z1
  obtain ⟨hv1, Nc1, e1⟩ := hQ1
  have N1 := Fr.app N0 Nc1
  obtain rfl : v1 = some (.int r1) := hv1
  refine own_by (f' := (mkF m 4 #[.val (.ref a1), .val (.int p2), .val (.int p3), .val (.ref a4), .val (.int p5)] [(.int r1)])) (fun t h => st1.trans h) ?_
  rcases hr with hk | hk | hk
  · refine own_by (f' := (mkF m 134 #[.val (.ref a1), .val (.int p2), .val (.int p3), .val (.ref a4), .val (.int p5)] [])) (fun t h => XS.tswIn X1.here hx rfl (o := 130) (pc0 := 4) (pc' := 134) rfl (hb hby d2_4) rfl (by rw [hk]; decide) (by rw [hk]; rfl) (by decide) (by decide) h) ?_
    refine own_by (f' := (mkF m 135 #[.val (.ref a1), .val (.int p2), .val (.int p3), .val (.ref a4), .val (.int p5)] [(.int p2)])) (fun t h => XS.iloadN X1.here hx rfl (hb hby d2_134) rfl h) ?_
    refine own_by (f' := (mkF m 136 #[.val (.ref a1), .val (.int p2), .val (.int p3), .val (.ref a4), .val (.int p5)] [(.int p3), (.int p2)])) (fun t h => XS.iloadN X1.here hx rfl (hb hby d2_135) rfl h) ?_
    refine own_by (f' := (mkF m 137 #[.val (.ref a1), .val (.int p2), .val (.int p3), .val (.ref a4), .val (.int p5)] [(.int (p2 &&& p3))])) (fun t h => XS.iand X1.here hx rfl (hb hby d2_136) rfl h) ?_
    refine own_by (f' := (mkF m 149 #[.val (.ref a1), .val (.int p2), .val (.int p3), .val (.ref a4), .val (.int p5)] [(.int (p2 &&& p3))])) (fun t h => XS.goto X1.here hx rfl (pc0 := 137) (pc' := 149) rfl (hb hby d2_137) (by decide) (by decide) h) ?_
    obtain ⟨fs, hr, hrun, hended, hW, hsame⟩ := X1.leave (v := some (.int (p2 &&& p3))) (fun h => by rw [Bd.returns] at h; cases h)
    refine own_mk ⟨_, _, retI X1 hx Bd.returns (hb hby d2_149) hr, hrun, hended, _, _, rfl, ?_, ⟨_, rfl⟩, hW, hsame.mono (by decide) (by decide)⟩
    show Q2 p2 p3 r1 h0 n0 _ T1.heap _
    rw [e1]
    exact ⟨(congrArg (fun z => some (Value.int z)) (if_pos hk)).symm, N1, rfl⟩
  · refine own_by (f' := (mkF m 140 #[.val (.ref a1), .val (.int p2), .val (.int p3), .val (.ref a4), .val (.int p5)] [])) (fun t h => XS.tswIn X1.here hx rfl (o := 136) (pc0 := 4) (pc' := 140) rfl (hb hby d2_4) rfl (by rw [hk]; decide) (by rw [hk]; rfl) (by decide) (by decide) h) ?_
    refine own_by (f' := (mkF m 141 #[.val (.ref a1), .val (.int p2), .val (.int p3), .val (.ref a4), .val (.int p5)] [(.int p2)])) (fun t h => XS.iloadN X1.here hx rfl (hb hby d2_140) rfl h) ?_
    refine own_by (f' := (mkF m 142 #[.val (.ref a1), .val (.int p2), .val (.int p3), .val (.ref a4), .val (.int p5)] [(.int p3), (.int p2)])) (fun t h => XS.iloadN X1.here hx rfl (hb hby d2_141) rfl h) ?_
    refine own_by (f' := (mkF m 143 #[.val (.ref a1), .val (.int p2), .val (.int p3), .val (.ref a4), .val (.int p5)] [(.int (p2 ||| p3))])) (fun t h => XT.ior X1.here hx rfl (hb hby d2_142) rfl h) ?_
    refine own_by (f' := (mkF m 149 #[.val (.ref a1), .val (.int p2), .val (.int p3), .val (.ref a4), .val (.int p5)] [(.int (p2 ||| p3))])) (fun t h => XS.goto X1.here hx rfl (pc0 := 143) (pc' := 149) rfl (hb hby d2_143) (by decide) (by decide) h) ?_
    obtain ⟨fs, hr, hrun, hended, hW, hsame⟩ := X1.leave (v := some (.int (p2 ||| p3))) (fun h => by rw [Bd.returns] at h; cases h)
    refine own_mk ⟨_, _, retI X1 hx Bd.returns (hb hby d2_149) hr, hrun, hended, _, _, rfl, ?_, ⟨_, rfl⟩, hW, hsame.mono (by decide) (by decide)⟩
    show Q2 p2 p3 r1 h0 n0 _ T1.heap _
    rw [e1]
    exact ⟨(congrArg (fun z => some (Value.int z)) ((if_neg (by rw [hk]; decide)).trans (if_pos hk))).symm, N1, rfl⟩
  · refine own_by (f' := (mkF m 146 #[.val (.ref a1), .val (.int p2), .val (.int p3), .val (.ref a4), .val (.int p5)] [])) (fun t h => XS.tswIn X1.here hx rfl (o := 142) (pc0 := 4) (pc' := 146) rfl (hb hby d2_4) rfl (by rw [hk]; decide) (by rw [hk]; rfl) (by decide) (by decide) h) ?_
    refine own_by (f' := (mkF m 147 #[.val (.ref a1), .val (.int p2), .val (.int p3), .val (.ref a4), .val (.int p5)] [(.int p2)])) (fun t h => XS.iloadN X1.here hx rfl (hb hby d2_146) rfl h) ?_
    refine own_by (f' := (mkF m 148 #[.val (.ref a1), .val (.int p2), .val (.int p3), .val (.ref a4), .val (.int p5)] [(.int p3), (.int p2)])) (fun t h => XS.iloadN X1.here hx rfl (hb hby d2_147) rfl h) ?_
    refine own_by (f' := (mkF m 149 #[.val (.ref a1), .val (.int p2), .val (.int p3), .val (.ref a4), .val (.int p5)] [(.int (p2 ^^^ p3))])) (fun t h => XT.ixor X1.here hx rfl (hb hby d2_148) rfl h) ?_
    obtain ⟨fs, hr, hrun, hended, hW, hsame⟩ := X1.leave (v := some (.int (p2 ^^^ p3))) (fun h => by rw [Bd.returns] at h; cases h)
    refine own_mk ⟨_, _, retI X1 hx Bd.returns (hb hby d2_149) hr, hrun, hended, _, _, rfl, ?_, ⟨_, rfl⟩, hW, hsame.mono (by decide) (by decide)⟩
    show Q2 p2 p3 r1 h0 n0 _ T1.heap _
    rw [e1]
    exact ⟨(congrArg (fun z => some (Value.int z)) ((if_neg (by rw [hk]; decide)).trans (if_neg (by rw [hk]; decide)))).symm, N1, rfl⟩
theorem own_pn0 : plainName "com/example/subscript/subscript/OperatorIsBitwisePinLaw" = true := by first | (simp [plainName, overriddenIn]; done) | decide +kernel
theorem own_ef0 (m : MethodId) (x0 : Int32) (x1 : Int32) (x2 : Int32) : entryFrame m #[(.int x0), (.int x1), (.int x2)] maxLocals = mkF m 0 #[.val (.int x0), .val (.int x1), .val (.int x2), .unset, .unset, .unset, .unset, .unset, .unset, .unset] [] := by first | (simp [entryFrame, mkF, argsToLocals, Value.category, maxLocals]; done) | rfl
def Q0 (n0 : Nat) (v : Option Value) (h : Heap) (L : List Loc) : Prop := v = some (.int 1) ∧ Fr n0 L
set_option maxRecDepth 65536 in
set_option maxHeartbeats 40000000 in
theorem rm0 (l : Launch) (Z : State) (a0 : Array Value) (hw : ∀ d ∈ tables_1, d.before a0 Z = true) (ws : List Jvm.Cond) (p1 p2 p3 : Int32) (w_ADD w_SUBTRACT w_MULTIPLY w_DIVIDE w_REMAINDER w_SHIFT_LEFT w_SHIFT_RIGHT w_UNSIGNED_SHIFT_RIGHT w_AND w_OR w_XOR : Addr) (h0 : Heap) (n0 : Nat) (Z0 : n0 ≤ h0.size) (S_ADD : Sta Z h0 "com/example/subscript/subscript/Nodes$Operator" "ADD" "Lcom/example/subscript/subscript/Nodes$Operator;" (.ref w_ADD)) (S_SUBTRACT : Sta Z h0 "com/example/subscript/subscript/Nodes$Operator" "SUBTRACT" "Lcom/example/subscript/subscript/Nodes$Operator;" (.ref w_SUBTRACT)) (S_MULTIPLY : Sta Z h0 "com/example/subscript/subscript/Nodes$Operator" "MULTIPLY" "Lcom/example/subscript/subscript/Nodes$Operator;" (.ref w_MULTIPLY)) (S_DIVIDE : Sta Z h0 "com/example/subscript/subscript/Nodes$Operator" "DIVIDE" "Lcom/example/subscript/subscript/Nodes$Operator;" (.ref w_DIVIDE)) (S_REMAINDER : Sta Z h0 "com/example/subscript/subscript/Nodes$Operator" "REMAINDER" "Lcom/example/subscript/subscript/Nodes$Operator;" (.ref w_REMAINDER)) (S_SHIFT_LEFT : Sta Z h0 "com/example/subscript/subscript/Nodes$Operator" "SHIFT_LEFT" "Lcom/example/subscript/subscript/Nodes$Operator;" (.ref w_SHIFT_LEFT)) (S_SHIFT_RIGHT : Sta Z h0 "com/example/subscript/subscript/Nodes$Operator" "SHIFT_RIGHT" "Lcom/example/subscript/subscript/Nodes$Operator;" (.ref w_SHIFT_RIGHT)) (S_UNSIGNED_SHIFT_RIGHT : Sta Z h0 "com/example/subscript/subscript/Nodes$Operator" "UNSIGNED_SHIFT_RIGHT" "Lcom/example/subscript/subscript/Nodes$Operator;" (.ref w_UNSIGNED_SHIFT_RIGHT)) (S_AND : Sta Z h0 "com/example/subscript/subscript/Nodes$Operator" "AND" "Lcom/example/subscript/subscript/Nodes$Operator;" (.ref w_AND)) (S_OR : Sta Z h0 "com/example/subscript/subscript/Nodes$Operator" "OR" "Lcom/example/subscript/subscript/Nodes$Operator;" (.ref w_OR)) (S_XOR : Sta Z h0 "com/example/subscript/subscript/Nodes$Operator" "XOR" "Lcom/example/subscript/subscript/Nodes$Operator;" (.ref w_XOR)) (E_ADD : Exa Z h0 w_ADD "com/example/subscript/subscript/Nodes$Operator") (E_SUBTRACT : Exa Z h0 w_SUBTRACT "com/example/subscript/subscript/Nodes$Operator") (E_MULTIPLY : Exa Z h0 w_MULTIPLY "com/example/subscript/subscript/Nodes$Operator") (E_DIVIDE : Exa Z h0 w_DIVIDE "com/example/subscript/subscript/Nodes$Operator") (E_REMAINDER : Exa Z h0 w_REMAINDER "com/example/subscript/subscript/Nodes$Operator") (E_SHIFT_LEFT : Exa Z h0 w_SHIFT_LEFT "com/example/subscript/subscript/Nodes$Operator") (E_SHIFT_RIGHT : Exa Z h0 w_SHIFT_RIGHT "com/example/subscript/subscript/Nodes$Operator") (E_UNSIGNED_SHIFT_RIGHT : Exa Z h0 w_UNSIGNED_SHIFT_RIGHT "com/example/subscript/subscript/Nodes$Operator") (E_AND : Exa Z h0 w_AND "com/example/subscript/subscript/Nodes$Operator") (E_OR : Exa Z h0 w_OR "com/example/subscript/subscript/Nodes$Operator") (E_XOR : Exa Z h0 w_XOR "com/example/subscript/subscript/Nodes$Operator") (F_ordinal_AND : Fld Z h0 w_AND "java/lang/Enum" "ordinal" "I" (.int (8 : Int32))) (F_ordinal_OR : Fld Z h0 w_OR "java/lang/Enum" "ordinal" "I" (.int (9 : Int32))) (F_ordinal_XOR : Fld Z h0 w_XOR "java/lang/Enum" "ordinal" "I" (.int (10 : Int32))) (ne_ADD_AND : ¬ (w_ADD = w_AND)) (ne_ADD_OR : ¬ (w_ADD = w_OR)) (ne_ADD_XOR : ¬ (w_ADD = w_XOR)) (ne_SUBTRACT_AND : ¬ (w_SUBTRACT = w_AND)) (ne_SUBTRACT_OR : ¬ (w_SUBTRACT = w_OR)) (ne_SUBTRACT_XOR : ¬ (w_SUBTRACT = w_XOR)) (ne_MULTIPLY_AND : ¬ (w_MULTIPLY = w_AND)) (ne_MULTIPLY_OR : ¬ (w_MULTIPLY = w_OR)) (ne_MULTIPLY_XOR : ¬ (w_MULTIPLY = w_XOR)) (ne_DIVIDE_AND : ¬ (w_DIVIDE = w_AND)) (ne_DIVIDE_OR : ¬ (w_DIVIDE = w_OR)) (ne_DIVIDE_XOR : ¬ (w_DIVIDE = w_XOR)) (ne_REMAINDER_AND : ¬ (w_REMAINDER = w_AND)) (ne_REMAINDER_OR : ¬ (w_REMAINDER = w_OR)) (ne_REMAINDER_XOR : ¬ (w_REMAINDER = w_XOR)) (ne_SHIFT_LEFT_AND : ¬ (w_SHIFT_LEFT = w_AND)) (ne_SHIFT_LEFT_OR : ¬ (w_SHIFT_LEFT = w_OR)) (ne_SHIFT_LEFT_XOR : ¬ (w_SHIFT_LEFT = w_XOR)) (ne_SHIFT_RIGHT_AND : ¬ (w_SHIFT_RIGHT = w_AND)) (ne_SHIFT_RIGHT_OR : ¬ (w_SHIFT_RIGHT = w_OR)) (ne_SHIFT_RIGHT_XOR : ¬ (w_SHIFT_RIGHT = w_XOR)) (ne_UNSIGNED_SHIFT_RIGHT_AND : ¬ (w_UNSIGNED_SHIFT_RIGHT = w_AND)) (ne_UNSIGNED_SHIFT_RIGHT_OR : ¬ (w_UNSIGNED_SHIFT_RIGHT = w_OR)) (ne_UNSIGNED_SHIFT_RIGHT_XOR : ¬ (w_UNSIGNED_SHIFT_RIGHT = w_XOR)) (ne_AND_SHIFT_LEFT : ¬ (w_AND = w_SHIFT_LEFT)) (ne_AND_SHIFT_RIGHT : ¬ (w_AND = w_SHIFT_RIGHT)) (ne_AND_UNSIGNED_SHIFT_RIGHT : ¬ (w_AND = w_UNSIGNED_SHIFT_RIGHT)) (ne_OR_SHIFT_LEFT : ¬ (w_OR = w_SHIFT_LEFT)) (ne_OR_SHIFT_RIGHT : ¬ (w_OR = w_SHIFT_RIGHT)) (ne_OR_UNSIGNED_SHIFT_RIGHT : ¬ (w_OR = w_UNSIGNED_SHIFT_RIGHT)) (ne_XOR_SHIFT_LEFT : ¬ (w_XOR = w_SHIFT_LEFT)) (ne_XOR_SHIFT_RIGHT : ¬ (w_XOR = w_SHIFT_RIGHT)) (ne_XOR_UNSIGNED_SHIFT_RIGHT : ¬ (w_XOR = w_UNSIGNED_SHIFT_RIGHT)) :
    MetFree l x (head1 (Jvm.Cond.code x code maxLocals ret :: ws) room_1) (fun a U => a = #[(.int p1), (.int p2), (.int p3)] ∧ Z.Warmed39 U.vm ∧ U.heap = h0) (fun _ _ _ _ _ => True) (fun _ U o U' => ∃ v L, o = .returned v ∧ Q0 n0 v U'.heap L ∧ ReturnedEndW U o U' L room_1.cells room_1.slots) := by
  refine MetFree.of_bodySF (plainFor_of_name own_pn0) hisR ?_
  intro p e s m args below meth c s₁ Bd hml0 hP hK
  obtain ⟨rfl, hZ, hh⟩ := hP
  have hx := Bd.exec
  have hby := Bd.bytes
  have hml : c.maxLocals = 10 := hml0
  have hown : s.vm.findClass "com/example/subscript/subscript/OperatorIsBitwisePinLaw" = some m.cls := findClass_of_methodNamed Bd.named
  have hnm := (name_of_methodNamed Bd.named Bd.method).1
  have X0 : Stand p l e room_1 s m #[(.int p1), (.int p2), (.int p3)] below meth c s₁ [] 0 0 := Stand.of_body Bd
  have e0 : s₁.heap = h0 := by rw [← hh, Bd.state]; rfl
  have N0 := Fr.nil n0
  refine own_openW (f := (mkF m 0 #[.val (.int p1), .val (.int p2), .val (.int p3), .unset, .unset, .unset, .unset, .unset, .unset, .unset] [])) (fun t k => castTop (own_ef0 m p1 p2 p3) k) ?_
  refine own_byW (f' := (mkF m 2 #[.val (.int p1), .val (.int p2), .val (.int p3), .unset, .unset, .unset, .unset, .unset, .unset, .unset] [(.int (11 : Int32))])) (fun t h => XT.bipushV X0.here hx rfl (11 : Int32) (hb hby at_0) rfl h) ?_
  obtain ⟨T1, h1, k1, X1, e1, Ex1, A1, O1, st1⟩ := newR X0 hx hZ hown (hw _ (List.mem_of_getElem? (i := 0) rfl)) (hw _ (List.mem_of_getElem? (i := 1) rfl)) e0 (g := (mkF m 2 #[.val (.int p1), .val (.int p2), .val (.int p3), .unset, .unset, .unset, .unset, .unset, .unset, .unset] [(.int (11 : Int32))])) rfl (hb hby at_2) rfl (by decide) (cap := 11) (by decide) (by decide) (by decide) (by decide)
  obtain ⟨b1, gb1⟩ : ∃ z, z = h0.size := ⟨_, rfl⟩
  rw [← gb1] at A1 st1
  have sb1 : h0.size ≤ b1 := Nat.le_trans (Nat.le_refl _) (Nat.le_of_eq gb1.symm)
  have V1 : Arv Z h1 b1 k1 (.object "com/example/subscript/subscript/Nodes$Operator") (11 : Int32) [.null, .null, .null, .null, .null, .null, .null, .null, .null, .null, .null] .null := (Arv.new A1 (by decide)).pad (pad_rep [] .null 11)
  refine own_byW (f' := (mkF m 5 #[.val (.int p1), .val (.int p2), .val (.int p3), .unset, .unset, .unset, .unset, .unset, .unset, .unset] [(.ref b1)])) st1 ?_
  refine own_byW (f' := (mkF m 6 #[.val (.int p1), .val (.int p2), .val (.int p3), .unset, .unset, .unset, .unset, .unset, .unset, .unset] [(.ref b1), (.ref b1)])) (fun t h => XS.dup X1.here hx rfl (hb hby at_5) rfl rfl h) ?_
  refine own_byW (f' := (mkF m 7 #[.val (.int p1), .val (.int p2), .val (.int p3), .unset, .unset, .unset, .unset, .unset, .unset, .unset] [(.int (0 : Int32)), (.ref b1), (.ref b1)])) (fun t h => XS.iconst X1.here hx rfl (hb hby at_6) h) ?_
  obtain ⟨T2, X2, e2, st2⟩ := getS2 X1 hx hZ hown (host := "") (Or.inl (hw _ (List.mem_of_getElem? (i := 2) rfl))) Via.refl e1 (S_ADD.ext Ex1) (g := (mkF m 7 #[.val (.int p1), .val (.int p2), .val (.int p3), .unset, .unset, .unset, .unset, .unset, .unset, .unset] [(.int (0 : Int32)), (.ref b1), (.ref b1)])) rfl (hb hby at_7)
  refine own_byW (f' := (mkF m 10 #[.val (.int p1), .val (.int p2), .val (.int p3), .unset, .unset, .unset, .unset, .unset, .unset, .unset] [(.ref w_ADD), (.int (0 : Int32)), (.ref b1), (.ref b1)])) st2 ?_
  obtain ⟨cl3, Ar3, q3, S3, P3, H3, G3⟩ := V1
  obtain ⟨T3, h3, X3, e3, W3, st3⟩ := stR X2 hx hZ e2 Ar3 (j := (0 : Int32)) (by rw [S3]; decide) rfl (Sto.ofV Ar3 q3 O1 (Ins.self (E_ADD.ext Ex1))) (g := (mkF m 10 #[.val (.int p1), .val (.int p2), .val (.int p3), .unset, .unset, .unset, .unset, .unset, .unset, .unset] [(.ref w_ADD), (.int (0 : Int32)), (.ref b1), (.ref b1)])) rfl rfl (hb hby at_10)
  have N3 := Fr.snoc X3 N0 (Nat.le_trans Z0 sb1)
  have V3 : Arv Z h3 b1 k1 (.object "com/example/subscript/subscript/Nodes$Operator") (11 : Int32) [(.ref w_ADD), .null, .null, .null, .null, .null, .null, .null, .null, .null, .null] .null := Arv.set Ar3 q3 S3 P3 H3 G3 rfl W3 0 rfl (Nat.le_of_ble_eq_true rfl)
  have Ex3 := own_extw Ex1 W3 sb1
  refine own_byW (f' := (mkF m 11 #[.val (.int p1), .val (.int p2), .val (.int p3), .unset, .unset, .unset, .unset, .unset, .unset, .unset] [(.ref b1)])) st3 ?_
  refine own_byW (f' := (mkF m 12 #[.val (.int p1), .val (.int p2), .val (.int p3), .unset, .unset, .unset, .unset, .unset, .unset, .unset] [(.ref b1), (.ref b1)])) (fun t h => XS.dup X3.here hx rfl (hb hby at_11) rfl rfl h) ?_
  refine own_byW (f' := (mkF m 13 #[.val (.int p1), .val (.int p2), .val (.int p3), .unset, .unset, .unset, .unset, .unset, .unset, .unset] [(.int (1 : Int32)), (.ref b1), (.ref b1)])) (fun t h => XS.iconst X3.here hx rfl (hb hby at_12) h) ?_
  obtain ⟨T4, X4, e4, st4⟩ := getS2 X3 hx hZ hown (host := "") (Or.inl (hw _ (List.mem_of_getElem? (i := 6) rfl))) Via.refl e3 (S_SUBTRACT.ext Ex3) (g := (mkF m 13 #[.val (.int p1), .val (.int p2), .val (.int p3), .unset, .unset, .unset, .unset, .unset, .unset, .unset] [(.int (1 : Int32)), (.ref b1), (.ref b1)])) rfl (hb hby at_13)
  refine own_byW (f' := (mkF m 16 #[.val (.int p1), .val (.int p2), .val (.int p3), .unset, .unset, .unset, .unset, .unset, .unset, .unset] [(.ref w_SUBTRACT), (.int (1 : Int32)), (.ref b1), (.ref b1)])) st4 ?_
  obtain ⟨cl5, Ar5, q5, S5, P5, H5, G5⟩ := V3
  obtain ⟨T5, h5, X5, e5, W5, st5⟩ := stR X4 hx hZ e4 Ar5 (j := (1 : Int32)) (by rw [S5]; decide) rfl (Sto.ofV Ar5 q5 O1 (Ins.self (E_SUBTRACT.ext Ex3))) (g := (mkF m 16 #[.val (.int p1), .val (.int p2), .val (.int p3), .unset, .unset, .unset, .unset, .unset, .unset, .unset] [(.ref w_SUBTRACT), (.int (1 : Int32)), (.ref b1), (.ref b1)])) rfl rfl (hb hby at_16)
  have N5 := Fr.snoc X5 N3 (Nat.le_trans Z0 sb1)
  have V5 : Arv Z h5 b1 k1 (.object "com/example/subscript/subscript/Nodes$Operator") (11 : Int32) [(.ref w_ADD), (.ref w_SUBTRACT), .null, .null, .null, .null, .null, .null, .null, .null, .null] .null := Arv.set Ar5 q5 S5 P5 H5 G5 rfl W5 1 rfl (Nat.le_of_ble_eq_true rfl)
  have Ex5 := own_extw Ex3 W5 sb1
  refine own_byW (f' := (mkF m 17 #[.val (.int p1), .val (.int p2), .val (.int p3), .unset, .unset, .unset, .unset, .unset, .unset, .unset] [(.ref b1)])) st5 ?_
  refine own_byW (f' := (mkF m 18 #[.val (.int p1), .val (.int p2), .val (.int p3), .unset, .unset, .unset, .unset, .unset, .unset, .unset] [(.ref b1), (.ref b1)])) (fun t h => XS.dup X5.here hx rfl (hb hby at_17) rfl rfl h) ?_
  refine own_byW (f' := (mkF m 19 #[.val (.int p1), .val (.int p2), .val (.int p3), .unset, .unset, .unset, .unset, .unset, .unset, .unset] [(.int (2 : Int32)), (.ref b1), (.ref b1)])) (fun t h => XS.iconst X5.here hx rfl (hb hby at_18) h) ?_
  obtain ⟨T6, X6, e6, st6⟩ := getS2 X5 hx hZ hown (host := "") (Or.inl (hw _ (List.mem_of_getElem? (i := 8) rfl))) Via.refl e5 (S_MULTIPLY.ext Ex5) (g := (mkF m 19 #[.val (.int p1), .val (.int p2), .val (.int p3), .unset, .unset, .unset, .unset, .unset, .unset, .unset] [(.int (2 : Int32)), (.ref b1), (.ref b1)])) rfl (hb hby at_19)
  refine own_byW (f' := (mkF m 22 #[.val (.int p1), .val (.int p2), .val (.int p3), .unset, .unset, .unset, .unset, .unset, .unset, .unset] [(.ref w_MULTIPLY), (.int (2 : Int32)), (.ref b1), (.ref b1)])) st6 ?_
  obtain ⟨cl7, Ar7, q7, S7, P7, H7, G7⟩ := V5
  obtain ⟨T7, h7, X7, e7, W7, st7⟩ := stR X6 hx hZ e6 Ar7 (j := (2 : Int32)) (by rw [S7]; decide) rfl (Sto.ofV Ar7 q7 O1 (Ins.self (E_MULTIPLY.ext Ex5))) (g := (mkF m 22 #[.val (.int p1), .val (.int p2), .val (.int p3), .unset, .unset, .unset, .unset, .unset, .unset, .unset] [(.ref w_MULTIPLY), (.int (2 : Int32)), (.ref b1), (.ref b1)])) rfl rfl (hb hby at_22)
  have N7 := Fr.snoc X7 N5 (Nat.le_trans Z0 sb1)
  have V7 : Arv Z h7 b1 k1 (.object "com/example/subscript/subscript/Nodes$Operator") (11 : Int32) [(.ref w_ADD), (.ref w_SUBTRACT), (.ref w_MULTIPLY), .null, .null, .null, .null, .null, .null, .null, .null] .null := Arv.set Ar7 q7 S7 P7 H7 G7 rfl W7 2 rfl (Nat.le_of_ble_eq_true rfl)
  have Ex7 := own_extw Ex5 W7 sb1
  refine own_byW (f' := (mkF m 23 #[.val (.int p1), .val (.int p2), .val (.int p3), .unset, .unset, .unset, .unset, .unset, .unset, .unset] [(.ref b1)])) st7 ?_
  refine own_byW (f' := (mkF m 24 #[.val (.int p1), .val (.int p2), .val (.int p3), .unset, .unset, .unset, .unset, .unset, .unset, .unset] [(.ref b1), (.ref b1)])) (fun t h => XS.dup X7.here hx rfl (hb hby at_23) rfl rfl h) ?_
  refine own_byW (f' := (mkF m 25 #[.val (.int p1), .val (.int p2), .val (.int p3), .unset, .unset, .unset, .unset, .unset, .unset, .unset] [(.int (3 : Int32)), (.ref b1), (.ref b1)])) (fun t h => XS.iconst X7.here hx rfl (hb hby at_24) h) ?_
  obtain ⟨T8, X8, e8, st8⟩ := getS2 X7 hx hZ hown (host := "") (Or.inl (hw _ (List.mem_of_getElem? (i := 10) rfl))) Via.refl e7 (S_DIVIDE.ext Ex7) (g := (mkF m 25 #[.val (.int p1), .val (.int p2), .val (.int p3), .unset, .unset, .unset, .unset, .unset, .unset, .unset] [(.int (3 : Int32)), (.ref b1), (.ref b1)])) rfl (hb hby at_25)
  refine own_byW (f' := (mkF m 28 #[.val (.int p1), .val (.int p2), .val (.int p3), .unset, .unset, .unset, .unset, .unset, .unset, .unset] [(.ref w_DIVIDE), (.int (3 : Int32)), (.ref b1), (.ref b1)])) st8 ?_
  obtain ⟨cl9, Ar9, q9, S9, P9, H9, G9⟩ := V7
  obtain ⟨T9, h9, X9, e9, W9, st9⟩ := stR X8 hx hZ e8 Ar9 (j := (3 : Int32)) (by rw [S9]; decide) rfl (Sto.ofV Ar9 q9 O1 (Ins.self (E_DIVIDE.ext Ex7))) (g := (mkF m 28 #[.val (.int p1), .val (.int p2), .val (.int p3), .unset, .unset, .unset, .unset, .unset, .unset, .unset] [(.ref w_DIVIDE), (.int (3 : Int32)), (.ref b1), (.ref b1)])) rfl rfl (hb hby at_28)
  have N9 := Fr.snoc X9 N7 (Nat.le_trans Z0 sb1)
  have V9 : Arv Z h9 b1 k1 (.object "com/example/subscript/subscript/Nodes$Operator") (11 : Int32) [(.ref w_ADD), (.ref w_SUBTRACT), (.ref w_MULTIPLY), (.ref w_DIVIDE), .null, .null, .null, .null, .null, .null, .null] .null := Arv.set Ar9 q9 S9 P9 H9 G9 rfl W9 3 rfl (Nat.le_of_ble_eq_true rfl)
  have Ex9 := own_extw Ex7 W9 sb1
  refine own_byW (f' := (mkF m 29 #[.val (.int p1), .val (.int p2), .val (.int p3), .unset, .unset, .unset, .unset, .unset, .unset, .unset] [(.ref b1)])) st9 ?_
  refine own_byW (f' := (mkF m 30 #[.val (.int p1), .val (.int p2), .val (.int p3), .unset, .unset, .unset, .unset, .unset, .unset, .unset] [(.ref b1), (.ref b1)])) (fun t h => XS.dup X9.here hx rfl (hb hby at_29) rfl rfl h) ?_
  refine own_byW (f' := (mkF m 31 #[.val (.int p1), .val (.int p2), .val (.int p3), .unset, .unset, .unset, .unset, .unset, .unset, .unset] [(.int (4 : Int32)), (.ref b1), (.ref b1)])) (fun t h => XS.iconst X9.here hx rfl (hb hby at_30) h) ?_
  obtain ⟨T10, X10, e10, st10⟩ := getS2 X9 hx hZ hown (host := "") (Or.inl (hw _ (List.mem_of_getElem? (i := 12) rfl))) Via.refl e9 (S_REMAINDER.ext Ex9) (g := (mkF m 31 #[.val (.int p1), .val (.int p2), .val (.int p3), .unset, .unset, .unset, .unset, .unset, .unset, .unset] [(.int (4 : Int32)), (.ref b1), (.ref b1)])) rfl (hb hby at_31)
  refine own_byW (f' := (mkF m 34 #[.val (.int p1), .val (.int p2), .val (.int p3), .unset, .unset, .unset, .unset, .unset, .unset, .unset] [(.ref w_REMAINDER), (.int (4 : Int32)), (.ref b1), (.ref b1)])) st10 ?_
  obtain ⟨cl11, Ar11, q11, S11, P11, H11, G11⟩ := V9
  obtain ⟨T11, h11, X11, e11, W11, st11⟩ := stR X10 hx hZ e10 Ar11 (j := (4 : Int32)) (by rw [S11]; decide) rfl (Sto.ofV Ar11 q11 O1 (Ins.self (E_REMAINDER.ext Ex9))) (g := (mkF m 34 #[.val (.int p1), .val (.int p2), .val (.int p3), .unset, .unset, .unset, .unset, .unset, .unset, .unset] [(.ref w_REMAINDER), (.int (4 : Int32)), (.ref b1), (.ref b1)])) rfl rfl (hb hby at_34)
  have N11 := Fr.snoc X11 N9 (Nat.le_trans Z0 sb1)
  have V11 : Arv Z h11 b1 k1 (.object "com/example/subscript/subscript/Nodes$Operator") (11 : Int32) [(.ref w_ADD), (.ref w_SUBTRACT), (.ref w_MULTIPLY), (.ref w_DIVIDE), (.ref w_REMAINDER), .null, .null, .null, .null, .null, .null] .null := Arv.set Ar11 q11 S11 P11 H11 G11 rfl W11 4 rfl (Nat.le_of_ble_eq_true rfl)
  have Ex11 := own_extw Ex9 W11 sb1
  refine own_byW (f' := (mkF m 35 #[.val (.int p1), .val (.int p2), .val (.int p3), .unset, .unset, .unset, .unset, .unset, .unset, .unset] [(.ref b1)])) st11 ?_
  refine own_byW (f' := (mkF m 36 #[.val (.int p1), .val (.int p2), .val (.int p3), .unset, .unset, .unset, .unset, .unset, .unset, .unset] [(.ref b1), (.ref b1)])) (fun t h => XS.dup X11.here hx rfl (hb hby at_35) rfl rfl h) ?_
  refine own_byW (f' := (mkF m 37 #[.val (.int p1), .val (.int p2), .val (.int p3), .unset, .unset, .unset, .unset, .unset, .unset, .unset] [(.int (5 : Int32)), (.ref b1), (.ref b1)])) (fun t h => XS.iconst X11.here hx rfl (hb hby at_36) h) ?_
  obtain ⟨T12, X12, e12, st12⟩ := getS2 X11 hx hZ hown (host := "") (Or.inl (hw _ (List.mem_of_getElem? (i := 14) rfl))) Via.refl e11 (S_SHIFT_LEFT.ext Ex11) (g := (mkF m 37 #[.val (.int p1), .val (.int p2), .val (.int p3), .unset, .unset, .unset, .unset, .unset, .unset, .unset] [(.int (5 : Int32)), (.ref b1), (.ref b1)])) rfl (hb hby at_37)
  refine own_byW (f' := (mkF m 40 #[.val (.int p1), .val (.int p2), .val (.int p3), .unset, .unset, .unset, .unset, .unset, .unset, .unset] [(.ref w_SHIFT_LEFT), (.int (5 : Int32)), (.ref b1), (.ref b1)])) st12 ?_
  obtain ⟨cl13, Ar13, q13, S13, P13, H13, G13⟩ := V11
  obtain ⟨T13, h13, X13, e13, W13, st13⟩ := stR X12 hx hZ e12 Ar13 (j := (5 : Int32)) (by rw [S13]; decide) rfl (Sto.ofV Ar13 q13 O1 (Ins.self (E_SHIFT_LEFT.ext Ex11))) (g := (mkF m 40 #[.val (.int p1), .val (.int p2), .val (.int p3), .unset, .unset, .unset, .unset, .unset, .unset, .unset] [(.ref w_SHIFT_LEFT), (.int (5 : Int32)), (.ref b1), (.ref b1)])) rfl rfl (hb hby at_40)
  have N13 := Fr.snoc X13 N11 (Nat.le_trans Z0 sb1)
  have V13 : Arv Z h13 b1 k1 (.object "com/example/subscript/subscript/Nodes$Operator") (11 : Int32) [(.ref w_ADD), (.ref w_SUBTRACT), (.ref w_MULTIPLY), (.ref w_DIVIDE), (.ref w_REMAINDER), (.ref w_SHIFT_LEFT), .null, .null, .null, .null, .null] .null := Arv.set Ar13 q13 S13 P13 H13 G13 rfl W13 5 rfl (Nat.le_of_ble_eq_true rfl)
  have Ex13 := own_extw Ex11 W13 sb1
  refine own_byW (f' := (mkF m 41 #[.val (.int p1), .val (.int p2), .val (.int p3), .unset, .unset, .unset, .unset, .unset, .unset, .unset] [(.ref b1)])) st13 ?_
  refine own_byW (f' := (mkF m 42 #[.val (.int p1), .val (.int p2), .val (.int p3), .unset, .unset, .unset, .unset, .unset, .unset, .unset] [(.ref b1), (.ref b1)])) (fun t h => XS.dup X13.here hx rfl (hb hby at_41) rfl rfl h) ?_
  refine own_byW (f' := (mkF m 44 #[.val (.int p1), .val (.int p2), .val (.int p3), .unset, .unset, .unset, .unset, .unset, .unset, .unset] [(.int (6 : Int32)), (.ref b1), (.ref b1)])) (fun t h => XT.bipushV X13.here hx rfl (6 : Int32) (hb hby at_42) rfl h) ?_
  obtain ⟨T14, X14, e14, st14⟩ := getS2 X13 hx hZ hown (host := "") (Or.inl (hw _ (List.mem_of_getElem? (i := 16) rfl))) Via.refl e13 (S_SHIFT_RIGHT.ext Ex13) (g := (mkF m 44 #[.val (.int p1), .val (.int p2), .val (.int p3), .unset, .unset, .unset, .unset, .unset, .unset, .unset] [(.int (6 : Int32)), (.ref b1), (.ref b1)])) rfl (hb hby at_44)
  refine own_byW (f' := (mkF m 47 #[.val (.int p1), .val (.int p2), .val (.int p3), .unset, .unset, .unset, .unset, .unset, .unset, .unset] [(.ref w_SHIFT_RIGHT), (.int (6 : Int32)), (.ref b1), (.ref b1)])) st14 ?_
  obtain ⟨cl15, Ar15, q15, S15, P15, H15, G15⟩ := V13
  obtain ⟨T15, h15, X15, e15, W15, st15⟩ := stR X14 hx hZ e14 Ar15 (j := (6 : Int32)) (by rw [S15]; decide) rfl (Sto.ofV Ar15 q15 O1 (Ins.self (E_SHIFT_RIGHT.ext Ex13))) (g := (mkF m 47 #[.val (.int p1), .val (.int p2), .val (.int p3), .unset, .unset, .unset, .unset, .unset, .unset, .unset] [(.ref w_SHIFT_RIGHT), (.int (6 : Int32)), (.ref b1), (.ref b1)])) rfl rfl (hb hby at_47)
  have N15 := Fr.snoc X15 N13 (Nat.le_trans Z0 sb1)
  have V15 : Arv Z h15 b1 k1 (.object "com/example/subscript/subscript/Nodes$Operator") (11 : Int32) [(.ref w_ADD), (.ref w_SUBTRACT), (.ref w_MULTIPLY), (.ref w_DIVIDE), (.ref w_REMAINDER), (.ref w_SHIFT_LEFT), (.ref w_SHIFT_RIGHT), .null, .null, .null, .null] .null := Arv.set Ar15 q15 S15 P15 H15 G15 rfl W15 6 rfl (Nat.le_of_ble_eq_true rfl)
  have Ex15 := own_extw Ex13 W15 sb1
  refine own_byW (f' := (mkF m 48 #[.val (.int p1), .val (.int p2), .val (.int p3), .unset, .unset, .unset, .unset, .unset, .unset, .unset] [(.ref b1)])) st15 ?_
  refine own_byW (f' := (mkF m 49 #[.val (.int p1), .val (.int p2), .val (.int p3), .unset, .unset, .unset, .unset, .unset, .unset, .unset] [(.ref b1), (.ref b1)])) (fun t h => XS.dup X15.here hx rfl (hb hby at_48) rfl rfl h) ?_
  refine own_byW (f' := (mkF m 51 #[.val (.int p1), .val (.int p2), .val (.int p3), .unset, .unset, .unset, .unset, .unset, .unset, .unset] [(.int (7 : Int32)), (.ref b1), (.ref b1)])) (fun t h => XT.bipushV X15.here hx rfl (7 : Int32) (hb hby at_49) rfl h) ?_
  obtain ⟨T16, X16, e16, st16⟩ := getS2 X15 hx hZ hown (host := "") (Or.inl (hw _ (List.mem_of_getElem? (i := 18) rfl))) Via.refl e15 (S_UNSIGNED_SHIFT_RIGHT.ext Ex15) (g := (mkF m 51 #[.val (.int p1), .val (.int p2), .val (.int p3), .unset, .unset, .unset, .unset, .unset, .unset, .unset] [(.int (7 : Int32)), (.ref b1), (.ref b1)])) rfl (hb hby at_51)
  refine own_byW (f' := (mkF m 54 #[.val (.int p1), .val (.int p2), .val (.int p3), .unset, .unset, .unset, .unset, .unset, .unset, .unset] [(.ref w_UNSIGNED_SHIFT_RIGHT), (.int (7 : Int32)), (.ref b1), (.ref b1)])) st16 ?_
  obtain ⟨cl17, Ar17, q17, S17, P17, H17, G17⟩ := V15
  obtain ⟨T17, h17, X17, e17, W17, st17⟩ := stR X16 hx hZ e16 Ar17 (j := (7 : Int32)) (by rw [S17]; decide) rfl (Sto.ofV Ar17 q17 O1 (Ins.self (E_UNSIGNED_SHIFT_RIGHT.ext Ex15))) (g := (mkF m 54 #[.val (.int p1), .val (.int p2), .val (.int p3), .unset, .unset, .unset, .unset, .unset, .unset, .unset] [(.ref w_UNSIGNED_SHIFT_RIGHT), (.int (7 : Int32)), (.ref b1), (.ref b1)])) rfl rfl (hb hby at_54)
  have N17 := Fr.snoc X17 N15 (Nat.le_trans Z0 sb1)
  have V17 : Arv Z h17 b1 k1 (.object "com/example/subscript/subscript/Nodes$Operator") (11 : Int32) [(.ref w_ADD), (.ref w_SUBTRACT), (.ref w_MULTIPLY), (.ref w_DIVIDE), (.ref w_REMAINDER), (.ref w_SHIFT_LEFT), (.ref w_SHIFT_RIGHT), (.ref w_UNSIGNED_SHIFT_RIGHT), .null, .null, .null] .null := Arv.set Ar17 q17 S17 P17 H17 G17 rfl W17 7 rfl (Nat.le_of_ble_eq_true rfl)
  have Ex17 := own_extw Ex15 W17 sb1
  refine own_byW (f' := (mkF m 55 #[.val (.int p1), .val (.int p2), .val (.int p3), .unset, .unset, .unset, .unset, .unset, .unset, .unset] [(.ref b1)])) st17 ?_
  refine own_byW (f' := (mkF m 56 #[.val (.int p1), .val (.int p2), .val (.int p3), .unset, .unset, .unset, .unset, .unset, .unset, .unset] [(.ref b1), (.ref b1)])) (fun t h => XS.dup X17.here hx rfl (hb hby at_55) rfl rfl h) ?_
  refine own_byW (f' := (mkF m 58 #[.val (.int p1), .val (.int p2), .val (.int p3), .unset, .unset, .unset, .unset, .unset, .unset, .unset] [(.int (8 : Int32)), (.ref b1), (.ref b1)])) (fun t h => XT.bipushV X17.here hx rfl (8 : Int32) (hb hby at_56) rfl h) ?_
  obtain ⟨T18, X18, e18, st18⟩ := getS2 X17 hx hZ hown (host := "") (Or.inl (hw _ (List.mem_of_getElem? (i := 20) rfl))) Via.refl e17 (S_AND.ext Ex17) (g := (mkF m 58 #[.val (.int p1), .val (.int p2), .val (.int p3), .unset, .unset, .unset, .unset, .unset, .unset, .unset] [(.int (8 : Int32)), (.ref b1), (.ref b1)])) rfl (hb hby at_58)
  refine own_byW (f' := (mkF m 61 #[.val (.int p1), .val (.int p2), .val (.int p3), .unset, .unset, .unset, .unset, .unset, .unset, .unset] [(.ref w_AND), (.int (8 : Int32)), (.ref b1), (.ref b1)])) st18 ?_
  obtain ⟨cl19, Ar19, q19, S19, P19, H19, G19⟩ := V17
  obtain ⟨T19, h19, X19, e19, W19, st19⟩ := stR X18 hx hZ e18 Ar19 (j := (8 : Int32)) (by rw [S19]; decide) rfl (Sto.ofV Ar19 q19 O1 (Ins.self (E_AND.ext Ex17))) (g := (mkF m 61 #[.val (.int p1), .val (.int p2), .val (.int p3), .unset, .unset, .unset, .unset, .unset, .unset, .unset] [(.ref w_AND), (.int (8 : Int32)), (.ref b1), (.ref b1)])) rfl rfl (hb hby at_61)
  have N19 := Fr.snoc X19 N17 (Nat.le_trans Z0 sb1)
  have V19 : Arv Z h19 b1 k1 (.object "com/example/subscript/subscript/Nodes$Operator") (11 : Int32) [(.ref w_ADD), (.ref w_SUBTRACT), (.ref w_MULTIPLY), (.ref w_DIVIDE), (.ref w_REMAINDER), (.ref w_SHIFT_LEFT), (.ref w_SHIFT_RIGHT), (.ref w_UNSIGNED_SHIFT_RIGHT), (.ref w_AND), .null, .null] .null := Arv.set Ar19 q19 S19 P19 H19 G19 rfl W19 8 rfl (Nat.le_of_ble_eq_true rfl)
  have Ex19 := own_extw Ex17 W19 sb1
  refine own_byW (f' := (mkF m 62 #[.val (.int p1), .val (.int p2), .val (.int p3), .unset, .unset, .unset, .unset, .unset, .unset, .unset] [(.ref b1)])) st19 ?_
  refine own_byW (f' := (mkF m 63 #[.val (.int p1), .val (.int p2), .val (.int p3), .unset, .unset, .unset, .unset, .unset, .unset, .unset] [(.ref b1), (.ref b1)])) (fun t h => XS.dup X19.here hx rfl (hb hby at_62) rfl rfl h) ?_
  refine own_byW (f' := (mkF m 65 #[.val (.int p1), .val (.int p2), .val (.int p3), .unset, .unset, .unset, .unset, .unset, .unset, .unset] [(.int (9 : Int32)), (.ref b1), (.ref b1)])) (fun t h => XT.bipushV X19.here hx rfl (9 : Int32) (hb hby at_63) rfl h) ?_
  obtain ⟨T20, X20, e20, st20⟩ := getS2 X19 hx hZ hown (host := "") (Or.inl (hw _ (List.mem_of_getElem? (i := 22) rfl))) Via.refl e19 (S_OR.ext Ex19) (g := (mkF m 65 #[.val (.int p1), .val (.int p2), .val (.int p3), .unset, .unset, .unset, .unset, .unset, .unset, .unset] [(.int (9 : Int32)), (.ref b1), (.ref b1)])) rfl (hb hby at_65)
  refine own_byW (f' := (mkF m 68 #[.val (.int p1), .val (.int p2), .val (.int p3), .unset, .unset, .unset, .unset, .unset, .unset, .unset] [(.ref w_OR), (.int (9 : Int32)), (.ref b1), (.ref b1)])) st20 ?_
  obtain ⟨cl21, Ar21, q21, S21, P21, H21, G21⟩ := V19
  obtain ⟨T21, h21, X21, e21, W21, st21⟩ := stR X20 hx hZ e20 Ar21 (j := (9 : Int32)) (by rw [S21]; decide) rfl (Sto.ofV Ar21 q21 O1 (Ins.self (E_OR.ext Ex19))) (g := (mkF m 68 #[.val (.int p1), .val (.int p2), .val (.int p3), .unset, .unset, .unset, .unset, .unset, .unset, .unset] [(.ref w_OR), (.int (9 : Int32)), (.ref b1), (.ref b1)])) rfl rfl (hb hby at_68)
  have N21 := Fr.snoc X21 N19 (Nat.le_trans Z0 sb1)
  have V21 : Arv Z h21 b1 k1 (.object "com/example/subscript/subscript/Nodes$Operator") (11 : Int32) [(.ref w_ADD), (.ref w_SUBTRACT), (.ref w_MULTIPLY), (.ref w_DIVIDE), (.ref w_REMAINDER), (.ref w_SHIFT_LEFT), (.ref w_SHIFT_RIGHT), (.ref w_UNSIGNED_SHIFT_RIGHT), (.ref w_AND), (.ref w_OR), .null] .null := Arv.set Ar21 q21 S21 P21 H21 G21 rfl W21 9 rfl (Nat.le_of_ble_eq_true rfl)
  have Ex21 := own_extw Ex19 W21 sb1
  refine own_byW (f' := (mkF m 69 #[.val (.int p1), .val (.int p2), .val (.int p3), .unset, .unset, .unset, .unset, .unset, .unset, .unset] [(.ref b1)])) st21 ?_
  refine own_byW (f' := (mkF m 70 #[.val (.int p1), .val (.int p2), .val (.int p3), .unset, .unset, .unset, .unset, .unset, .unset, .unset] [(.ref b1), (.ref b1)])) (fun t h => XS.dup X21.here hx rfl (hb hby at_69) rfl rfl h) ?_
  refine own_byW (f' := (mkF m 72 #[.val (.int p1), .val (.int p2), .val (.int p3), .unset, .unset, .unset, .unset, .unset, .unset, .unset] [(.int (10 : Int32)), (.ref b1), (.ref b1)])) (fun t h => XT.bipushV X21.here hx rfl (10 : Int32) (hb hby at_70) rfl h) ?_
  obtain ⟨T22, X22, e22, st22⟩ := getS2 X21 hx hZ hown (host := "") (Or.inl (hw _ (List.mem_of_getElem? (i := 24) rfl))) Via.refl e21 (S_XOR.ext Ex21) (g := (mkF m 72 #[.val (.int p1), .val (.int p2), .val (.int p3), .unset, .unset, .unset, .unset, .unset, .unset, .unset] [(.int (10 : Int32)), (.ref b1), (.ref b1)])) rfl (hb hby at_72)
  refine own_byW (f' := (mkF m 75 #[.val (.int p1), .val (.int p2), .val (.int p3), .unset, .unset, .unset, .unset, .unset, .unset, .unset] [(.ref w_XOR), (.int (10 : Int32)), (.ref b1), (.ref b1)])) st22 ?_
  obtain ⟨cl23, Ar23, q23, S23, P23, H23, G23⟩ := V21
  obtain ⟨T23, h23, X23, e23, W23, st23⟩ := stR X22 hx hZ e22 Ar23 (j := (10 : Int32)) (by rw [S23]; decide) rfl (Sto.ofV Ar23 q23 O1 (Ins.self (E_XOR.ext Ex21))) (g := (mkF m 75 #[.val (.int p1), .val (.int p2), .val (.int p3), .unset, .unset, .unset, .unset, .unset, .unset, .unset] [(.ref w_XOR), (.int (10 : Int32)), (.ref b1), (.ref b1)])) rfl rfl (hb hby at_75)
  have N23 := Fr.snoc X23 N21 (Nat.le_trans Z0 sb1)
  have V23 : Arv Z h23 b1 k1 (.object "com/example/subscript/subscript/Nodes$Operator") (11 : Int32) [(.ref w_ADD), (.ref w_SUBTRACT), (.ref w_MULTIPLY), (.ref w_DIVIDE), (.ref w_REMAINDER), (.ref w_SHIFT_LEFT), (.ref w_SHIFT_RIGHT), (.ref w_UNSIGNED_SHIFT_RIGHT), (.ref w_AND), (.ref w_OR), (.ref w_XOR)] .null := Arv.set Ar23 q23 S23 P23 H23 G23 rfl W23 10 rfl (Nat.le_of_ble_eq_true rfl)
  have Ex23 := own_extw Ex21 W23 sb1
  refine own_byW (f' := (mkF m 76 #[.val (.int p1), .val (.int p2), .val (.int p3), .unset, .unset, .unset, .unset, .unset, .unset, .unset] [(.ref b1)])) st23 ?_
  refine own_byW (f' := (mkF m 77 #[.val (.int p1), .val (.int p2), .val (.int p3), .val (.ref b1), .unset, .unset, .unset, .unset, .unset, .unset] [])) (fun t h => XS.astoreN X23.here hx rfl (hb hby at_76) rfl rfl (l' := #[.val (.int p1), .val (.int p2), .val (.int p3), .val (.ref b1), .unset, .unset, .unset, .unset, .unset, .unset]) rfl h) ?_
  refine own_byW (f' := (mkF m 78 #[.val (.int p1), .val (.int p2), .val (.int p3), .val (.ref b1), .unset, .unset, .unset, .unset, .unset, .unset] [(.int p1)])) (fun t h => XS.iloadN X23.here hx rfl (hb hby at_77) rfl h) ?_
  refine own_byW (f' := (mkF m 80 #[.val (.int p1), .val (.int p2), .val (.int p3), .val (.ref b1), .unset, .unset, .unset, .unset, .unset, .unset] [(.int (2147483647 : Int32)), (.int p1)])) (fun t h => X23.ldcI hx hown (mvT hZ (hw _ (List.mem_of_getElem? (i := 26) rfl))) rfl (hb hby at_78) h) ?_
  refine own_byW (f' := (mkF m 81 #[.val (.int p1), .val (.int p2), .val (.int p3), .val (.ref b1), .unset, .unset, .unset, .unset, .unset, .unset] [(.int (p1 &&& (2147483647 : Int32)))])) (fun t h => XS.iand X23.here hx rfl (hb hby at_80) rfl h) ?_
  refine own_byW (f' := (mkF m 83 #[.val (.int p1), .val (.int p2), .val (.int p3), .val (.ref b1), .unset, .unset, .unset, .unset, .unset, .unset] [(.int (11 : Int32)), (.int (p1 &&& (2147483647 : Int32)))])) (fun t h => XT.bipushV X23.here hx rfl (11 : Int32) (hb hby at_81) rfl h) ?_
  refine own_byW (f' := (mkF m 84 #[.val (.int p1), .val (.int p2), .val (.int p3), .val (.ref b1), .unset, .unset, .unset, .unset, .unset, .unset] [(.int ((p1 &&& (2147483647 : Int32)) % (11 : Int32)))])) (fun t h => iremM X23 hx rfl (hb hby at_83) rfl (by decide) h) ?_
  refine own_byW (f' := (mkF m 86 #[.val (.int p1), .val (.int p2), .val (.int p3), .val (.ref b1), .val (.int ((p1 &&& (2147483647 : Int32)) % (11 : Int32))), .unset, .unset, .unset, .unset, .unset] [])) (fun t h => XS.istore X23.here hx rfl (hb hby at_84) rfl (l' := #[.val (.int p1), .val (.int p2), .val (.int p3), .val (.ref b1), .val (.int ((p1 &&& (2147483647 : Int32)) % (11 : Int32))), .unset, .unset, .unset, .unset, .unset]) rfl h) ?_
  have hk := own_k p1
  generalize ((p1 &&& (2147483647 : Int32)) % (11 : Int32)) = k at hk ⊢
  rcases hk with rfl | rfl | rfl | rfl | rfl | rfl | rfl | rfl | rfl | rfl | rfl
  · refine own_byW (f' := (mkF m 87 #[.val (.int p1), .val (.int p2), .val (.int p3), .val (.ref b1), .val (.int (0 : Int32)), .unset, .unset, .unset, .unset, .unset] [(.ref b1)])) (fun t h => XS.aloadN X23.here hx rfl (hb hby at_86) rfl rfl h) ?_
    refine own_byW (f' := (mkF m 89 #[.val (.int p1), .val (.int p2), .val (.int p3), .val (.ref b1), .val (.int (0 : Int32)), .unset, .unset, .unset, .unset, .unset] [(.int (0 : Int32)), (.ref b1)])) (fun t h => XS.iload X23.here hx rfl (hb hby at_87) rfl h) ?_
    obtain ⟨cl24, Ar24, q24, S24, P24, H24, G24⟩ := V23
    refine own_byW (f' := (mkF m 90 #[.val (.int p1), .val (.int p2), .val (.int p3), .val (.ref b1), .val (.int (0 : Int32)), .unset, .unset, .unset, .unset, .unset] [(.ref w_ADD)])) (fun t h => X23.aaload hx (j := (0 : Int32)) (v := (.ref w_ADD)) (by rw [e23]; exact Ar24.1) (State.isArrayOf_alike hZ.alike Ar24.2.1) rfl Ar24.2.2 (by rw [S24]; decide) (Has.at H24 (by rw [S24]; decide) rfl) (g := (mkF m 89 #[.val (.int p1), .val (.int p2), .val (.int p3), .val (.ref b1), .val (.int (0 : Int32)), .unset, .unset, .unset, .unset, .unset] [(.int (0 : Int32)), (.ref b1)])) rfl rfl (hb hby at_89) t h) ?_
    refine own_byW (f' := (mkF m 92 #[.val (.int p1), .val (.int p2), .val (.int p3), .val (.ref b1), .val (.int (0 : Int32)), .val (.ref w_ADD), .unset, .unset, .unset, .unset] [])) (fun t h => XS.astore X23.here hx rfl (hb hby at_90) rfl rfl (l' := #[.val (.int p1), .val (.int p2), .val (.int p3), .val (.ref b1), .val (.int (0 : Int32)), .val (.ref w_ADD), .unset, .unset, .unset, .unset]) rfl h) ?_
    refine own_byW (f' := (mkF m 94 #[.val (.int p1), .val (.int p2), .val (.int p3), .val (.ref b1), .val (.int (0 : Int32)), .val (.ref w_ADD), .unset, .unset, .unset, .unset] [(.ref w_ADD)])) (fun t h => XS.aload X23.here hx rfl (hb hby at_92) rfl rfl h) ?_
    obtain ⟨cq25, kq25, q25a, q25b, q25c⟩ := isOf hZ e23 (E_ADD.ext Ex23)
    obtain ⟨v25, _, ⟨T25, L25, k25, n25⟩, -, X25, ⟨Lc25, hQ25, l25, y25, z25⟩, st25⟩ := X23.virtualBack hx (y := (⟨"com/example/subscript/subscript/Nodes$Operator", "isBitwise", "()Z"⟩ : MethodName)) (z := (⟨"com/example/subscript/subscript/Nodes$Operator", "isBitwise", "()Z"⟩ : MethodName)) hown (mvT hZ (hw _ (List.mem_of_getElem? (i := 27) rfl))) (mvT hZ (hw _ (List.mem_of_getElem? (i := 28) rfl))) (notFace_of_selects (args := #[]) (mvT hZ (hw _ (List.mem_of_getElem? (i := 30) rfl)))) (mvT hZ (hw _ (List.mem_of_getElem? (i := 30) rfl))) (mvT hZ (hw _ (List.mem_of_getElem? (i := 29) rfl))) (by decide) (backOf (W := 0) (rm1 l Z a0 hw [] w_ADD w_AND w_OR w_XOR h23 n0 (Nat.le_trans Z0 Ex23.1) (S_AND.ext Ex23) (S_OR.ext Ex23) (S_XOR.ext Ex23)) hZ (hw _ (List.mem_of_getElem? (i := 31) rfl)) (hw _ (List.mem_of_getElem? (i := 3) rfl)) (by decide) (by decide)) q25a q25c (g := (mkF m 94 #[.val (.int p1), .val (.int p2), .val (.int p3), .val (.ref b1), .val (.int (0 : Int32)), .val (.ref w_ADD), .unset, .unset, .unset, .unset] [(.ref w_ADD)])) rfl (by rw [hml]; rfl) (Steps.refl _) (argsL := []) (rest := []) (lenOf own_pd1 rfl) rfl (by show 2 * 0 + _ ≤ _; exact Nat.le_of_eq rfl) (hb hby at_94) (fun _ _ => ⟨rfl, e23, (by decide : 1 + 0 ≤ _), (by decide : 11 + 0 ≤ _)⟩)
    dsimp only [Pt.U, Pt.locs, Pt.cells, Pt.slots] at X25 l25 y25 z25 st25 hQ25
    subst l25 y25 z25
    obtain ⟨hv25, Nc25, e25⟩ := hQ25
    have N25 := Fr.app N23 Nc25
    obtain rfl : v25 = some (.int (0 : Int32)) := hv25.trans (by simp [ne_ADD_AND, ne_ADD_OR, ne_ADD_XOR])
    refine own_byW (f' := (mkF m 97 #[.val (.int p1), .val (.int p2), .val (.int p3), .val (.ref b1), .val (.int (0 : Int32)), .val (.ref w_ADD), .unset, .unset, .unset, .unset] [(.int (0 : Int32))])) (fun t h => st25.trans h) ?_
    refine own_byW (f' := (mkF m 99 #[.val (.int p1), .val (.int p2), .val (.int p3), .val (.ref b1), .val (.int (0 : Int32)), .val (.ref w_ADD), .val (.int (0 : Int32)), .unset, .unset, .unset] [])) (fun t h => XS.istore X25.here hx rfl (hb hby at_97) rfl (l' := #[.val (.int p1), .val (.int p2), .val (.int p3), .val (.ref b1), .val (.int (0 : Int32)), .val (.ref w_ADD), .val (.int (0 : Int32)), .unset, .unset, .unset]) rfl h) ?_
    refine own_byW (f' := (mkF m 101 #[.val (.int p1), .val (.int p2), .val (.int p3), .val (.ref b1), .val (.int (0 : Int32)), .val (.ref w_ADD), .val (.int (0 : Int32)), .unset, .unset, .unset] [(.int (0 : Int32))])) (fun t h => XS.iload X25.here hx rfl (hb hby at_99) rfl h) ?_
    refine own_byW (f' := (mkF m 103 #[.val (.int p1), .val (.int p2), .val (.int p3), .val (.ref b1), .val (.int (0 : Int32)), .val (.ref w_ADD), .val (.int (0 : Int32)), .unset, .unset, .unset] [(.int (8 : Int32)), (.int (0 : Int32))])) (fun t h => XT.bipushV X25.here hx rfl (8 : Int32) (hb hby at_101) rfl h) ?_
    refine own_byW (f' := (mkF m 110 #[.val (.int p1), .val (.int p2), .val (.int p3), .val (.ref b1), .val (.int (0 : Int32)), .val (.ref w_ADD), .val (.int (0 : Int32)), .unset, .unset, .unset] [])) (fun t h => XS.icmpYes X25.here hx rfl (pc0 := 103) (pc' := 110) rfl (hb hby at_103) rfl (by decide) (by decide) (by decide) h) ?_
    refine own_byW (f' := (mkF m 111 #[.val (.int p1), .val (.int p2), .val (.int p3), .val (.ref b1), .val (.int (0 : Int32)), .val (.ref w_ADD), .val (.int (0 : Int32)), .unset, .unset, .unset] [(.int (0 : Int32))])) (fun t h => XS.iconst X25.here hx rfl (hb hby at_110) h) ?_
    refine own_byW (f' := (mkF m 113 #[.val (.int p1), .val (.int p2), .val (.int p3), .val (.ref b1), .val (.int (0 : Int32)), .val (.ref w_ADD), .val (.int (0 : Int32)), .val (.int (0 : Int32)), .unset, .unset] [])) (fun t h => XS.istore X25.here hx rfl (hb hby at_111) rfl (l' := #[.val (.int p1), .val (.int p2), .val (.int p3), .val (.ref b1), .val (.int (0 : Int32)), .val (.ref w_ADD), .val (.int (0 : Int32)), .val (.int (0 : Int32)), .unset, .unset]) rfl h) ?_
    refine own_byW (f' := (mkF m 115 #[.val (.int p1), .val (.int p2), .val (.int p3), .val (.ref b1), .val (.int (0 : Int32)), .val (.ref w_ADD), .val (.int (0 : Int32)), .val (.int (0 : Int32)), .unset, .unset] [(.int (0 : Int32))])) (fun t h => XS.iload X25.here hx rfl (hb hby at_113) rfl h) ?_
    refine own_byW (f' := (mkF m 117 #[.val (.int p1), .val (.int p2), .val (.int p3), .val (.ref b1), .val (.int (0 : Int32)), .val (.ref w_ADD), .val (.int (0 : Int32)), .val (.int (0 : Int32)), .unset, .unset] [(.int (0 : Int32)), (.int (0 : Int32))])) (fun t h => XS.iload X25.here hx rfl (hb hby at_115) rfl h) ?_
    refine own_byW (f' := (mkF m 122 #[.val (.int p1), .val (.int p2), .val (.int p3), .val (.ref b1), .val (.int (0 : Int32)), .val (.ref w_ADD), .val (.int (0 : Int32)), .val (.int (0 : Int32)), .unset, .unset] [])) (fun t h => XS.icmpYes X25.here hx rfl (pc0 := 117) (pc' := 122) rfl (hb hby at_117) rfl (by decide) (by decide) (by decide) h) ?_
    refine own_byW (f' := (mkF m 124 #[.val (.int p1), .val (.int p2), .val (.int p3), .val (.ref b1), .val (.int (0 : Int32)), .val (.ref w_ADD), .val (.int (0 : Int32)), .val (.int (0 : Int32)), .unset, .unset] [(.int (0 : Int32))])) (fun t h => XS.iload X25.here hx rfl (hb hby at_122) rfl h) ?_
    refine own_byW (f' := (mkF m 195 #[.val (.int p1), .val (.int p2), .val (.int p3), .val (.ref b1), .val (.int (0 : Int32)), .val (.ref w_ADD), .val (.int (0 : Int32)), .val (.int (0 : Int32)), .unset, .unset] [])) (fun t h => XS.ifYes X25.here hx rfl (pc0 := 124) (pc' := 195) rfl (hb hby at_124) rfl (by decide) (by decide) (by decide) h) ?_
    refine own_byW (f' := (mkF m 196 #[.val (.int p1), .val (.int p2), .val (.int p3), .val (.ref b1), .val (.int (0 : Int32)), .val (.ref w_ADD), .val (.int (0 : Int32)), .val (.int (0 : Int32)), .unset, .unset] [(.int (1 : Int32))])) (fun t h => XS.iconst X25.here hx rfl (hb hby at_195) h) ?_
    obtain ⟨fs, hr, hrun, hended, hW, hsame⟩ := X25.leave (v := some (.int (1 : Int32))) (fun h => by rw [Bd.returns] at h; cases h)
    refine own_mkW ⟨_, _, retN X25 hx (t := .boolean) Bd.returns (by simp) (hb hby at_196) hr, hrun, hended, _, _, rfl, ?_, ReturnedEndW.of_narrow ⟨_, rfl⟩ hW (hsame.mono (by decide) (by decide))⟩
    show Q0 n0 _ T25.heap _
    rw [e25]
    exact ⟨rfl, N25⟩
  · refine own_byW (f' := (mkF m 87 #[.val (.int p1), .val (.int p2), .val (.int p3), .val (.ref b1), .val (.int (1 : Int32)), .unset, .unset, .unset, .unset, .unset] [(.ref b1)])) (fun t h => XS.aloadN X23.here hx rfl (hb hby at_86) rfl rfl h) ?_
    refine own_byW (f' := (mkF m 89 #[.val (.int p1), .val (.int p2), .val (.int p3), .val (.ref b1), .val (.int (1 : Int32)), .unset, .unset, .unset, .unset, .unset] [(.int (1 : Int32)), (.ref b1)])) (fun t h => XS.iload X23.here hx rfl (hb hby at_87) rfl h) ?_
    obtain ⟨cl26, Ar26, q26, S26, P26, H26, G26⟩ := V23
    refine own_byW (f' := (mkF m 90 #[.val (.int p1), .val (.int p2), .val (.int p3), .val (.ref b1), .val (.int (1 : Int32)), .unset, .unset, .unset, .unset, .unset] [(.ref w_SUBTRACT)])) (fun t h => X23.aaload hx (j := (1 : Int32)) (v := (.ref w_SUBTRACT)) (by rw [e23]; exact Ar26.1) (State.isArrayOf_alike hZ.alike Ar26.2.1) rfl Ar26.2.2 (by rw [S26]; decide) (Has.at H26 (by rw [S26]; decide) rfl) (g := (mkF m 89 #[.val (.int p1), .val (.int p2), .val (.int p3), .val (.ref b1), .val (.int (1 : Int32)), .unset, .unset, .unset, .unset, .unset] [(.int (1 : Int32)), (.ref b1)])) rfl rfl (hb hby at_89) t h) ?_
    refine own_byW (f' := (mkF m 92 #[.val (.int p1), .val (.int p2), .val (.int p3), .val (.ref b1), .val (.int (1 : Int32)), .val (.ref w_SUBTRACT), .unset, .unset, .unset, .unset] [])) (fun t h => XS.astore X23.here hx rfl (hb hby at_90) rfl rfl (l' := #[.val (.int p1), .val (.int p2), .val (.int p3), .val (.ref b1), .val (.int (1 : Int32)), .val (.ref w_SUBTRACT), .unset, .unset, .unset, .unset]) rfl h) ?_
    refine own_byW (f' := (mkF m 94 #[.val (.int p1), .val (.int p2), .val (.int p3), .val (.ref b1), .val (.int (1 : Int32)), .val (.ref w_SUBTRACT), .unset, .unset, .unset, .unset] [(.ref w_SUBTRACT)])) (fun t h => XS.aload X23.here hx rfl (hb hby at_92) rfl rfl h) ?_
    obtain ⟨cq27, kq27, q27a, q27b, q27c⟩ := isOf hZ e23 (E_SUBTRACT.ext Ex23)
    obtain ⟨v27, _, ⟨T27, L27, k27, n27⟩, -, X27, ⟨Lc27, hQ27, l27, y27, z27⟩, st27⟩ := X23.virtualBack hx (y := (⟨"com/example/subscript/subscript/Nodes$Operator", "isBitwise", "()Z"⟩ : MethodName)) (z := (⟨"com/example/subscript/subscript/Nodes$Operator", "isBitwise", "()Z"⟩ : MethodName)) hown (mvT hZ (hw _ (List.mem_of_getElem? (i := 27) rfl))) (mvT hZ (hw _ (List.mem_of_getElem? (i := 28) rfl))) (notFace_of_selects (args := #[]) (mvT hZ (hw _ (List.mem_of_getElem? (i := 30) rfl)))) (mvT hZ (hw _ (List.mem_of_getElem? (i := 30) rfl))) (mvT hZ (hw _ (List.mem_of_getElem? (i := 29) rfl))) (by decide) (backOf (W := 0) (rm1 l Z a0 hw [] w_SUBTRACT w_AND w_OR w_XOR h23 n0 (Nat.le_trans Z0 Ex23.1) (S_AND.ext Ex23) (S_OR.ext Ex23) (S_XOR.ext Ex23)) hZ (hw _ (List.mem_of_getElem? (i := 31) rfl)) (hw _ (List.mem_of_getElem? (i := 3) rfl)) (by decide) (by decide)) q27a q27c (g := (mkF m 94 #[.val (.int p1), .val (.int p2), .val (.int p3), .val (.ref b1), .val (.int (1 : Int32)), .val (.ref w_SUBTRACT), .unset, .unset, .unset, .unset] [(.ref w_SUBTRACT)])) rfl (by rw [hml]; rfl) (Steps.refl _) (argsL := []) (rest := []) (lenOf own_pd1 rfl) rfl (by show 2 * 0 + _ ≤ _; exact Nat.le_of_eq rfl) (hb hby at_94) (fun _ _ => ⟨rfl, e23, (by decide : 1 + 0 ≤ _), (by decide : 11 + 0 ≤ _)⟩)
    dsimp only [Pt.U, Pt.locs, Pt.cells, Pt.slots] at X27 l27 y27 z27 st27 hQ27
    subst l27 y27 z27
    obtain ⟨hv27, Nc27, e27⟩ := hQ27
    have N27 := Fr.app N23 Nc27
    obtain rfl : v27 = some (.int (0 : Int32)) := hv27.trans (by simp [ne_SUBTRACT_AND, ne_SUBTRACT_OR, ne_SUBTRACT_XOR])
    refine own_byW (f' := (mkF m 97 #[.val (.int p1), .val (.int p2), .val (.int p3), .val (.ref b1), .val (.int (1 : Int32)), .val (.ref w_SUBTRACT), .unset, .unset, .unset, .unset] [(.int (0 : Int32))])) (fun t h => st27.trans h) ?_
    refine own_byW (f' := (mkF m 99 #[.val (.int p1), .val (.int p2), .val (.int p3), .val (.ref b1), .val (.int (1 : Int32)), .val (.ref w_SUBTRACT), .val (.int (0 : Int32)), .unset, .unset, .unset] [])) (fun t h => XS.istore X27.here hx rfl (hb hby at_97) rfl (l' := #[.val (.int p1), .val (.int p2), .val (.int p3), .val (.ref b1), .val (.int (1 : Int32)), .val (.ref w_SUBTRACT), .val (.int (0 : Int32)), .unset, .unset, .unset]) rfl h) ?_
    refine own_byW (f' := (mkF m 101 #[.val (.int p1), .val (.int p2), .val (.int p3), .val (.ref b1), .val (.int (1 : Int32)), .val (.ref w_SUBTRACT), .val (.int (0 : Int32)), .unset, .unset, .unset] [(.int (1 : Int32))])) (fun t h => XS.iload X27.here hx rfl (hb hby at_99) rfl h) ?_
    refine own_byW (f' := (mkF m 103 #[.val (.int p1), .val (.int p2), .val (.int p3), .val (.ref b1), .val (.int (1 : Int32)), .val (.ref w_SUBTRACT), .val (.int (0 : Int32)), .unset, .unset, .unset] [(.int (8 : Int32)), (.int (1 : Int32))])) (fun t h => XT.bipushV X27.here hx rfl (8 : Int32) (hb hby at_101) rfl h) ?_
    refine own_byW (f' := (mkF m 110 #[.val (.int p1), .val (.int p2), .val (.int p3), .val (.ref b1), .val (.int (1 : Int32)), .val (.ref w_SUBTRACT), .val (.int (0 : Int32)), .unset, .unset, .unset] [])) (fun t h => XS.icmpYes X27.here hx rfl (pc0 := 103) (pc' := 110) rfl (hb hby at_103) rfl (by decide) (by decide) (by decide) h) ?_
    refine own_byW (f' := (mkF m 111 #[.val (.int p1), .val (.int p2), .val (.int p3), .val (.ref b1), .val (.int (1 : Int32)), .val (.ref w_SUBTRACT), .val (.int (0 : Int32)), .unset, .unset, .unset] [(.int (0 : Int32))])) (fun t h => XS.iconst X27.here hx rfl (hb hby at_110) h) ?_
    refine own_byW (f' := (mkF m 113 #[.val (.int p1), .val (.int p2), .val (.int p3), .val (.ref b1), .val (.int (1 : Int32)), .val (.ref w_SUBTRACT), .val (.int (0 : Int32)), .val (.int (0 : Int32)), .unset, .unset] [])) (fun t h => XS.istore X27.here hx rfl (hb hby at_111) rfl (l' := #[.val (.int p1), .val (.int p2), .val (.int p3), .val (.ref b1), .val (.int (1 : Int32)), .val (.ref w_SUBTRACT), .val (.int (0 : Int32)), .val (.int (0 : Int32)), .unset, .unset]) rfl h) ?_
    refine own_byW (f' := (mkF m 115 #[.val (.int p1), .val (.int p2), .val (.int p3), .val (.ref b1), .val (.int (1 : Int32)), .val (.ref w_SUBTRACT), .val (.int (0 : Int32)), .val (.int (0 : Int32)), .unset, .unset] [(.int (0 : Int32))])) (fun t h => XS.iload X27.here hx rfl (hb hby at_113) rfl h) ?_
    refine own_byW (f' := (mkF m 117 #[.val (.int p1), .val (.int p2), .val (.int p3), .val (.ref b1), .val (.int (1 : Int32)), .val (.ref w_SUBTRACT), .val (.int (0 : Int32)), .val (.int (0 : Int32)), .unset, .unset] [(.int (0 : Int32)), (.int (0 : Int32))])) (fun t h => XS.iload X27.here hx rfl (hb hby at_115) rfl h) ?_
    refine own_byW (f' := (mkF m 122 #[.val (.int p1), .val (.int p2), .val (.int p3), .val (.ref b1), .val (.int (1 : Int32)), .val (.ref w_SUBTRACT), .val (.int (0 : Int32)), .val (.int (0 : Int32)), .unset, .unset] [])) (fun t h => XS.icmpYes X27.here hx rfl (pc0 := 117) (pc' := 122) rfl (hb hby at_117) rfl (by decide) (by decide) (by decide) h) ?_
    refine own_byW (f' := (mkF m 124 #[.val (.int p1), .val (.int p2), .val (.int p3), .val (.ref b1), .val (.int (1 : Int32)), .val (.ref w_SUBTRACT), .val (.int (0 : Int32)), .val (.int (0 : Int32)), .unset, .unset] [(.int (0 : Int32))])) (fun t h => XS.iload X27.here hx rfl (hb hby at_122) rfl h) ?_
    refine own_byW (f' := (mkF m 195 #[.val (.int p1), .val (.int p2), .val (.int p3), .val (.ref b1), .val (.int (1 : Int32)), .val (.ref w_SUBTRACT), .val (.int (0 : Int32)), .val (.int (0 : Int32)), .unset, .unset] [])) (fun t h => XS.ifYes X27.here hx rfl (pc0 := 124) (pc' := 195) rfl (hb hby at_124) rfl (by decide) (by decide) (by decide) h) ?_
    refine own_byW (f' := (mkF m 196 #[.val (.int p1), .val (.int p2), .val (.int p3), .val (.ref b1), .val (.int (1 : Int32)), .val (.ref w_SUBTRACT), .val (.int (0 : Int32)), .val (.int (0 : Int32)), .unset, .unset] [(.int (1 : Int32))])) (fun t h => XS.iconst X27.here hx rfl (hb hby at_195) h) ?_
    obtain ⟨fs, hr, hrun, hended, hW, hsame⟩ := X27.leave (v := some (.int (1 : Int32))) (fun h => by rw [Bd.returns] at h; cases h)
    refine own_mkW ⟨_, _, retN X27 hx (t := .boolean) Bd.returns (by simp) (hb hby at_196) hr, hrun, hended, _, _, rfl, ?_, ReturnedEndW.of_narrow ⟨_, rfl⟩ hW (hsame.mono (by decide) (by decide))⟩
    show Q0 n0 _ T27.heap _
    rw [e27]
    exact ⟨rfl, N27⟩
  · refine own_byW (f' := (mkF m 87 #[.val (.int p1), .val (.int p2), .val (.int p3), .val (.ref b1), .val (.int (2 : Int32)), .unset, .unset, .unset, .unset, .unset] [(.ref b1)])) (fun t h => XS.aloadN X23.here hx rfl (hb hby at_86) rfl rfl h) ?_
    refine own_byW (f' := (mkF m 89 #[.val (.int p1), .val (.int p2), .val (.int p3), .val (.ref b1), .val (.int (2 : Int32)), .unset, .unset, .unset, .unset, .unset] [(.int (2 : Int32)), (.ref b1)])) (fun t h => XS.iload X23.here hx rfl (hb hby at_87) rfl h) ?_
    obtain ⟨cl28, Ar28, q28, S28, P28, H28, G28⟩ := V23
    refine own_byW (f' := (mkF m 90 #[.val (.int p1), .val (.int p2), .val (.int p3), .val (.ref b1), .val (.int (2 : Int32)), .unset, .unset, .unset, .unset, .unset] [(.ref w_MULTIPLY)])) (fun t h => X23.aaload hx (j := (2 : Int32)) (v := (.ref w_MULTIPLY)) (by rw [e23]; exact Ar28.1) (State.isArrayOf_alike hZ.alike Ar28.2.1) rfl Ar28.2.2 (by rw [S28]; decide) (Has.at H28 (by rw [S28]; decide) rfl) (g := (mkF m 89 #[.val (.int p1), .val (.int p2), .val (.int p3), .val (.ref b1), .val (.int (2 : Int32)), .unset, .unset, .unset, .unset, .unset] [(.int (2 : Int32)), (.ref b1)])) rfl rfl (hb hby at_89) t h) ?_
    refine own_byW (f' := (mkF m 92 #[.val (.int p1), .val (.int p2), .val (.int p3), .val (.ref b1), .val (.int (2 : Int32)), .val (.ref w_MULTIPLY), .unset, .unset, .unset, .unset] [])) (fun t h => XS.astore X23.here hx rfl (hb hby at_90) rfl rfl (l' := #[.val (.int p1), .val (.int p2), .val (.int p3), .val (.ref b1), .val (.int (2 : Int32)), .val (.ref w_MULTIPLY), .unset, .unset, .unset, .unset]) rfl h) ?_
    refine own_byW (f' := (mkF m 94 #[.val (.int p1), .val (.int p2), .val (.int p3), .val (.ref b1), .val (.int (2 : Int32)), .val (.ref w_MULTIPLY), .unset, .unset, .unset, .unset] [(.ref w_MULTIPLY)])) (fun t h => XS.aload X23.here hx rfl (hb hby at_92) rfl rfl h) ?_
    obtain ⟨cq29, kq29, q29a, q29b, q29c⟩ := isOf hZ e23 (E_MULTIPLY.ext Ex23)
    obtain ⟨v29, _, ⟨T29, L29, k29, n29⟩, -, X29, ⟨Lc29, hQ29, l29, y29, z29⟩, st29⟩ := X23.virtualBack hx (y := (⟨"com/example/subscript/subscript/Nodes$Operator", "isBitwise", "()Z"⟩ : MethodName)) (z := (⟨"com/example/subscript/subscript/Nodes$Operator", "isBitwise", "()Z"⟩ : MethodName)) hown (mvT hZ (hw _ (List.mem_of_getElem? (i := 27) rfl))) (mvT hZ (hw _ (List.mem_of_getElem? (i := 28) rfl))) (notFace_of_selects (args := #[]) (mvT hZ (hw _ (List.mem_of_getElem? (i := 30) rfl)))) (mvT hZ (hw _ (List.mem_of_getElem? (i := 30) rfl))) (mvT hZ (hw _ (List.mem_of_getElem? (i := 29) rfl))) (by decide) (backOf (W := 0) (rm1 l Z a0 hw [] w_MULTIPLY w_AND w_OR w_XOR h23 n0 (Nat.le_trans Z0 Ex23.1) (S_AND.ext Ex23) (S_OR.ext Ex23) (S_XOR.ext Ex23)) hZ (hw _ (List.mem_of_getElem? (i := 31) rfl)) (hw _ (List.mem_of_getElem? (i := 3) rfl)) (by decide) (by decide)) q29a q29c (g := (mkF m 94 #[.val (.int p1), .val (.int p2), .val (.int p3), .val (.ref b1), .val (.int (2 : Int32)), .val (.ref w_MULTIPLY), .unset, .unset, .unset, .unset] [(.ref w_MULTIPLY)])) rfl (by rw [hml]; rfl) (Steps.refl _) (argsL := []) (rest := []) (lenOf own_pd1 rfl) rfl (by show 2 * 0 + _ ≤ _; exact Nat.le_of_eq rfl) (hb hby at_94) (fun _ _ => ⟨rfl, e23, (by decide : 1 + 0 ≤ _), (by decide : 11 + 0 ≤ _)⟩)
    dsimp only [Pt.U, Pt.locs, Pt.cells, Pt.slots] at X29 l29 y29 z29 st29 hQ29
    subst l29 y29 z29
    obtain ⟨hv29, Nc29, e29⟩ := hQ29
    have N29 := Fr.app N23 Nc29
    obtain rfl : v29 = some (.int (0 : Int32)) := hv29.trans (by simp [ne_MULTIPLY_AND, ne_MULTIPLY_OR, ne_MULTIPLY_XOR])
    refine own_byW (f' := (mkF m 97 #[.val (.int p1), .val (.int p2), .val (.int p3), .val (.ref b1), .val (.int (2 : Int32)), .val (.ref w_MULTIPLY), .unset, .unset, .unset, .unset] [(.int (0 : Int32))])) (fun t h => st29.trans h) ?_
    refine own_byW (f' := (mkF m 99 #[.val (.int p1), .val (.int p2), .val (.int p3), .val (.ref b1), .val (.int (2 : Int32)), .val (.ref w_MULTIPLY), .val (.int (0 : Int32)), .unset, .unset, .unset] [])) (fun t h => XS.istore X29.here hx rfl (hb hby at_97) rfl (l' := #[.val (.int p1), .val (.int p2), .val (.int p3), .val (.ref b1), .val (.int (2 : Int32)), .val (.ref w_MULTIPLY), .val (.int (0 : Int32)), .unset, .unset, .unset]) rfl h) ?_
    refine own_byW (f' := (mkF m 101 #[.val (.int p1), .val (.int p2), .val (.int p3), .val (.ref b1), .val (.int (2 : Int32)), .val (.ref w_MULTIPLY), .val (.int (0 : Int32)), .unset, .unset, .unset] [(.int (2 : Int32))])) (fun t h => XS.iload X29.here hx rfl (hb hby at_99) rfl h) ?_
    refine own_byW (f' := (mkF m 103 #[.val (.int p1), .val (.int p2), .val (.int p3), .val (.ref b1), .val (.int (2 : Int32)), .val (.ref w_MULTIPLY), .val (.int (0 : Int32)), .unset, .unset, .unset] [(.int (8 : Int32)), (.int (2 : Int32))])) (fun t h => XT.bipushV X29.here hx rfl (8 : Int32) (hb hby at_101) rfl h) ?_
    refine own_byW (f' := (mkF m 110 #[.val (.int p1), .val (.int p2), .val (.int p3), .val (.ref b1), .val (.int (2 : Int32)), .val (.ref w_MULTIPLY), .val (.int (0 : Int32)), .unset, .unset, .unset] [])) (fun t h => XS.icmpYes X29.here hx rfl (pc0 := 103) (pc' := 110) rfl (hb hby at_103) rfl (by decide) (by decide) (by decide) h) ?_
    refine own_byW (f' := (mkF m 111 #[.val (.int p1), .val (.int p2), .val (.int p3), .val (.ref b1), .val (.int (2 : Int32)), .val (.ref w_MULTIPLY), .val (.int (0 : Int32)), .unset, .unset, .unset] [(.int (0 : Int32))])) (fun t h => XS.iconst X29.here hx rfl (hb hby at_110) h) ?_
    refine own_byW (f' := (mkF m 113 #[.val (.int p1), .val (.int p2), .val (.int p3), .val (.ref b1), .val (.int (2 : Int32)), .val (.ref w_MULTIPLY), .val (.int (0 : Int32)), .val (.int (0 : Int32)), .unset, .unset] [])) (fun t h => XS.istore X29.here hx rfl (hb hby at_111) rfl (l' := #[.val (.int p1), .val (.int p2), .val (.int p3), .val (.ref b1), .val (.int (2 : Int32)), .val (.ref w_MULTIPLY), .val (.int (0 : Int32)), .val (.int (0 : Int32)), .unset, .unset]) rfl h) ?_
    refine own_byW (f' := (mkF m 115 #[.val (.int p1), .val (.int p2), .val (.int p3), .val (.ref b1), .val (.int (2 : Int32)), .val (.ref w_MULTIPLY), .val (.int (0 : Int32)), .val (.int (0 : Int32)), .unset, .unset] [(.int (0 : Int32))])) (fun t h => XS.iload X29.here hx rfl (hb hby at_113) rfl h) ?_
    refine own_byW (f' := (mkF m 117 #[.val (.int p1), .val (.int p2), .val (.int p3), .val (.ref b1), .val (.int (2 : Int32)), .val (.ref w_MULTIPLY), .val (.int (0 : Int32)), .val (.int (0 : Int32)), .unset, .unset] [(.int (0 : Int32)), (.int (0 : Int32))])) (fun t h => XS.iload X29.here hx rfl (hb hby at_115) rfl h) ?_
    refine own_byW (f' := (mkF m 122 #[.val (.int p1), .val (.int p2), .val (.int p3), .val (.ref b1), .val (.int (2 : Int32)), .val (.ref w_MULTIPLY), .val (.int (0 : Int32)), .val (.int (0 : Int32)), .unset, .unset] [])) (fun t h => XS.icmpYes X29.here hx rfl (pc0 := 117) (pc' := 122) rfl (hb hby at_117) rfl (by decide) (by decide) (by decide) h) ?_
    refine own_byW (f' := (mkF m 124 #[.val (.int p1), .val (.int p2), .val (.int p3), .val (.ref b1), .val (.int (2 : Int32)), .val (.ref w_MULTIPLY), .val (.int (0 : Int32)), .val (.int (0 : Int32)), .unset, .unset] [(.int (0 : Int32))])) (fun t h => XS.iload X29.here hx rfl (hb hby at_122) rfl h) ?_
    refine own_byW (f' := (mkF m 195 #[.val (.int p1), .val (.int p2), .val (.int p3), .val (.ref b1), .val (.int (2 : Int32)), .val (.ref w_MULTIPLY), .val (.int (0 : Int32)), .val (.int (0 : Int32)), .unset, .unset] [])) (fun t h => XS.ifYes X29.here hx rfl (pc0 := 124) (pc' := 195) rfl (hb hby at_124) rfl (by decide) (by decide) (by decide) h) ?_
    refine own_byW (f' := (mkF m 196 #[.val (.int p1), .val (.int p2), .val (.int p3), .val (.ref b1), .val (.int (2 : Int32)), .val (.ref w_MULTIPLY), .val (.int (0 : Int32)), .val (.int (0 : Int32)), .unset, .unset] [(.int (1 : Int32))])) (fun t h => XS.iconst X29.here hx rfl (hb hby at_195) h) ?_
    obtain ⟨fs, hr, hrun, hended, hW, hsame⟩ := X29.leave (v := some (.int (1 : Int32))) (fun h => by rw [Bd.returns] at h; cases h)
    refine own_mkW ⟨_, _, retN X29 hx (t := .boolean) Bd.returns (by simp) (hb hby at_196) hr, hrun, hended, _, _, rfl, ?_, ReturnedEndW.of_narrow ⟨_, rfl⟩ hW (hsame.mono (by decide) (by decide))⟩
    show Q0 n0 _ T29.heap _
    rw [e29]
    exact ⟨rfl, N29⟩
  · refine own_byW (f' := (mkF m 87 #[.val (.int p1), .val (.int p2), .val (.int p3), .val (.ref b1), .val (.int (3 : Int32)), .unset, .unset, .unset, .unset, .unset] [(.ref b1)])) (fun t h => XS.aloadN X23.here hx rfl (hb hby at_86) rfl rfl h) ?_
    refine own_byW (f' := (mkF m 89 #[.val (.int p1), .val (.int p2), .val (.int p3), .val (.ref b1), .val (.int (3 : Int32)), .unset, .unset, .unset, .unset, .unset] [(.int (3 : Int32)), (.ref b1)])) (fun t h => XS.iload X23.here hx rfl (hb hby at_87) rfl h) ?_
    obtain ⟨cl30, Ar30, q30, S30, P30, H30, G30⟩ := V23
    refine own_byW (f' := (mkF m 90 #[.val (.int p1), .val (.int p2), .val (.int p3), .val (.ref b1), .val (.int (3 : Int32)), .unset, .unset, .unset, .unset, .unset] [(.ref w_DIVIDE)])) (fun t h => X23.aaload hx (j := (3 : Int32)) (v := (.ref w_DIVIDE)) (by rw [e23]; exact Ar30.1) (State.isArrayOf_alike hZ.alike Ar30.2.1) rfl Ar30.2.2 (by rw [S30]; decide) (Has.at H30 (by rw [S30]; decide) rfl) (g := (mkF m 89 #[.val (.int p1), .val (.int p2), .val (.int p3), .val (.ref b1), .val (.int (3 : Int32)), .unset, .unset, .unset, .unset, .unset] [(.int (3 : Int32)), (.ref b1)])) rfl rfl (hb hby at_89) t h) ?_
    refine own_byW (f' := (mkF m 92 #[.val (.int p1), .val (.int p2), .val (.int p3), .val (.ref b1), .val (.int (3 : Int32)), .val (.ref w_DIVIDE), .unset, .unset, .unset, .unset] [])) (fun t h => XS.astore X23.here hx rfl (hb hby at_90) rfl rfl (l' := #[.val (.int p1), .val (.int p2), .val (.int p3), .val (.ref b1), .val (.int (3 : Int32)), .val (.ref w_DIVIDE), .unset, .unset, .unset, .unset]) rfl h) ?_
    refine own_byW (f' := (mkF m 94 #[.val (.int p1), .val (.int p2), .val (.int p3), .val (.ref b1), .val (.int (3 : Int32)), .val (.ref w_DIVIDE), .unset, .unset, .unset, .unset] [(.ref w_DIVIDE)])) (fun t h => XS.aload X23.here hx rfl (hb hby at_92) rfl rfl h) ?_
    obtain ⟨cq31, kq31, q31a, q31b, q31c⟩ := isOf hZ e23 (E_DIVIDE.ext Ex23)
    obtain ⟨v31, _, ⟨T31, L31, k31, n31⟩, -, X31, ⟨Lc31, hQ31, l31, y31, z31⟩, st31⟩ := X23.virtualBack hx (y := (⟨"com/example/subscript/subscript/Nodes$Operator", "isBitwise", "()Z"⟩ : MethodName)) (z := (⟨"com/example/subscript/subscript/Nodes$Operator", "isBitwise", "()Z"⟩ : MethodName)) hown (mvT hZ (hw _ (List.mem_of_getElem? (i := 27) rfl))) (mvT hZ (hw _ (List.mem_of_getElem? (i := 28) rfl))) (notFace_of_selects (args := #[]) (mvT hZ (hw _ (List.mem_of_getElem? (i := 30) rfl)))) (mvT hZ (hw _ (List.mem_of_getElem? (i := 30) rfl))) (mvT hZ (hw _ (List.mem_of_getElem? (i := 29) rfl))) (by decide) (backOf (W := 0) (rm1 l Z a0 hw [] w_DIVIDE w_AND w_OR w_XOR h23 n0 (Nat.le_trans Z0 Ex23.1) (S_AND.ext Ex23) (S_OR.ext Ex23) (S_XOR.ext Ex23)) hZ (hw _ (List.mem_of_getElem? (i := 31) rfl)) (hw _ (List.mem_of_getElem? (i := 3) rfl)) (by decide) (by decide)) q31a q31c (g := (mkF m 94 #[.val (.int p1), .val (.int p2), .val (.int p3), .val (.ref b1), .val (.int (3 : Int32)), .val (.ref w_DIVIDE), .unset, .unset, .unset, .unset] [(.ref w_DIVIDE)])) rfl (by rw [hml]; rfl) (Steps.refl _) (argsL := []) (rest := []) (lenOf own_pd1 rfl) rfl (by show 2 * 0 + _ ≤ _; exact Nat.le_of_eq rfl) (hb hby at_94) (fun _ _ => ⟨rfl, e23, (by decide : 1 + 0 ≤ _), (by decide : 11 + 0 ≤ _)⟩)
    dsimp only [Pt.U, Pt.locs, Pt.cells, Pt.slots] at X31 l31 y31 z31 st31 hQ31
    subst l31 y31 z31
    obtain ⟨hv31, Nc31, e31⟩ := hQ31
    have N31 := Fr.app N23 Nc31
    obtain rfl : v31 = some (.int (0 : Int32)) := hv31.trans (by simp [ne_DIVIDE_AND, ne_DIVIDE_OR, ne_DIVIDE_XOR])
    refine own_byW (f' := (mkF m 97 #[.val (.int p1), .val (.int p2), .val (.int p3), .val (.ref b1), .val (.int (3 : Int32)), .val (.ref w_DIVIDE), .unset, .unset, .unset, .unset] [(.int (0 : Int32))])) (fun t h => st31.trans h) ?_
    refine own_byW (f' := (mkF m 99 #[.val (.int p1), .val (.int p2), .val (.int p3), .val (.ref b1), .val (.int (3 : Int32)), .val (.ref w_DIVIDE), .val (.int (0 : Int32)), .unset, .unset, .unset] [])) (fun t h => XS.istore X31.here hx rfl (hb hby at_97) rfl (l' := #[.val (.int p1), .val (.int p2), .val (.int p3), .val (.ref b1), .val (.int (3 : Int32)), .val (.ref w_DIVIDE), .val (.int (0 : Int32)), .unset, .unset, .unset]) rfl h) ?_
    refine own_byW (f' := (mkF m 101 #[.val (.int p1), .val (.int p2), .val (.int p3), .val (.ref b1), .val (.int (3 : Int32)), .val (.ref w_DIVIDE), .val (.int (0 : Int32)), .unset, .unset, .unset] [(.int (3 : Int32))])) (fun t h => XS.iload X31.here hx rfl (hb hby at_99) rfl h) ?_
    refine own_byW (f' := (mkF m 103 #[.val (.int p1), .val (.int p2), .val (.int p3), .val (.ref b1), .val (.int (3 : Int32)), .val (.ref w_DIVIDE), .val (.int (0 : Int32)), .unset, .unset, .unset] [(.int (8 : Int32)), (.int (3 : Int32))])) (fun t h => XT.bipushV X31.here hx rfl (8 : Int32) (hb hby at_101) rfl h) ?_
    refine own_byW (f' := (mkF m 110 #[.val (.int p1), .val (.int p2), .val (.int p3), .val (.ref b1), .val (.int (3 : Int32)), .val (.ref w_DIVIDE), .val (.int (0 : Int32)), .unset, .unset, .unset] [])) (fun t h => XS.icmpYes X31.here hx rfl (pc0 := 103) (pc' := 110) rfl (hb hby at_103) rfl (by decide) (by decide) (by decide) h) ?_
    refine own_byW (f' := (mkF m 111 #[.val (.int p1), .val (.int p2), .val (.int p3), .val (.ref b1), .val (.int (3 : Int32)), .val (.ref w_DIVIDE), .val (.int (0 : Int32)), .unset, .unset, .unset] [(.int (0 : Int32))])) (fun t h => XS.iconst X31.here hx rfl (hb hby at_110) h) ?_
    refine own_byW (f' := (mkF m 113 #[.val (.int p1), .val (.int p2), .val (.int p3), .val (.ref b1), .val (.int (3 : Int32)), .val (.ref w_DIVIDE), .val (.int (0 : Int32)), .val (.int (0 : Int32)), .unset, .unset] [])) (fun t h => XS.istore X31.here hx rfl (hb hby at_111) rfl (l' := #[.val (.int p1), .val (.int p2), .val (.int p3), .val (.ref b1), .val (.int (3 : Int32)), .val (.ref w_DIVIDE), .val (.int (0 : Int32)), .val (.int (0 : Int32)), .unset, .unset]) rfl h) ?_
    refine own_byW (f' := (mkF m 115 #[.val (.int p1), .val (.int p2), .val (.int p3), .val (.ref b1), .val (.int (3 : Int32)), .val (.ref w_DIVIDE), .val (.int (0 : Int32)), .val (.int (0 : Int32)), .unset, .unset] [(.int (0 : Int32))])) (fun t h => XS.iload X31.here hx rfl (hb hby at_113) rfl h) ?_
    refine own_byW (f' := (mkF m 117 #[.val (.int p1), .val (.int p2), .val (.int p3), .val (.ref b1), .val (.int (3 : Int32)), .val (.ref w_DIVIDE), .val (.int (0 : Int32)), .val (.int (0 : Int32)), .unset, .unset] [(.int (0 : Int32)), (.int (0 : Int32))])) (fun t h => XS.iload X31.here hx rfl (hb hby at_115) rfl h) ?_
    refine own_byW (f' := (mkF m 122 #[.val (.int p1), .val (.int p2), .val (.int p3), .val (.ref b1), .val (.int (3 : Int32)), .val (.ref w_DIVIDE), .val (.int (0 : Int32)), .val (.int (0 : Int32)), .unset, .unset] [])) (fun t h => XS.icmpYes X31.here hx rfl (pc0 := 117) (pc' := 122) rfl (hb hby at_117) rfl (by decide) (by decide) (by decide) h) ?_
    refine own_byW (f' := (mkF m 124 #[.val (.int p1), .val (.int p2), .val (.int p3), .val (.ref b1), .val (.int (3 : Int32)), .val (.ref w_DIVIDE), .val (.int (0 : Int32)), .val (.int (0 : Int32)), .unset, .unset] [(.int (0 : Int32))])) (fun t h => XS.iload X31.here hx rfl (hb hby at_122) rfl h) ?_
    refine own_byW (f' := (mkF m 195 #[.val (.int p1), .val (.int p2), .val (.int p3), .val (.ref b1), .val (.int (3 : Int32)), .val (.ref w_DIVIDE), .val (.int (0 : Int32)), .val (.int (0 : Int32)), .unset, .unset] [])) (fun t h => XS.ifYes X31.here hx rfl (pc0 := 124) (pc' := 195) rfl (hb hby at_124) rfl (by decide) (by decide) (by decide) h) ?_
    refine own_byW (f' := (mkF m 196 #[.val (.int p1), .val (.int p2), .val (.int p3), .val (.ref b1), .val (.int (3 : Int32)), .val (.ref w_DIVIDE), .val (.int (0 : Int32)), .val (.int (0 : Int32)), .unset, .unset] [(.int (1 : Int32))])) (fun t h => XS.iconst X31.here hx rfl (hb hby at_195) h) ?_
    obtain ⟨fs, hr, hrun, hended, hW, hsame⟩ := X31.leave (v := some (.int (1 : Int32))) (fun h => by rw [Bd.returns] at h; cases h)
    refine own_mkW ⟨_, _, retN X31 hx (t := .boolean) Bd.returns (by simp) (hb hby at_196) hr, hrun, hended, _, _, rfl, ?_, ReturnedEndW.of_narrow ⟨_, rfl⟩ hW (hsame.mono (by decide) (by decide))⟩
    show Q0 n0 _ T31.heap _
    rw [e31]
    exact ⟨rfl, N31⟩
  · refine own_byW (f' := (mkF m 87 #[.val (.int p1), .val (.int p2), .val (.int p3), .val (.ref b1), .val (.int (4 : Int32)), .unset, .unset, .unset, .unset, .unset] [(.ref b1)])) (fun t h => XS.aloadN X23.here hx rfl (hb hby at_86) rfl rfl h) ?_
    refine own_byW (f' := (mkF m 89 #[.val (.int p1), .val (.int p2), .val (.int p3), .val (.ref b1), .val (.int (4 : Int32)), .unset, .unset, .unset, .unset, .unset] [(.int (4 : Int32)), (.ref b1)])) (fun t h => XS.iload X23.here hx rfl (hb hby at_87) rfl h) ?_
    obtain ⟨cl32, Ar32, q32, S32, P32, H32, G32⟩ := V23
    refine own_byW (f' := (mkF m 90 #[.val (.int p1), .val (.int p2), .val (.int p3), .val (.ref b1), .val (.int (4 : Int32)), .unset, .unset, .unset, .unset, .unset] [(.ref w_REMAINDER)])) (fun t h => X23.aaload hx (j := (4 : Int32)) (v := (.ref w_REMAINDER)) (by rw [e23]; exact Ar32.1) (State.isArrayOf_alike hZ.alike Ar32.2.1) rfl Ar32.2.2 (by rw [S32]; decide) (Has.at H32 (by rw [S32]; decide) rfl) (g := (mkF m 89 #[.val (.int p1), .val (.int p2), .val (.int p3), .val (.ref b1), .val (.int (4 : Int32)), .unset, .unset, .unset, .unset, .unset] [(.int (4 : Int32)), (.ref b1)])) rfl rfl (hb hby at_89) t h) ?_
    refine own_byW (f' := (mkF m 92 #[.val (.int p1), .val (.int p2), .val (.int p3), .val (.ref b1), .val (.int (4 : Int32)), .val (.ref w_REMAINDER), .unset, .unset, .unset, .unset] [])) (fun t h => XS.astore X23.here hx rfl (hb hby at_90) rfl rfl (l' := #[.val (.int p1), .val (.int p2), .val (.int p3), .val (.ref b1), .val (.int (4 : Int32)), .val (.ref w_REMAINDER), .unset, .unset, .unset, .unset]) rfl h) ?_
    refine own_byW (f' := (mkF m 94 #[.val (.int p1), .val (.int p2), .val (.int p3), .val (.ref b1), .val (.int (4 : Int32)), .val (.ref w_REMAINDER), .unset, .unset, .unset, .unset] [(.ref w_REMAINDER)])) (fun t h => XS.aload X23.here hx rfl (hb hby at_92) rfl rfl h) ?_
    obtain ⟨cq33, kq33, q33a, q33b, q33c⟩ := isOf hZ e23 (E_REMAINDER.ext Ex23)
    obtain ⟨v33, _, ⟨T33, L33, k33, n33⟩, -, X33, ⟨Lc33, hQ33, l33, y33, z33⟩, st33⟩ := X23.virtualBack hx (y := (⟨"com/example/subscript/subscript/Nodes$Operator", "isBitwise", "()Z"⟩ : MethodName)) (z := (⟨"com/example/subscript/subscript/Nodes$Operator", "isBitwise", "()Z"⟩ : MethodName)) hown (mvT hZ (hw _ (List.mem_of_getElem? (i := 27) rfl))) (mvT hZ (hw _ (List.mem_of_getElem? (i := 28) rfl))) (notFace_of_selects (args := #[]) (mvT hZ (hw _ (List.mem_of_getElem? (i := 30) rfl)))) (mvT hZ (hw _ (List.mem_of_getElem? (i := 30) rfl))) (mvT hZ (hw _ (List.mem_of_getElem? (i := 29) rfl))) (by decide) (backOf (W := 0) (rm1 l Z a0 hw [] w_REMAINDER w_AND w_OR w_XOR h23 n0 (Nat.le_trans Z0 Ex23.1) (S_AND.ext Ex23) (S_OR.ext Ex23) (S_XOR.ext Ex23)) hZ (hw _ (List.mem_of_getElem? (i := 31) rfl)) (hw _ (List.mem_of_getElem? (i := 3) rfl)) (by decide) (by decide)) q33a q33c (g := (mkF m 94 #[.val (.int p1), .val (.int p2), .val (.int p3), .val (.ref b1), .val (.int (4 : Int32)), .val (.ref w_REMAINDER), .unset, .unset, .unset, .unset] [(.ref w_REMAINDER)])) rfl (by rw [hml]; rfl) (Steps.refl _) (argsL := []) (rest := []) (lenOf own_pd1 rfl) rfl (by show 2 * 0 + _ ≤ _; exact Nat.le_of_eq rfl) (hb hby at_94) (fun _ _ => ⟨rfl, e23, (by decide : 1 + 0 ≤ _), (by decide : 11 + 0 ≤ _)⟩)
    dsimp only [Pt.U, Pt.locs, Pt.cells, Pt.slots] at X33 l33 y33 z33 st33 hQ33
    subst l33 y33 z33
    obtain ⟨hv33, Nc33, e33⟩ := hQ33
    have N33 := Fr.app N23 Nc33
    obtain rfl : v33 = some (.int (0 : Int32)) := hv33.trans (by simp [ne_REMAINDER_AND, ne_REMAINDER_OR, ne_REMAINDER_XOR])
    refine own_byW (f' := (mkF m 97 #[.val (.int p1), .val (.int p2), .val (.int p3), .val (.ref b1), .val (.int (4 : Int32)), .val (.ref w_REMAINDER), .unset, .unset, .unset, .unset] [(.int (0 : Int32))])) (fun t h => st33.trans h) ?_
    refine own_byW (f' := (mkF m 99 #[.val (.int p1), .val (.int p2), .val (.int p3), .val (.ref b1), .val (.int (4 : Int32)), .val (.ref w_REMAINDER), .val (.int (0 : Int32)), .unset, .unset, .unset] [])) (fun t h => XS.istore X33.here hx rfl (hb hby at_97) rfl (l' := #[.val (.int p1), .val (.int p2), .val (.int p3), .val (.ref b1), .val (.int (4 : Int32)), .val (.ref w_REMAINDER), .val (.int (0 : Int32)), .unset, .unset, .unset]) rfl h) ?_
    refine own_byW (f' := (mkF m 101 #[.val (.int p1), .val (.int p2), .val (.int p3), .val (.ref b1), .val (.int (4 : Int32)), .val (.ref w_REMAINDER), .val (.int (0 : Int32)), .unset, .unset, .unset] [(.int (4 : Int32))])) (fun t h => XS.iload X33.here hx rfl (hb hby at_99) rfl h) ?_
    refine own_byW (f' := (mkF m 103 #[.val (.int p1), .val (.int p2), .val (.int p3), .val (.ref b1), .val (.int (4 : Int32)), .val (.ref w_REMAINDER), .val (.int (0 : Int32)), .unset, .unset, .unset] [(.int (8 : Int32)), (.int (4 : Int32))])) (fun t h => XT.bipushV X33.here hx rfl (8 : Int32) (hb hby at_101) rfl h) ?_
    refine own_byW (f' := (mkF m 110 #[.val (.int p1), .val (.int p2), .val (.int p3), .val (.ref b1), .val (.int (4 : Int32)), .val (.ref w_REMAINDER), .val (.int (0 : Int32)), .unset, .unset, .unset] [])) (fun t h => XS.icmpYes X33.here hx rfl (pc0 := 103) (pc' := 110) rfl (hb hby at_103) rfl (by decide) (by decide) (by decide) h) ?_
    refine own_byW (f' := (mkF m 111 #[.val (.int p1), .val (.int p2), .val (.int p3), .val (.ref b1), .val (.int (4 : Int32)), .val (.ref w_REMAINDER), .val (.int (0 : Int32)), .unset, .unset, .unset] [(.int (0 : Int32))])) (fun t h => XS.iconst X33.here hx rfl (hb hby at_110) h) ?_
    refine own_byW (f' := (mkF m 113 #[.val (.int p1), .val (.int p2), .val (.int p3), .val (.ref b1), .val (.int (4 : Int32)), .val (.ref w_REMAINDER), .val (.int (0 : Int32)), .val (.int (0 : Int32)), .unset, .unset] [])) (fun t h => XS.istore X33.here hx rfl (hb hby at_111) rfl (l' := #[.val (.int p1), .val (.int p2), .val (.int p3), .val (.ref b1), .val (.int (4 : Int32)), .val (.ref w_REMAINDER), .val (.int (0 : Int32)), .val (.int (0 : Int32)), .unset, .unset]) rfl h) ?_
    refine own_byW (f' := (mkF m 115 #[.val (.int p1), .val (.int p2), .val (.int p3), .val (.ref b1), .val (.int (4 : Int32)), .val (.ref w_REMAINDER), .val (.int (0 : Int32)), .val (.int (0 : Int32)), .unset, .unset] [(.int (0 : Int32))])) (fun t h => XS.iload X33.here hx rfl (hb hby at_113) rfl h) ?_
    refine own_byW (f' := (mkF m 117 #[.val (.int p1), .val (.int p2), .val (.int p3), .val (.ref b1), .val (.int (4 : Int32)), .val (.ref w_REMAINDER), .val (.int (0 : Int32)), .val (.int (0 : Int32)), .unset, .unset] [(.int (0 : Int32)), (.int (0 : Int32))])) (fun t h => XS.iload X33.here hx rfl (hb hby at_115) rfl h) ?_
    refine own_byW (f' := (mkF m 122 #[.val (.int p1), .val (.int p2), .val (.int p3), .val (.ref b1), .val (.int (4 : Int32)), .val (.ref w_REMAINDER), .val (.int (0 : Int32)), .val (.int (0 : Int32)), .unset, .unset] [])) (fun t h => XS.icmpYes X33.here hx rfl (pc0 := 117) (pc' := 122) rfl (hb hby at_117) rfl (by decide) (by decide) (by decide) h) ?_
    refine own_byW (f' := (mkF m 124 #[.val (.int p1), .val (.int p2), .val (.int p3), .val (.ref b1), .val (.int (4 : Int32)), .val (.ref w_REMAINDER), .val (.int (0 : Int32)), .val (.int (0 : Int32)), .unset, .unset] [(.int (0 : Int32))])) (fun t h => XS.iload X33.here hx rfl (hb hby at_122) rfl h) ?_
    refine own_byW (f' := (mkF m 195 #[.val (.int p1), .val (.int p2), .val (.int p3), .val (.ref b1), .val (.int (4 : Int32)), .val (.ref w_REMAINDER), .val (.int (0 : Int32)), .val (.int (0 : Int32)), .unset, .unset] [])) (fun t h => XS.ifYes X33.here hx rfl (pc0 := 124) (pc' := 195) rfl (hb hby at_124) rfl (by decide) (by decide) (by decide) h) ?_
    refine own_byW (f' := (mkF m 196 #[.val (.int p1), .val (.int p2), .val (.int p3), .val (.ref b1), .val (.int (4 : Int32)), .val (.ref w_REMAINDER), .val (.int (0 : Int32)), .val (.int (0 : Int32)), .unset, .unset] [(.int (1 : Int32))])) (fun t h => XS.iconst X33.here hx rfl (hb hby at_195) h) ?_
    obtain ⟨fs, hr, hrun, hended, hW, hsame⟩ := X33.leave (v := some (.int (1 : Int32))) (fun h => by rw [Bd.returns] at h; cases h)
    refine own_mkW ⟨_, _, retN X33 hx (t := .boolean) Bd.returns (by simp) (hb hby at_196) hr, hrun, hended, _, _, rfl, ?_, ReturnedEndW.of_narrow ⟨_, rfl⟩ hW (hsame.mono (by decide) (by decide))⟩
    show Q0 n0 _ T33.heap _
    rw [e33]
    exact ⟨rfl, N33⟩
  · refine own_byW (f' := (mkF m 87 #[.val (.int p1), .val (.int p2), .val (.int p3), .val (.ref b1), .val (.int (5 : Int32)), .unset, .unset, .unset, .unset, .unset] [(.ref b1)])) (fun t h => XS.aloadN X23.here hx rfl (hb hby at_86) rfl rfl h) ?_
    refine own_byW (f' := (mkF m 89 #[.val (.int p1), .val (.int p2), .val (.int p3), .val (.ref b1), .val (.int (5 : Int32)), .unset, .unset, .unset, .unset, .unset] [(.int (5 : Int32)), (.ref b1)])) (fun t h => XS.iload X23.here hx rfl (hb hby at_87) rfl h) ?_
    obtain ⟨cl34, Ar34, q34, S34, P34, H34, G34⟩ := V23
    refine own_byW (f' := (mkF m 90 #[.val (.int p1), .val (.int p2), .val (.int p3), .val (.ref b1), .val (.int (5 : Int32)), .unset, .unset, .unset, .unset, .unset] [(.ref w_SHIFT_LEFT)])) (fun t h => X23.aaload hx (j := (5 : Int32)) (v := (.ref w_SHIFT_LEFT)) (by rw [e23]; exact Ar34.1) (State.isArrayOf_alike hZ.alike Ar34.2.1) rfl Ar34.2.2 (by rw [S34]; decide) (Has.at H34 (by rw [S34]; decide) rfl) (g := (mkF m 89 #[.val (.int p1), .val (.int p2), .val (.int p3), .val (.ref b1), .val (.int (5 : Int32)), .unset, .unset, .unset, .unset, .unset] [(.int (5 : Int32)), (.ref b1)])) rfl rfl (hb hby at_89) t h) ?_
    refine own_byW (f' := (mkF m 92 #[.val (.int p1), .val (.int p2), .val (.int p3), .val (.ref b1), .val (.int (5 : Int32)), .val (.ref w_SHIFT_LEFT), .unset, .unset, .unset, .unset] [])) (fun t h => XS.astore X23.here hx rfl (hb hby at_90) rfl rfl (l' := #[.val (.int p1), .val (.int p2), .val (.int p3), .val (.ref b1), .val (.int (5 : Int32)), .val (.ref w_SHIFT_LEFT), .unset, .unset, .unset, .unset]) rfl h) ?_
    refine own_byW (f' := (mkF m 94 #[.val (.int p1), .val (.int p2), .val (.int p3), .val (.ref b1), .val (.int (5 : Int32)), .val (.ref w_SHIFT_LEFT), .unset, .unset, .unset, .unset] [(.ref w_SHIFT_LEFT)])) (fun t h => XS.aload X23.here hx rfl (hb hby at_92) rfl rfl h) ?_
    obtain ⟨cq35, kq35, q35a, q35b, q35c⟩ := isOf hZ e23 (E_SHIFT_LEFT.ext Ex23)
    obtain ⟨v35, _, ⟨T35, L35, k35, n35⟩, -, X35, ⟨Lc35, hQ35, l35, y35, z35⟩, st35⟩ := X23.virtualBack hx (y := (⟨"com/example/subscript/subscript/Nodes$Operator", "isBitwise", "()Z"⟩ : MethodName)) (z := (⟨"com/example/subscript/subscript/Nodes$Operator", "isBitwise", "()Z"⟩ : MethodName)) hown (mvT hZ (hw _ (List.mem_of_getElem? (i := 27) rfl))) (mvT hZ (hw _ (List.mem_of_getElem? (i := 28) rfl))) (notFace_of_selects (args := #[]) (mvT hZ (hw _ (List.mem_of_getElem? (i := 30) rfl)))) (mvT hZ (hw _ (List.mem_of_getElem? (i := 30) rfl))) (mvT hZ (hw _ (List.mem_of_getElem? (i := 29) rfl))) (by decide) (backOf (W := 0) (rm1 l Z a0 hw [] w_SHIFT_LEFT w_AND w_OR w_XOR h23 n0 (Nat.le_trans Z0 Ex23.1) (S_AND.ext Ex23) (S_OR.ext Ex23) (S_XOR.ext Ex23)) hZ (hw _ (List.mem_of_getElem? (i := 31) rfl)) (hw _ (List.mem_of_getElem? (i := 3) rfl)) (by decide) (by decide)) q35a q35c (g := (mkF m 94 #[.val (.int p1), .val (.int p2), .val (.int p3), .val (.ref b1), .val (.int (5 : Int32)), .val (.ref w_SHIFT_LEFT), .unset, .unset, .unset, .unset] [(.ref w_SHIFT_LEFT)])) rfl (by rw [hml]; rfl) (Steps.refl _) (argsL := []) (rest := []) (lenOf own_pd1 rfl) rfl (by show 2 * 0 + _ ≤ _; exact Nat.le_of_eq rfl) (hb hby at_94) (fun _ _ => ⟨rfl, e23, (by decide : 1 + 0 ≤ _), (by decide : 11 + 0 ≤ _)⟩)
    dsimp only [Pt.U, Pt.locs, Pt.cells, Pt.slots] at X35 l35 y35 z35 st35 hQ35
    subst l35 y35 z35
    obtain ⟨hv35, Nc35, e35⟩ := hQ35
    have N35 := Fr.app N23 Nc35
    obtain rfl : v35 = some (.int (0 : Int32)) := hv35.trans (by simp [ne_SHIFT_LEFT_AND, ne_SHIFT_LEFT_OR, ne_SHIFT_LEFT_XOR])
    refine own_byW (f' := (mkF m 97 #[.val (.int p1), .val (.int p2), .val (.int p3), .val (.ref b1), .val (.int (5 : Int32)), .val (.ref w_SHIFT_LEFT), .unset, .unset, .unset, .unset] [(.int (0 : Int32))])) (fun t h => st35.trans h) ?_
    refine own_byW (f' := (mkF m 99 #[.val (.int p1), .val (.int p2), .val (.int p3), .val (.ref b1), .val (.int (5 : Int32)), .val (.ref w_SHIFT_LEFT), .val (.int (0 : Int32)), .unset, .unset, .unset] [])) (fun t h => XS.istore X35.here hx rfl (hb hby at_97) rfl (l' := #[.val (.int p1), .val (.int p2), .val (.int p3), .val (.ref b1), .val (.int (5 : Int32)), .val (.ref w_SHIFT_LEFT), .val (.int (0 : Int32)), .unset, .unset, .unset]) rfl h) ?_
    refine own_byW (f' := (mkF m 101 #[.val (.int p1), .val (.int p2), .val (.int p3), .val (.ref b1), .val (.int (5 : Int32)), .val (.ref w_SHIFT_LEFT), .val (.int (0 : Int32)), .unset, .unset, .unset] [(.int (5 : Int32))])) (fun t h => XS.iload X35.here hx rfl (hb hby at_99) rfl h) ?_
    refine own_byW (f' := (mkF m 103 #[.val (.int p1), .val (.int p2), .val (.int p3), .val (.ref b1), .val (.int (5 : Int32)), .val (.ref w_SHIFT_LEFT), .val (.int (0 : Int32)), .unset, .unset, .unset] [(.int (8 : Int32)), (.int (5 : Int32))])) (fun t h => XT.bipushV X35.here hx rfl (8 : Int32) (hb hby at_101) rfl h) ?_
    refine own_byW (f' := (mkF m 110 #[.val (.int p1), .val (.int p2), .val (.int p3), .val (.ref b1), .val (.int (5 : Int32)), .val (.ref w_SHIFT_LEFT), .val (.int (0 : Int32)), .unset, .unset, .unset] [])) (fun t h => XS.icmpYes X35.here hx rfl (pc0 := 103) (pc' := 110) rfl (hb hby at_103) rfl (by decide) (by decide) (by decide) h) ?_
    refine own_byW (f' := (mkF m 111 #[.val (.int p1), .val (.int p2), .val (.int p3), .val (.ref b1), .val (.int (5 : Int32)), .val (.ref w_SHIFT_LEFT), .val (.int (0 : Int32)), .unset, .unset, .unset] [(.int (0 : Int32))])) (fun t h => XS.iconst X35.here hx rfl (hb hby at_110) h) ?_
    refine own_byW (f' := (mkF m 113 #[.val (.int p1), .val (.int p2), .val (.int p3), .val (.ref b1), .val (.int (5 : Int32)), .val (.ref w_SHIFT_LEFT), .val (.int (0 : Int32)), .val (.int (0 : Int32)), .unset, .unset] [])) (fun t h => XS.istore X35.here hx rfl (hb hby at_111) rfl (l' := #[.val (.int p1), .val (.int p2), .val (.int p3), .val (.ref b1), .val (.int (5 : Int32)), .val (.ref w_SHIFT_LEFT), .val (.int (0 : Int32)), .val (.int (0 : Int32)), .unset, .unset]) rfl h) ?_
    refine own_byW (f' := (mkF m 115 #[.val (.int p1), .val (.int p2), .val (.int p3), .val (.ref b1), .val (.int (5 : Int32)), .val (.ref w_SHIFT_LEFT), .val (.int (0 : Int32)), .val (.int (0 : Int32)), .unset, .unset] [(.int (0 : Int32))])) (fun t h => XS.iload X35.here hx rfl (hb hby at_113) rfl h) ?_
    refine own_byW (f' := (mkF m 117 #[.val (.int p1), .val (.int p2), .val (.int p3), .val (.ref b1), .val (.int (5 : Int32)), .val (.ref w_SHIFT_LEFT), .val (.int (0 : Int32)), .val (.int (0 : Int32)), .unset, .unset] [(.int (0 : Int32)), (.int (0 : Int32))])) (fun t h => XS.iload X35.here hx rfl (hb hby at_115) rfl h) ?_
    refine own_byW (f' := (mkF m 122 #[.val (.int p1), .val (.int p2), .val (.int p3), .val (.ref b1), .val (.int (5 : Int32)), .val (.ref w_SHIFT_LEFT), .val (.int (0 : Int32)), .val (.int (0 : Int32)), .unset, .unset] [])) (fun t h => XS.icmpYes X35.here hx rfl (pc0 := 117) (pc' := 122) rfl (hb hby at_117) rfl (by decide) (by decide) (by decide) h) ?_
    refine own_byW (f' := (mkF m 124 #[.val (.int p1), .val (.int p2), .val (.int p3), .val (.ref b1), .val (.int (5 : Int32)), .val (.ref w_SHIFT_LEFT), .val (.int (0 : Int32)), .val (.int (0 : Int32)), .unset, .unset] [(.int (0 : Int32))])) (fun t h => XS.iload X35.here hx rfl (hb hby at_122) rfl h) ?_
    refine own_byW (f' := (mkF m 195 #[.val (.int p1), .val (.int p2), .val (.int p3), .val (.ref b1), .val (.int (5 : Int32)), .val (.ref w_SHIFT_LEFT), .val (.int (0 : Int32)), .val (.int (0 : Int32)), .unset, .unset] [])) (fun t h => XS.ifYes X35.here hx rfl (pc0 := 124) (pc' := 195) rfl (hb hby at_124) rfl (by decide) (by decide) (by decide) h) ?_
    refine own_byW (f' := (mkF m 196 #[.val (.int p1), .val (.int p2), .val (.int p3), .val (.ref b1), .val (.int (5 : Int32)), .val (.ref w_SHIFT_LEFT), .val (.int (0 : Int32)), .val (.int (0 : Int32)), .unset, .unset] [(.int (1 : Int32))])) (fun t h => XS.iconst X35.here hx rfl (hb hby at_195) h) ?_
    obtain ⟨fs, hr, hrun, hended, hW, hsame⟩ := X35.leave (v := some (.int (1 : Int32))) (fun h => by rw [Bd.returns] at h; cases h)
    refine own_mkW ⟨_, _, retN X35 hx (t := .boolean) Bd.returns (by simp) (hb hby at_196) hr, hrun, hended, _, _, rfl, ?_, ReturnedEndW.of_narrow ⟨_, rfl⟩ hW (hsame.mono (by decide) (by decide))⟩
    show Q0 n0 _ T35.heap _
    rw [e35]
    exact ⟨rfl, N35⟩
  · refine own_byW (f' := (mkF m 87 #[.val (.int p1), .val (.int p2), .val (.int p3), .val (.ref b1), .val (.int (6 : Int32)), .unset, .unset, .unset, .unset, .unset] [(.ref b1)])) (fun t h => XS.aloadN X23.here hx rfl (hb hby at_86) rfl rfl h) ?_
    refine own_byW (f' := (mkF m 89 #[.val (.int p1), .val (.int p2), .val (.int p3), .val (.ref b1), .val (.int (6 : Int32)), .unset, .unset, .unset, .unset, .unset] [(.int (6 : Int32)), (.ref b1)])) (fun t h => XS.iload X23.here hx rfl (hb hby at_87) rfl h) ?_
    obtain ⟨cl36, Ar36, q36, S36, P36, H36, G36⟩ := V23
    refine own_byW (f' := (mkF m 90 #[.val (.int p1), .val (.int p2), .val (.int p3), .val (.ref b1), .val (.int (6 : Int32)), .unset, .unset, .unset, .unset, .unset] [(.ref w_SHIFT_RIGHT)])) (fun t h => X23.aaload hx (j := (6 : Int32)) (v := (.ref w_SHIFT_RIGHT)) (by rw [e23]; exact Ar36.1) (State.isArrayOf_alike hZ.alike Ar36.2.1) rfl Ar36.2.2 (by rw [S36]; decide) (Has.at H36 (by rw [S36]; decide) rfl) (g := (mkF m 89 #[.val (.int p1), .val (.int p2), .val (.int p3), .val (.ref b1), .val (.int (6 : Int32)), .unset, .unset, .unset, .unset, .unset] [(.int (6 : Int32)), (.ref b1)])) rfl rfl (hb hby at_89) t h) ?_
    refine own_byW (f' := (mkF m 92 #[.val (.int p1), .val (.int p2), .val (.int p3), .val (.ref b1), .val (.int (6 : Int32)), .val (.ref w_SHIFT_RIGHT), .unset, .unset, .unset, .unset] [])) (fun t h => XS.astore X23.here hx rfl (hb hby at_90) rfl rfl (l' := #[.val (.int p1), .val (.int p2), .val (.int p3), .val (.ref b1), .val (.int (6 : Int32)), .val (.ref w_SHIFT_RIGHT), .unset, .unset, .unset, .unset]) rfl h) ?_
    refine own_byW (f' := (mkF m 94 #[.val (.int p1), .val (.int p2), .val (.int p3), .val (.ref b1), .val (.int (6 : Int32)), .val (.ref w_SHIFT_RIGHT), .unset, .unset, .unset, .unset] [(.ref w_SHIFT_RIGHT)])) (fun t h => XS.aload X23.here hx rfl (hb hby at_92) rfl rfl h) ?_
    obtain ⟨cq37, kq37, q37a, q37b, q37c⟩ := isOf hZ e23 (E_SHIFT_RIGHT.ext Ex23)
    obtain ⟨v37, _, ⟨T37, L37, k37, n37⟩, -, X37, ⟨Lc37, hQ37, l37, y37, z37⟩, st37⟩ := X23.virtualBack hx (y := (⟨"com/example/subscript/subscript/Nodes$Operator", "isBitwise", "()Z"⟩ : MethodName)) (z := (⟨"com/example/subscript/subscript/Nodes$Operator", "isBitwise", "()Z"⟩ : MethodName)) hown (mvT hZ (hw _ (List.mem_of_getElem? (i := 27) rfl))) (mvT hZ (hw _ (List.mem_of_getElem? (i := 28) rfl))) (notFace_of_selects (args := #[]) (mvT hZ (hw _ (List.mem_of_getElem? (i := 30) rfl)))) (mvT hZ (hw _ (List.mem_of_getElem? (i := 30) rfl))) (mvT hZ (hw _ (List.mem_of_getElem? (i := 29) rfl))) (by decide) (backOf (W := 0) (rm1 l Z a0 hw [] w_SHIFT_RIGHT w_AND w_OR w_XOR h23 n0 (Nat.le_trans Z0 Ex23.1) (S_AND.ext Ex23) (S_OR.ext Ex23) (S_XOR.ext Ex23)) hZ (hw _ (List.mem_of_getElem? (i := 31) rfl)) (hw _ (List.mem_of_getElem? (i := 3) rfl)) (by decide) (by decide)) q37a q37c (g := (mkF m 94 #[.val (.int p1), .val (.int p2), .val (.int p3), .val (.ref b1), .val (.int (6 : Int32)), .val (.ref w_SHIFT_RIGHT), .unset, .unset, .unset, .unset] [(.ref w_SHIFT_RIGHT)])) rfl (by rw [hml]; rfl) (Steps.refl _) (argsL := []) (rest := []) (lenOf own_pd1 rfl) rfl (by show 2 * 0 + _ ≤ _; exact Nat.le_of_eq rfl) (hb hby at_94) (fun _ _ => ⟨rfl, e23, (by decide : 1 + 0 ≤ _), (by decide : 11 + 0 ≤ _)⟩)
    dsimp only [Pt.U, Pt.locs, Pt.cells, Pt.slots] at X37 l37 y37 z37 st37 hQ37
    subst l37 y37 z37
    obtain ⟨hv37, Nc37, e37⟩ := hQ37
    have N37 := Fr.app N23 Nc37
    obtain rfl : v37 = some (.int (0 : Int32)) := hv37.trans (by simp [ne_SHIFT_RIGHT_AND, ne_SHIFT_RIGHT_OR, ne_SHIFT_RIGHT_XOR])
    refine own_byW (f' := (mkF m 97 #[.val (.int p1), .val (.int p2), .val (.int p3), .val (.ref b1), .val (.int (6 : Int32)), .val (.ref w_SHIFT_RIGHT), .unset, .unset, .unset, .unset] [(.int (0 : Int32))])) (fun t h => st37.trans h) ?_
    refine own_byW (f' := (mkF m 99 #[.val (.int p1), .val (.int p2), .val (.int p3), .val (.ref b1), .val (.int (6 : Int32)), .val (.ref w_SHIFT_RIGHT), .val (.int (0 : Int32)), .unset, .unset, .unset] [])) (fun t h => XS.istore X37.here hx rfl (hb hby at_97) rfl (l' := #[.val (.int p1), .val (.int p2), .val (.int p3), .val (.ref b1), .val (.int (6 : Int32)), .val (.ref w_SHIFT_RIGHT), .val (.int (0 : Int32)), .unset, .unset, .unset]) rfl h) ?_
    refine own_byW (f' := (mkF m 101 #[.val (.int p1), .val (.int p2), .val (.int p3), .val (.ref b1), .val (.int (6 : Int32)), .val (.ref w_SHIFT_RIGHT), .val (.int (0 : Int32)), .unset, .unset, .unset] [(.int (6 : Int32))])) (fun t h => XS.iload X37.here hx rfl (hb hby at_99) rfl h) ?_
    refine own_byW (f' := (mkF m 103 #[.val (.int p1), .val (.int p2), .val (.int p3), .val (.ref b1), .val (.int (6 : Int32)), .val (.ref w_SHIFT_RIGHT), .val (.int (0 : Int32)), .unset, .unset, .unset] [(.int (8 : Int32)), (.int (6 : Int32))])) (fun t h => XT.bipushV X37.here hx rfl (8 : Int32) (hb hby at_101) rfl h) ?_
    refine own_byW (f' := (mkF m 110 #[.val (.int p1), .val (.int p2), .val (.int p3), .val (.ref b1), .val (.int (6 : Int32)), .val (.ref w_SHIFT_RIGHT), .val (.int (0 : Int32)), .unset, .unset, .unset] [])) (fun t h => XS.icmpYes X37.here hx rfl (pc0 := 103) (pc' := 110) rfl (hb hby at_103) rfl (by decide) (by decide) (by decide) h) ?_
    refine own_byW (f' := (mkF m 111 #[.val (.int p1), .val (.int p2), .val (.int p3), .val (.ref b1), .val (.int (6 : Int32)), .val (.ref w_SHIFT_RIGHT), .val (.int (0 : Int32)), .unset, .unset, .unset] [(.int (0 : Int32))])) (fun t h => XS.iconst X37.here hx rfl (hb hby at_110) h) ?_
    refine own_byW (f' := (mkF m 113 #[.val (.int p1), .val (.int p2), .val (.int p3), .val (.ref b1), .val (.int (6 : Int32)), .val (.ref w_SHIFT_RIGHT), .val (.int (0 : Int32)), .val (.int (0 : Int32)), .unset, .unset] [])) (fun t h => XS.istore X37.here hx rfl (hb hby at_111) rfl (l' := #[.val (.int p1), .val (.int p2), .val (.int p3), .val (.ref b1), .val (.int (6 : Int32)), .val (.ref w_SHIFT_RIGHT), .val (.int (0 : Int32)), .val (.int (0 : Int32)), .unset, .unset]) rfl h) ?_
    refine own_byW (f' := (mkF m 115 #[.val (.int p1), .val (.int p2), .val (.int p3), .val (.ref b1), .val (.int (6 : Int32)), .val (.ref w_SHIFT_RIGHT), .val (.int (0 : Int32)), .val (.int (0 : Int32)), .unset, .unset] [(.int (0 : Int32))])) (fun t h => XS.iload X37.here hx rfl (hb hby at_113) rfl h) ?_
    refine own_byW (f' := (mkF m 117 #[.val (.int p1), .val (.int p2), .val (.int p3), .val (.ref b1), .val (.int (6 : Int32)), .val (.ref w_SHIFT_RIGHT), .val (.int (0 : Int32)), .val (.int (0 : Int32)), .unset, .unset] [(.int (0 : Int32)), (.int (0 : Int32))])) (fun t h => XS.iload X37.here hx rfl (hb hby at_115) rfl h) ?_
    refine own_byW (f' := (mkF m 122 #[.val (.int p1), .val (.int p2), .val (.int p3), .val (.ref b1), .val (.int (6 : Int32)), .val (.ref w_SHIFT_RIGHT), .val (.int (0 : Int32)), .val (.int (0 : Int32)), .unset, .unset] [])) (fun t h => XS.icmpYes X37.here hx rfl (pc0 := 117) (pc' := 122) rfl (hb hby at_117) rfl (by decide) (by decide) (by decide) h) ?_
    refine own_byW (f' := (mkF m 124 #[.val (.int p1), .val (.int p2), .val (.int p3), .val (.ref b1), .val (.int (6 : Int32)), .val (.ref w_SHIFT_RIGHT), .val (.int (0 : Int32)), .val (.int (0 : Int32)), .unset, .unset] [(.int (0 : Int32))])) (fun t h => XS.iload X37.here hx rfl (hb hby at_122) rfl h) ?_
    refine own_byW (f' := (mkF m 195 #[.val (.int p1), .val (.int p2), .val (.int p3), .val (.ref b1), .val (.int (6 : Int32)), .val (.ref w_SHIFT_RIGHT), .val (.int (0 : Int32)), .val (.int (0 : Int32)), .unset, .unset] [])) (fun t h => XS.ifYes X37.here hx rfl (pc0 := 124) (pc' := 195) rfl (hb hby at_124) rfl (by decide) (by decide) (by decide) h) ?_
    refine own_byW (f' := (mkF m 196 #[.val (.int p1), .val (.int p2), .val (.int p3), .val (.ref b1), .val (.int (6 : Int32)), .val (.ref w_SHIFT_RIGHT), .val (.int (0 : Int32)), .val (.int (0 : Int32)), .unset, .unset] [(.int (1 : Int32))])) (fun t h => XS.iconst X37.here hx rfl (hb hby at_195) h) ?_
    obtain ⟨fs, hr, hrun, hended, hW, hsame⟩ := X37.leave (v := some (.int (1 : Int32))) (fun h => by rw [Bd.returns] at h; cases h)
    refine own_mkW ⟨_, _, retN X37 hx (t := .boolean) Bd.returns (by simp) (hb hby at_196) hr, hrun, hended, _, _, rfl, ?_, ReturnedEndW.of_narrow ⟨_, rfl⟩ hW (hsame.mono (by decide) (by decide))⟩
    show Q0 n0 _ T37.heap _
    rw [e37]
    exact ⟨rfl, N37⟩
  · refine own_byW (f' := (mkF m 87 #[.val (.int p1), .val (.int p2), .val (.int p3), .val (.ref b1), .val (.int (7 : Int32)), .unset, .unset, .unset, .unset, .unset] [(.ref b1)])) (fun t h => XS.aloadN X23.here hx rfl (hb hby at_86) rfl rfl h) ?_
    refine own_byW (f' := (mkF m 89 #[.val (.int p1), .val (.int p2), .val (.int p3), .val (.ref b1), .val (.int (7 : Int32)), .unset, .unset, .unset, .unset, .unset] [(.int (7 : Int32)), (.ref b1)])) (fun t h => XS.iload X23.here hx rfl (hb hby at_87) rfl h) ?_
    obtain ⟨cl38, Ar38, q38, S38, P38, H38, G38⟩ := V23
    refine own_byW (f' := (mkF m 90 #[.val (.int p1), .val (.int p2), .val (.int p3), .val (.ref b1), .val (.int (7 : Int32)), .unset, .unset, .unset, .unset, .unset] [(.ref w_UNSIGNED_SHIFT_RIGHT)])) (fun t h => X23.aaload hx (j := (7 : Int32)) (v := (.ref w_UNSIGNED_SHIFT_RIGHT)) (by rw [e23]; exact Ar38.1) (State.isArrayOf_alike hZ.alike Ar38.2.1) rfl Ar38.2.2 (by rw [S38]; decide) (Has.at H38 (by rw [S38]; decide) rfl) (g := (mkF m 89 #[.val (.int p1), .val (.int p2), .val (.int p3), .val (.ref b1), .val (.int (7 : Int32)), .unset, .unset, .unset, .unset, .unset] [(.int (7 : Int32)), (.ref b1)])) rfl rfl (hb hby at_89) t h) ?_
    refine own_byW (f' := (mkF m 92 #[.val (.int p1), .val (.int p2), .val (.int p3), .val (.ref b1), .val (.int (7 : Int32)), .val (.ref w_UNSIGNED_SHIFT_RIGHT), .unset, .unset, .unset, .unset] [])) (fun t h => XS.astore X23.here hx rfl (hb hby at_90) rfl rfl (l' := #[.val (.int p1), .val (.int p2), .val (.int p3), .val (.ref b1), .val (.int (7 : Int32)), .val (.ref w_UNSIGNED_SHIFT_RIGHT), .unset, .unset, .unset, .unset]) rfl h) ?_
    refine own_byW (f' := (mkF m 94 #[.val (.int p1), .val (.int p2), .val (.int p3), .val (.ref b1), .val (.int (7 : Int32)), .val (.ref w_UNSIGNED_SHIFT_RIGHT), .unset, .unset, .unset, .unset] [(.ref w_UNSIGNED_SHIFT_RIGHT)])) (fun t h => XS.aload X23.here hx rfl (hb hby at_92) rfl rfl h) ?_
    obtain ⟨cq39, kq39, q39a, q39b, q39c⟩ := isOf hZ e23 (E_UNSIGNED_SHIFT_RIGHT.ext Ex23)
    obtain ⟨v39, _, ⟨T39, L39, k39, n39⟩, -, X39, ⟨Lc39, hQ39, l39, y39, z39⟩, st39⟩ := X23.virtualBack hx (y := (⟨"com/example/subscript/subscript/Nodes$Operator", "isBitwise", "()Z"⟩ : MethodName)) (z := (⟨"com/example/subscript/subscript/Nodes$Operator", "isBitwise", "()Z"⟩ : MethodName)) hown (mvT hZ (hw _ (List.mem_of_getElem? (i := 27) rfl))) (mvT hZ (hw _ (List.mem_of_getElem? (i := 28) rfl))) (notFace_of_selects (args := #[]) (mvT hZ (hw _ (List.mem_of_getElem? (i := 30) rfl)))) (mvT hZ (hw _ (List.mem_of_getElem? (i := 30) rfl))) (mvT hZ (hw _ (List.mem_of_getElem? (i := 29) rfl))) (by decide) (backOf (W := 0) (rm1 l Z a0 hw [] w_UNSIGNED_SHIFT_RIGHT w_AND w_OR w_XOR h23 n0 (Nat.le_trans Z0 Ex23.1) (S_AND.ext Ex23) (S_OR.ext Ex23) (S_XOR.ext Ex23)) hZ (hw _ (List.mem_of_getElem? (i := 31) rfl)) (hw _ (List.mem_of_getElem? (i := 3) rfl)) (by decide) (by decide)) q39a q39c (g := (mkF m 94 #[.val (.int p1), .val (.int p2), .val (.int p3), .val (.ref b1), .val (.int (7 : Int32)), .val (.ref w_UNSIGNED_SHIFT_RIGHT), .unset, .unset, .unset, .unset] [(.ref w_UNSIGNED_SHIFT_RIGHT)])) rfl (by rw [hml]; rfl) (Steps.refl _) (argsL := []) (rest := []) (lenOf own_pd1 rfl) rfl (by show 2 * 0 + _ ≤ _; exact Nat.le_of_eq rfl) (hb hby at_94) (fun _ _ => ⟨rfl, e23, (by decide : 1 + 0 ≤ _), (by decide : 11 + 0 ≤ _)⟩)
    dsimp only [Pt.U, Pt.locs, Pt.cells, Pt.slots] at X39 l39 y39 z39 st39 hQ39
    subst l39 y39 z39
    obtain ⟨hv39, Nc39, e39⟩ := hQ39
    have N39 := Fr.app N23 Nc39
    obtain rfl : v39 = some (.int (0 : Int32)) := hv39.trans (by simp [ne_UNSIGNED_SHIFT_RIGHT_AND, ne_UNSIGNED_SHIFT_RIGHT_OR, ne_UNSIGNED_SHIFT_RIGHT_XOR])
    refine own_byW (f' := (mkF m 97 #[.val (.int p1), .val (.int p2), .val (.int p3), .val (.ref b1), .val (.int (7 : Int32)), .val (.ref w_UNSIGNED_SHIFT_RIGHT), .unset, .unset, .unset, .unset] [(.int (0 : Int32))])) (fun t h => st39.trans h) ?_
    refine own_byW (f' := (mkF m 99 #[.val (.int p1), .val (.int p2), .val (.int p3), .val (.ref b1), .val (.int (7 : Int32)), .val (.ref w_UNSIGNED_SHIFT_RIGHT), .val (.int (0 : Int32)), .unset, .unset, .unset] [])) (fun t h => XS.istore X39.here hx rfl (hb hby at_97) rfl (l' := #[.val (.int p1), .val (.int p2), .val (.int p3), .val (.ref b1), .val (.int (7 : Int32)), .val (.ref w_UNSIGNED_SHIFT_RIGHT), .val (.int (0 : Int32)), .unset, .unset, .unset]) rfl h) ?_
    refine own_byW (f' := (mkF m 101 #[.val (.int p1), .val (.int p2), .val (.int p3), .val (.ref b1), .val (.int (7 : Int32)), .val (.ref w_UNSIGNED_SHIFT_RIGHT), .val (.int (0 : Int32)), .unset, .unset, .unset] [(.int (7 : Int32))])) (fun t h => XS.iload X39.here hx rfl (hb hby at_99) rfl h) ?_
    refine own_byW (f' := (mkF m 103 #[.val (.int p1), .val (.int p2), .val (.int p3), .val (.ref b1), .val (.int (7 : Int32)), .val (.ref w_UNSIGNED_SHIFT_RIGHT), .val (.int (0 : Int32)), .unset, .unset, .unset] [(.int (8 : Int32)), (.int (7 : Int32))])) (fun t h => XT.bipushV X39.here hx rfl (8 : Int32) (hb hby at_101) rfl h) ?_
    refine own_byW (f' := (mkF m 110 #[.val (.int p1), .val (.int p2), .val (.int p3), .val (.ref b1), .val (.int (7 : Int32)), .val (.ref w_UNSIGNED_SHIFT_RIGHT), .val (.int (0 : Int32)), .unset, .unset, .unset] [])) (fun t h => XS.icmpYes X39.here hx rfl (pc0 := 103) (pc' := 110) rfl (hb hby at_103) rfl (by decide) (by decide) (by decide) h) ?_
    refine own_byW (f' := (mkF m 111 #[.val (.int p1), .val (.int p2), .val (.int p3), .val (.ref b1), .val (.int (7 : Int32)), .val (.ref w_UNSIGNED_SHIFT_RIGHT), .val (.int (0 : Int32)), .unset, .unset, .unset] [(.int (0 : Int32))])) (fun t h => XS.iconst X39.here hx rfl (hb hby at_110) h) ?_
    refine own_byW (f' := (mkF m 113 #[.val (.int p1), .val (.int p2), .val (.int p3), .val (.ref b1), .val (.int (7 : Int32)), .val (.ref w_UNSIGNED_SHIFT_RIGHT), .val (.int (0 : Int32)), .val (.int (0 : Int32)), .unset, .unset] [])) (fun t h => XS.istore X39.here hx rfl (hb hby at_111) rfl (l' := #[.val (.int p1), .val (.int p2), .val (.int p3), .val (.ref b1), .val (.int (7 : Int32)), .val (.ref w_UNSIGNED_SHIFT_RIGHT), .val (.int (0 : Int32)), .val (.int (0 : Int32)), .unset, .unset]) rfl h) ?_
    refine own_byW (f' := (mkF m 115 #[.val (.int p1), .val (.int p2), .val (.int p3), .val (.ref b1), .val (.int (7 : Int32)), .val (.ref w_UNSIGNED_SHIFT_RIGHT), .val (.int (0 : Int32)), .val (.int (0 : Int32)), .unset, .unset] [(.int (0 : Int32))])) (fun t h => XS.iload X39.here hx rfl (hb hby at_113) rfl h) ?_
    refine own_byW (f' := (mkF m 117 #[.val (.int p1), .val (.int p2), .val (.int p3), .val (.ref b1), .val (.int (7 : Int32)), .val (.ref w_UNSIGNED_SHIFT_RIGHT), .val (.int (0 : Int32)), .val (.int (0 : Int32)), .unset, .unset] [(.int (0 : Int32)), (.int (0 : Int32))])) (fun t h => XS.iload X39.here hx rfl (hb hby at_115) rfl h) ?_
    refine own_byW (f' := (mkF m 122 #[.val (.int p1), .val (.int p2), .val (.int p3), .val (.ref b1), .val (.int (7 : Int32)), .val (.ref w_UNSIGNED_SHIFT_RIGHT), .val (.int (0 : Int32)), .val (.int (0 : Int32)), .unset, .unset] [])) (fun t h => XS.icmpYes X39.here hx rfl (pc0 := 117) (pc' := 122) rfl (hb hby at_117) rfl (by decide) (by decide) (by decide) h) ?_
    refine own_byW (f' := (mkF m 124 #[.val (.int p1), .val (.int p2), .val (.int p3), .val (.ref b1), .val (.int (7 : Int32)), .val (.ref w_UNSIGNED_SHIFT_RIGHT), .val (.int (0 : Int32)), .val (.int (0 : Int32)), .unset, .unset] [(.int (0 : Int32))])) (fun t h => XS.iload X39.here hx rfl (hb hby at_122) rfl h) ?_
    refine own_byW (f' := (mkF m 195 #[.val (.int p1), .val (.int p2), .val (.int p3), .val (.ref b1), .val (.int (7 : Int32)), .val (.ref w_UNSIGNED_SHIFT_RIGHT), .val (.int (0 : Int32)), .val (.int (0 : Int32)), .unset, .unset] [])) (fun t h => XS.ifYes X39.here hx rfl (pc0 := 124) (pc' := 195) rfl (hb hby at_124) rfl (by decide) (by decide) (by decide) h) ?_
    refine own_byW (f' := (mkF m 196 #[.val (.int p1), .val (.int p2), .val (.int p3), .val (.ref b1), .val (.int (7 : Int32)), .val (.ref w_UNSIGNED_SHIFT_RIGHT), .val (.int (0 : Int32)), .val (.int (0 : Int32)), .unset, .unset] [(.int (1 : Int32))])) (fun t h => XS.iconst X39.here hx rfl (hb hby at_195) h) ?_
    obtain ⟨fs, hr, hrun, hended, hW, hsame⟩ := X39.leave (v := some (.int (1 : Int32))) (fun h => by rw [Bd.returns] at h; cases h)
    refine own_mkW ⟨_, _, retN X39 hx (t := .boolean) Bd.returns (by simp) (hb hby at_196) hr, hrun, hended, _, _, rfl, ?_, ReturnedEndW.of_narrow ⟨_, rfl⟩ hW (hsame.mono (by decide) (by decide))⟩
    show Q0 n0 _ T39.heap _
    rw [e39]
    exact ⟨rfl, N39⟩
  · refine own_byW (f' := (mkF m 87 #[.val (.int p1), .val (.int p2), .val (.int p3), .val (.ref b1), .val (.int (8 : Int32)), .unset, .unset, .unset, .unset, .unset] [(.ref b1)])) (fun t h => XS.aloadN X23.here hx rfl (hb hby at_86) rfl rfl h) ?_
    refine own_byW (f' := (mkF m 89 #[.val (.int p1), .val (.int p2), .val (.int p3), .val (.ref b1), .val (.int (8 : Int32)), .unset, .unset, .unset, .unset, .unset] [(.int (8 : Int32)), (.ref b1)])) (fun t h => XS.iload X23.here hx rfl (hb hby at_87) rfl h) ?_
    obtain ⟨cl40, Ar40, q40, S40, P40, H40, G40⟩ := V23
    refine own_byW (f' := (mkF m 90 #[.val (.int p1), .val (.int p2), .val (.int p3), .val (.ref b1), .val (.int (8 : Int32)), .unset, .unset, .unset, .unset, .unset] [(.ref w_AND)])) (fun t h => X23.aaload hx (j := (8 : Int32)) (v := (.ref w_AND)) (by rw [e23]; exact Ar40.1) (State.isArrayOf_alike hZ.alike Ar40.2.1) rfl Ar40.2.2 (by rw [S40]; decide) (Has.at H40 (by rw [S40]; decide) rfl) (g := (mkF m 89 #[.val (.int p1), .val (.int p2), .val (.int p3), .val (.ref b1), .val (.int (8 : Int32)), .unset, .unset, .unset, .unset, .unset] [(.int (8 : Int32)), (.ref b1)])) rfl rfl (hb hby at_89) t h) ?_
    refine own_byW (f' := (mkF m 92 #[.val (.int p1), .val (.int p2), .val (.int p3), .val (.ref b1), .val (.int (8 : Int32)), .val (.ref w_AND), .unset, .unset, .unset, .unset] [])) (fun t h => XS.astore X23.here hx rfl (hb hby at_90) rfl rfl (l' := #[.val (.int p1), .val (.int p2), .val (.int p3), .val (.ref b1), .val (.int (8 : Int32)), .val (.ref w_AND), .unset, .unset, .unset, .unset]) rfl h) ?_
    refine own_byW (f' := (mkF m 94 #[.val (.int p1), .val (.int p2), .val (.int p3), .val (.ref b1), .val (.int (8 : Int32)), .val (.ref w_AND), .unset, .unset, .unset, .unset] [(.ref w_AND)])) (fun t h => XS.aload X23.here hx rfl (hb hby at_92) rfl rfl h) ?_
    obtain ⟨cq41, kq41, q41a, q41b, q41c⟩ := isOf hZ e23 (E_AND.ext Ex23)
    obtain ⟨v41, _, ⟨T41, L41, k41, n41⟩, -, X41, ⟨Lc41, hQ41, l41, y41, z41⟩, st41⟩ := X23.virtualBack hx (y := (⟨"com/example/subscript/subscript/Nodes$Operator", "isBitwise", "()Z"⟩ : MethodName)) (z := (⟨"com/example/subscript/subscript/Nodes$Operator", "isBitwise", "()Z"⟩ : MethodName)) hown (mvT hZ (hw _ (List.mem_of_getElem? (i := 27) rfl))) (mvT hZ (hw _ (List.mem_of_getElem? (i := 28) rfl))) (notFace_of_selects (args := #[]) (mvT hZ (hw _ (List.mem_of_getElem? (i := 30) rfl)))) (mvT hZ (hw _ (List.mem_of_getElem? (i := 30) rfl))) (mvT hZ (hw _ (List.mem_of_getElem? (i := 29) rfl))) (by decide) (backOf (W := 0) (rm1 l Z a0 hw [] w_AND w_AND w_OR w_XOR h23 n0 (Nat.le_trans Z0 Ex23.1) (S_AND.ext Ex23) (S_OR.ext Ex23) (S_XOR.ext Ex23)) hZ (hw _ (List.mem_of_getElem? (i := 31) rfl)) (hw _ (List.mem_of_getElem? (i := 3) rfl)) (by decide) (by decide)) q41a q41c (g := (mkF m 94 #[.val (.int p1), .val (.int p2), .val (.int p3), .val (.ref b1), .val (.int (8 : Int32)), .val (.ref w_AND), .unset, .unset, .unset, .unset] [(.ref w_AND)])) rfl (by rw [hml]; rfl) (Steps.refl _) (argsL := []) (rest := []) (lenOf own_pd1 rfl) rfl (by show 2 * 0 + _ ≤ _; exact Nat.le_of_eq rfl) (hb hby at_94) (fun _ _ => ⟨rfl, e23, (by decide : 1 + 0 ≤ _), (by decide : 11 + 0 ≤ _)⟩)
    dsimp only [Pt.U, Pt.locs, Pt.cells, Pt.slots] at X41 l41 y41 z41 st41 hQ41
    subst l41 y41 z41
    obtain ⟨hv41, Nc41, e41⟩ := hQ41
    have N41 := Fr.app N23 Nc41
    obtain rfl : v41 = some (.int (1 : Int32)) := hv41.trans (by simp)
    refine own_byW (f' := (mkF m 97 #[.val (.int p1), .val (.int p2), .val (.int p3), .val (.ref b1), .val (.int (8 : Int32)), .val (.ref w_AND), .unset, .unset, .unset, .unset] [(.int (1 : Int32))])) (fun t h => st41.trans h) ?_
    refine own_byW (f' := (mkF m 99 #[.val (.int p1), .val (.int p2), .val (.int p3), .val (.ref b1), .val (.int (8 : Int32)), .val (.ref w_AND), .val (.int (1 : Int32)), .unset, .unset, .unset] [])) (fun t h => XS.istore X41.here hx rfl (hb hby at_97) rfl (l' := #[.val (.int p1), .val (.int p2), .val (.int p3), .val (.ref b1), .val (.int (8 : Int32)), .val (.ref w_AND), .val (.int (1 : Int32)), .unset, .unset, .unset]) rfl h) ?_
    refine own_byW (f' := (mkF m 101 #[.val (.int p1), .val (.int p2), .val (.int p3), .val (.ref b1), .val (.int (8 : Int32)), .val (.ref w_AND), .val (.int (1 : Int32)), .unset, .unset, .unset] [(.int (8 : Int32))])) (fun t h => XS.iload X41.here hx rfl (hb hby at_99) rfl h) ?_
    refine own_byW (f' := (mkF m 103 #[.val (.int p1), .val (.int p2), .val (.int p3), .val (.ref b1), .val (.int (8 : Int32)), .val (.ref w_AND), .val (.int (1 : Int32)), .unset, .unset, .unset] [(.int (8 : Int32)), (.int (8 : Int32))])) (fun t h => XT.bipushV X41.here hx rfl (8 : Int32) (hb hby at_101) rfl h) ?_
    refine own_byW (f' := (mkF m 106 #[.val (.int p1), .val (.int p2), .val (.int p3), .val (.ref b1), .val (.int (8 : Int32)), .val (.ref w_AND), .val (.int (1 : Int32)), .unset, .unset, .unset] [])) (fun t h => XS.icmpNo X41.here hx rfl (hb hby at_103) rfl (by decide) h) ?_
    refine own_byW (f' := (mkF m 107 #[.val (.int p1), .val (.int p2), .val (.int p3), .val (.ref b1), .val (.int (8 : Int32)), .val (.ref w_AND), .val (.int (1 : Int32)), .unset, .unset, .unset] [(.int (1 : Int32))])) (fun t h => XS.iconst X41.here hx rfl (hb hby at_106) h) ?_
    refine own_byW (f' := (mkF m 111 #[.val (.int p1), .val (.int p2), .val (.int p3), .val (.ref b1), .val (.int (8 : Int32)), .val (.ref w_AND), .val (.int (1 : Int32)), .unset, .unset, .unset] [(.int (1 : Int32))])) (fun t h => XS.goto X41.here hx rfl (pc0 := 107) (pc' := 111) rfl (hb hby at_107) (by decide) (by decide) h) ?_
    refine own_byW (f' := (mkF m 113 #[.val (.int p1), .val (.int p2), .val (.int p3), .val (.ref b1), .val (.int (8 : Int32)), .val (.ref w_AND), .val (.int (1 : Int32)), .val (.int (1 : Int32)), .unset, .unset] [])) (fun t h => XS.istore X41.here hx rfl (hb hby at_111) rfl (l' := #[.val (.int p1), .val (.int p2), .val (.int p3), .val (.ref b1), .val (.int (8 : Int32)), .val (.ref w_AND), .val (.int (1 : Int32)), .val (.int (1 : Int32)), .unset, .unset]) rfl h) ?_
    refine own_byW (f' := (mkF m 115 #[.val (.int p1), .val (.int p2), .val (.int p3), .val (.ref b1), .val (.int (8 : Int32)), .val (.ref w_AND), .val (.int (1 : Int32)), .val (.int (1 : Int32)), .unset, .unset] [(.int (1 : Int32))])) (fun t h => XS.iload X41.here hx rfl (hb hby at_113) rfl h) ?_
    refine own_byW (f' := (mkF m 117 #[.val (.int p1), .val (.int p2), .val (.int p3), .val (.ref b1), .val (.int (8 : Int32)), .val (.ref w_AND), .val (.int (1 : Int32)), .val (.int (1 : Int32)), .unset, .unset] [(.int (1 : Int32)), (.int (1 : Int32))])) (fun t h => XS.iload X41.here hx rfl (hb hby at_115) rfl h) ?_
    refine own_byW (f' := (mkF m 122 #[.val (.int p1), .val (.int p2), .val (.int p3), .val (.ref b1), .val (.int (8 : Int32)), .val (.ref w_AND), .val (.int (1 : Int32)), .val (.int (1 : Int32)), .unset, .unset] [])) (fun t h => XS.icmpYes X41.here hx rfl (pc0 := 117) (pc' := 122) rfl (hb hby at_117) rfl (by decide) (by decide) (by decide) h) ?_
    refine own_byW (f' := (mkF m 124 #[.val (.int p1), .val (.int p2), .val (.int p3), .val (.ref b1), .val (.int (8 : Int32)), .val (.ref w_AND), .val (.int (1 : Int32)), .val (.int (1 : Int32)), .unset, .unset] [(.int (1 : Int32))])) (fun t h => XS.iload X41.here hx rfl (hb hby at_122) rfl h) ?_
    refine own_byW (f' := (mkF m 127 #[.val (.int p1), .val (.int p2), .val (.int p3), .val (.ref b1), .val (.int (8 : Int32)), .val (.ref w_AND), .val (.int (1 : Int32)), .val (.int (1 : Int32)), .unset, .unset] [])) (fun t h => XS.ifNo X41.here hx rfl (hb hby at_124) rfl (by decide) h) ?_
    refine own_byW (f' := (mkF m 129 #[.val (.int p1), .val (.int p2), .val (.int p3), .val (.ref b1), .val (.int (8 : Int32)), .val (.ref w_AND), .val (.int (1 : Int32)), .val (.int (1 : Int32)), .unset, .unset] [(.ref w_AND)])) (fun t h => XS.aload X41.here hx rfl (hb hby at_127) rfl rfl h) ?_
    refine own_byW (f' := (mkF m 130 #[.val (.int p1), .val (.int p2), .val (.int p3), .val (.ref b1), .val (.int (8 : Int32)), .val (.ref w_AND), .val (.int (1 : Int32)), .val (.int (1 : Int32)), .unset, .unset] [(.int p2), (.ref w_AND)])) (fun t h => XS.iloadN X41.here hx rfl (hb hby at_129) rfl h) ?_
    refine own_byW (f' := (mkF m 131 #[.val (.int p1), .val (.int p2), .val (.int p3), .val (.ref b1), .val (.int (8 : Int32)), .val (.ref w_AND), .val (.int (1 : Int32)), .val (.int (1 : Int32)), .unset, .unset] [(.int p3), (.int p2), (.ref w_AND)])) (fun t h => XS.iloadN X41.here hx rfl (hb hby at_130) rfl h) ?_
    obtain ⟨a42, T42, h42, k42, X42, e42, El42, hS42, hk42, hZ42', hown42', st42⟩ := ldcS (s := s) (vm0 := s.vm) X41 hx hZ hown (hw _ (List.mem_of_getElem? (i := 35) rfl)) (own_strS hw) e41 ((State.WarmedH.refl s).since 0) (Nat.zero_le _) (g := (mkF m 131 #[.val (.int p1), .val (.int p2), .val (.int p3), .val (.ref b1), .val (.int (8 : Int32)), .val (.ref w_AND), .val (.int (1 : Int32)), .val (.int (1 : Int32)), .unset, .unset] [(.int p3), (.int p2), (.ref w_AND)])) rfl (hb hby at_131) (n := 0) (by decide) (by decide) (by decide) (by decide)
    have Ex42 := own_extt Ex23 El42
    refine own_byW (f' := (mkF m 133 #[.val (.int p1), .val (.int p2), .val (.int p3), .val (.ref b1), .val (.int (8 : Int32)), .val (.ref w_AND), .val (.int (1 : Int32)), .val (.int (1 : Int32)), .unset, .unset] [(.ref a42), (.int p3), (.int p2), (.ref w_AND)])) st42 ?_
    refine own_byW (f' := (mkF m 134 #[.val (.int p1), .val (.int p2), .val (.int p3), .val (.ref b1), .val (.int (8 : Int32)), .val (.ref w_AND), .val (.int (1 : Int32)), .val (.int (1 : Int32)), .unset, .unset] [(.int (0 : Int32)), (.ref a42), (.int p3), (.int p2), (.ref w_AND)])) (fun t h => XS.iconst X42.here hx rfl (hb hby at_133) h) ?_
    obtain ⟨cq43, kq43, q43a, q43b, q43c⟩ := isOf hZ42' e42 (E_AND.ext Ex42)
    obtain ⟨v43, _, ⟨T43, L43, k43, n43⟩, -, X43, ⟨Lc43, hQ43, l43, y43, z43⟩, st43⟩ := X42.virtualBack hx (y := (⟨"com/example/subscript/subscript/Nodes$Operator", "apply", "(IILjava/lang/String;I)I"⟩ : MethodName)) (z := (⟨"com/example/subscript/subscript/Nodes$Operator", "apply", "(IILjava/lang/String;I)I"⟩ : MethodName)) hown42' (mvT hZ42' (hw _ (List.mem_of_getElem? (i := 43) rfl))) (mvT hZ42' (hw _ (List.mem_of_getElem? (i := 44) rfl))) (notFace_of_selects (args := #[]) (mvT hZ42' (hw _ (List.mem_of_getElem? (i := 46) rfl)))) (mvT hZ42' (hw _ (List.mem_of_getElem? (i := 46) rfl))) (mvT hZ42' (hw _ (List.mem_of_getElem? (i := 45) rfl))) (by decide) (backOf (W := 0) (rm2 l Z a0 hw [] w_AND p2 p3 a42 (0 : Int32) (8 : Int32) h42 n0 (Nat.le_trans Z0 Ex42.1) (E_AND.ext Ex42) (F_ordinal_AND.ext Ex42) (Or.inl rfl)) hZ42' (hw _ (List.mem_of_getElem? (i := 47) rfl)) (hw _ (List.mem_of_getElem? (i := 3) rfl)) (by decide) (by decide)) q43a q43c (g := (mkF m 134 #[.val (.int p1), .val (.int p2), .val (.int p3), .val (.ref b1), .val (.int (8 : Int32)), .val (.ref w_AND), .val (.int (1 : Int32)), .val (.int (1 : Int32)), .unset, .unset] [(.int (0 : Int32)), (.ref a42), (.int p3), (.int p2), (.ref w_AND)])) rfl (by rw [hml]; rfl) (Steps.refl _) (argsL := [(.int p2), (.int p3), (.ref a42), (.int (0 : Int32))]) (rest := []) (lenOf own_pd2 rfl) rfl (by show 2 * 0 + _ ≤ _; exact Nat.le_of_eq rfl) (hb hby at_134) (fun _ _ => ⟨rfl, e42, (by decide : 3 + 0 ≤ _), (by decide : 15 + 0 ≤ _)⟩)
    dsimp only [Pt.U, Pt.locs, Pt.cells, Pt.slots] at X43 l43 y43 z43 st43 hQ43
    subst l43 y43 z43
    obtain ⟨hv43, Nc43, e43⟩ := hQ43
    have N43 := Fr.app N41 Nc43
    obtain rfl : v43 = some (.int (p2 &&& p3)) := hv43.trans (congrArg (fun z => some (Value.int z)) (if_pos rfl))
    refine own_byW (f' := (mkF m 137 #[.val (.int p1), .val (.int p2), .val (.int p3), .val (.ref b1), .val (.int (8 : Int32)), .val (.ref w_AND), .val (.int (1 : Int32)), .val (.int (1 : Int32)), .unset, .unset] [(.int (p2 &&& p3))])) (fun t h => st43.trans h) ?_
    refine own_byW (f' := (mkF m 139 #[.val (.int p1), .val (.int p2), .val (.int p3), .val (.ref b1), .val (.int (8 : Int32)), .val (.ref w_AND), .val (.int (1 : Int32)), .val (.int (1 : Int32)), .val (.int (p2 &&& p3)), .unset] [])) (fun t h => XS.istore X43.here hx rfl (hb hby at_137) rfl (l' := #[.val (.int p1), .val (.int p2), .val (.int p3), .val (.ref b1), .val (.int (8 : Int32)), .val (.ref w_AND), .val (.int (1 : Int32)), .val (.int (1 : Int32)), .val (.int (p2 &&& p3)), .unset]) rfl h) ?_
    refine own_byW (f' := (mkF m 141 #[.val (.int p1), .val (.int p2), .val (.int p3), .val (.ref b1), .val (.int (8 : Int32)), .val (.ref w_AND), .val (.int (1 : Int32)), .val (.int (1 : Int32)), .val (.int (p2 &&& p3)), .unset] [(.int (8 : Int32))])) (fun t h => XS.iload X43.here hx rfl (hb hby at_139) rfl h) ?_
    refine own_byW (f' := (mkF m 143 #[.val (.int p1), .val (.int p2), .val (.int p3), .val (.ref b1), .val (.int (8 : Int32)), .val (.ref w_AND), .val (.int (1 : Int32)), .val (.int (1 : Int32)), .val (.int (p2 &&& p3)), .unset] [(.int (8 : Int32)), (.int (8 : Int32))])) (fun t h => XT.bipushV X43.here hx rfl (8 : Int32) (hb hby at_141) rfl h) ?_
    refine own_byW (f' := (mkF m 146 #[.val (.int p1), .val (.int p2), .val (.int p3), .val (.ref b1), .val (.int (8 : Int32)), .val (.ref w_AND), .val (.int (1 : Int32)), .val (.int (1 : Int32)), .val (.int (p2 &&& p3)), .unset] [])) (fun t h => XS.icmpNo X43.here hx rfl (hb hby at_143) rfl (by decide) h) ?_
    refine own_byW (f' := (mkF m 147 #[.val (.int p1), .val (.int p2), .val (.int p3), .val (.ref b1), .val (.int (8 : Int32)), .val (.ref w_AND), .val (.int (1 : Int32)), .val (.int (1 : Int32)), .val (.int (p2 &&& p3)), .unset] [(.int p2)])) (fun t h => XS.iloadN X43.here hx rfl (hb hby at_146) rfl h) ?_
    refine own_byW (f' := (mkF m 148 #[.val (.int p1), .val (.int p2), .val (.int p3), .val (.ref b1), .val (.int (8 : Int32)), .val (.ref w_AND), .val (.int (1 : Int32)), .val (.int (1 : Int32)), .val (.int (p2 &&& p3)), .unset] [(.int p3), (.int p2)])) (fun t h => XS.iloadN X43.here hx rfl (hb hby at_147) rfl h) ?_
    refine own_byW (f' := (mkF m 149 #[.val (.int p1), .val (.int p2), .val (.int p3), .val (.ref b1), .val (.int (8 : Int32)), .val (.ref w_AND), .val (.int (1 : Int32)), .val (.int (1 : Int32)), .val (.int (p2 &&& p3)), .unset] [(.int (p2 &&& p3))])) (fun t h => XS.iand X43.here hx rfl (hb hby at_148) rfl h) ?_
    refine own_byW (f' := (mkF m 151 #[.val (.int p1), .val (.int p2), .val (.int p3), .val (.ref b1), .val (.int (8 : Int32)), .val (.ref w_AND), .val (.int (1 : Int32)), .val (.int (1 : Int32)), .val (.int (p2 &&& p3)), .val (.int (p2 &&& p3))] [])) (fun t h => XS.istore X43.here hx rfl (hb hby at_149) rfl (l' := #[.val (.int p1), .val (.int p2), .val (.int p3), .val (.ref b1), .val (.int (8 : Int32)), .val (.ref w_AND), .val (.int (1 : Int32)), .val (.int (1 : Int32)), .val (.int (p2 &&& p3)), .val (.int (p2 &&& p3))]) rfl h) ?_
    refine own_byW (f' := (mkF m 174 #[.val (.int p1), .val (.int p2), .val (.int p3), .val (.ref b1), .val (.int (8 : Int32)), .val (.ref w_AND), .val (.int (1 : Int32)), .val (.int (1 : Int32)), .val (.int (p2 &&& p3)), .val (.int (p2 &&& p3))] [])) (fun t h => XS.goto X43.here hx rfl (pc0 := 151) (pc' := 174) rfl (hb hby at_151) (by decide) (by decide) h) ?_
    refine own_byW (f' := (mkF m 176 #[.val (.int p1), .val (.int p2), .val (.int p3), .val (.ref b1), .val (.int (8 : Int32)), .val (.ref w_AND), .val (.int (1 : Int32)), .val (.int (1 : Int32)), .val (.int (p2 &&& p3)), .val (.int (p2 &&& p3))] [(.int (p2 &&& p3))])) (fun t h => XS.iload X43.here hx rfl (hb hby at_174) rfl h) ?_
    refine own_byW (f' := (mkF m 178 #[.val (.int p1), .val (.int p2), .val (.int p3), .val (.ref b1), .val (.int (8 : Int32)), .val (.ref w_AND), .val (.int (1 : Int32)), .val (.int (1 : Int32)), .val (.int (p2 &&& p3)), .val (.int (p2 &&& p3))] [(.int (p2 &&& p3)), (.int (p2 &&& p3))])) (fun t h => XS.iload X43.here hx rfl (hb hby at_176) rfl h) ?_
    refine own_byW (f' := (mkF m 181 #[.val (.int p1), .val (.int p2), .val (.int p3), .val (.ref b1), .val (.int (8 : Int32)), .val (.ref w_AND), .val (.int (1 : Int32)), .val (.int (1 : Int32)), .val (.int (p2 &&& p3)), .val (.int (p2 &&& p3))] [])) (fun t h => XS.icmpNo X43.here hx rfl (hb hby at_178) rfl (teq (rfl : (p2 &&& p3) = (p2 &&& p3))).2 h) ?_
    refine own_byW (f' := (mkF m 183 #[.val (.int p1), .val (.int p2), .val (.int p3), .val (.ref b1), .val (.int (8 : Int32)), .val (.ref w_AND), .val (.int (1 : Int32)), .val (.int (1 : Int32)), .val (.int (p2 &&& p3)), .val (.int (p2 &&& p3))] [(.ref w_AND)])) (fun t h => XS.aload X43.here hx rfl (hb hby at_181) rfl rfl h) ?_
    obtain ⟨cq44, kq44, q44a, q44b, q44c⟩ := isOf hZ42' e43 (E_AND.ext Ex42)
    obtain ⟨v44, _, ⟨T44, L44, k44, n44⟩, -, X44, ⟨Lc44, hQ44, l44, y44, z44⟩, st44⟩ := X43.virtualBack hx (y := (⟨"com/example/subscript/subscript/Nodes$Operator", "isShift", "()Z"⟩ : MethodName)) (z := (⟨"com/example/subscript/subscript/Nodes$Operator", "isShift", "()Z"⟩ : MethodName)) hown42' (mvT hZ42' (hw _ (List.mem_of_getElem? (i := 57) rfl))) (mvT hZ42' (hw _ (List.mem_of_getElem? (i := 58) rfl))) (notFace_of_selects (args := #[]) (mvT hZ42' (hw _ (List.mem_of_getElem? (i := 60) rfl)))) (mvT hZ42' (hw _ (List.mem_of_getElem? (i := 60) rfl))) (mvT hZ42' (hw _ (List.mem_of_getElem? (i := 59) rfl))) (by decide) (backOf (W := 0) (rm4 l Z a0 hw [] w_AND w_SHIFT_LEFT w_SHIFT_RIGHT w_UNSIGNED_SHIFT_RIGHT h42 n0 (Nat.le_trans Z0 Ex42.1) (S_SHIFT_LEFT.ext Ex42) (S_SHIFT_RIGHT.ext Ex42) (S_UNSIGNED_SHIFT_RIGHT.ext Ex42)) hZ42' (hw _ (List.mem_of_getElem? (i := 61) rfl)) (hw _ (List.mem_of_getElem? (i := 3) rfl)) (by decide) (by decide)) q44a q44c (g := (mkF m 183 #[.val (.int p1), .val (.int p2), .val (.int p3), .val (.ref b1), .val (.int (8 : Int32)), .val (.ref w_AND), .val (.int (1 : Int32)), .val (.int (1 : Int32)), .val (.int (p2 &&& p3)), .val (.int (p2 &&& p3))] [(.ref w_AND)])) rfl (by rw [hml]; rfl) (Steps.refl _) (argsL := []) (rest := []) (lenOf own_pd4 rfl) rfl (by show 2 * 0 + _ ≤ _; exact Nat.le_of_eq rfl) (hb hby at_183) (fun _ _ => ⟨rfl, e43, (by decide : 3 + 0 ≤ _), (by decide : 15 + 0 ≤ _)⟩)
    dsimp only [Pt.U, Pt.locs, Pt.cells, Pt.slots] at X44 l44 y44 z44 st44 hQ44
    subst l44 y44 z44
    obtain ⟨hv44, Nc44, e44⟩ := hQ44
    have N44 := Fr.app N43 Nc44
    obtain rfl : v44 = some (.int (0 : Int32)) := hv44.trans (by simp [ne_AND_SHIFT_LEFT, ne_AND_SHIFT_RIGHT, ne_AND_UNSIGNED_SHIFT_RIGHT])
    refine own_byW (f' := (mkF m 186 #[.val (.int p1), .val (.int p2), .val (.int p3), .val (.ref b1), .val (.int (8 : Int32)), .val (.ref w_AND), .val (.int (1 : Int32)), .val (.int (1 : Int32)), .val (.int (p2 &&& p3)), .val (.int (p2 &&& p3))] [(.int (0 : Int32))])) (fun t h => st44.trans h) ?_
    refine own_byW (f' := (mkF m 189 #[.val (.int p1), .val (.int p2), .val (.int p3), .val (.ref b1), .val (.int (8 : Int32)), .val (.ref w_AND), .val (.int (1 : Int32)), .val (.int (1 : Int32)), .val (.int (p2 &&& p3)), .val (.int (p2 &&& p3))] [])) (fun t h => XS.ifNo X44.here hx rfl (hb hby at_186) rfl (by decide) h) ?_
    refine own_byW (f' := (mkF m 190 #[.val (.int p1), .val (.int p2), .val (.int p3), .val (.ref b1), .val (.int (8 : Int32)), .val (.ref w_AND), .val (.int (1 : Int32)), .val (.int (1 : Int32)), .val (.int (p2 &&& p3)), .val (.int (p2 &&& p3))] [(.int (1 : Int32))])) (fun t h => XS.iconst X44.here hx rfl (hb hby at_189) h) ?_
    refine own_byW (f' := (mkF m 194 #[.val (.int p1), .val (.int p2), .val (.int p3), .val (.ref b1), .val (.int (8 : Int32)), .val (.ref w_AND), .val (.int (1 : Int32)), .val (.int (1 : Int32)), .val (.int (p2 &&& p3)), .val (.int (p2 &&& p3))] [(.int (1 : Int32))])) (fun t h => XS.goto X44.here hx rfl (pc0 := 190) (pc' := 194) rfl (hb hby at_190) (by decide) (by decide) h) ?_
    obtain ⟨fs, hr, hrun, hended, hR, hW, hB, hsame⟩ := X44.leaveW hS42 (by rw [e44]; exact hk42) (v := some (.int (1 : Int32))) (fun h => by rw [Bd.returns] at h; cases h)
    refine own_mkW ⟨_, _, retN X44 hx (t := .boolean) Bd.returns (by simp) (hb hby at_194) hr, hrun, hended, _, _, rfl, ?_, hR, hW, hB, hsame.mono (by decide) (by decide)⟩
    show Q0 n0 _ T44.heap _
    rw [e44]
    exact ⟨rfl, N44⟩
  · refine own_byW (f' := (mkF m 87 #[.val (.int p1), .val (.int p2), .val (.int p3), .val (.ref b1), .val (.int (9 : Int32)), .unset, .unset, .unset, .unset, .unset] [(.ref b1)])) (fun t h => XS.aloadN X23.here hx rfl (hb hby at_86) rfl rfl h) ?_
    refine own_byW (f' := (mkF m 89 #[.val (.int p1), .val (.int p2), .val (.int p3), .val (.ref b1), .val (.int (9 : Int32)), .unset, .unset, .unset, .unset, .unset] [(.int (9 : Int32)), (.ref b1)])) (fun t h => XS.iload X23.here hx rfl (hb hby at_87) rfl h) ?_
    obtain ⟨cl45, Ar45, q45, S45, P45, H45, G45⟩ := V23
    refine own_byW (f' := (mkF m 90 #[.val (.int p1), .val (.int p2), .val (.int p3), .val (.ref b1), .val (.int (9 : Int32)), .unset, .unset, .unset, .unset, .unset] [(.ref w_OR)])) (fun t h => X23.aaload hx (j := (9 : Int32)) (v := (.ref w_OR)) (by rw [e23]; exact Ar45.1) (State.isArrayOf_alike hZ.alike Ar45.2.1) rfl Ar45.2.2 (by rw [S45]; decide) (Has.at H45 (by rw [S45]; decide) rfl) (g := (mkF m 89 #[.val (.int p1), .val (.int p2), .val (.int p3), .val (.ref b1), .val (.int (9 : Int32)), .unset, .unset, .unset, .unset, .unset] [(.int (9 : Int32)), (.ref b1)])) rfl rfl (hb hby at_89) t h) ?_
    refine own_byW (f' := (mkF m 92 #[.val (.int p1), .val (.int p2), .val (.int p3), .val (.ref b1), .val (.int (9 : Int32)), .val (.ref w_OR), .unset, .unset, .unset, .unset] [])) (fun t h => XS.astore X23.here hx rfl (hb hby at_90) rfl rfl (l' := #[.val (.int p1), .val (.int p2), .val (.int p3), .val (.ref b1), .val (.int (9 : Int32)), .val (.ref w_OR), .unset, .unset, .unset, .unset]) rfl h) ?_
    refine own_byW (f' := (mkF m 94 #[.val (.int p1), .val (.int p2), .val (.int p3), .val (.ref b1), .val (.int (9 : Int32)), .val (.ref w_OR), .unset, .unset, .unset, .unset] [(.ref w_OR)])) (fun t h => XS.aload X23.here hx rfl (hb hby at_92) rfl rfl h) ?_
    obtain ⟨cq46, kq46, q46a, q46b, q46c⟩ := isOf hZ e23 (E_OR.ext Ex23)
    obtain ⟨v46, _, ⟨T46, L46, k46, n46⟩, -, X46, ⟨Lc46, hQ46, l46, y46, z46⟩, st46⟩ := X23.virtualBack hx (y := (⟨"com/example/subscript/subscript/Nodes$Operator", "isBitwise", "()Z"⟩ : MethodName)) (z := (⟨"com/example/subscript/subscript/Nodes$Operator", "isBitwise", "()Z"⟩ : MethodName)) hown (mvT hZ (hw _ (List.mem_of_getElem? (i := 27) rfl))) (mvT hZ (hw _ (List.mem_of_getElem? (i := 28) rfl))) (notFace_of_selects (args := #[]) (mvT hZ (hw _ (List.mem_of_getElem? (i := 30) rfl)))) (mvT hZ (hw _ (List.mem_of_getElem? (i := 30) rfl))) (mvT hZ (hw _ (List.mem_of_getElem? (i := 29) rfl))) (by decide) (backOf (W := 0) (rm1 l Z a0 hw [] w_OR w_AND w_OR w_XOR h23 n0 (Nat.le_trans Z0 Ex23.1) (S_AND.ext Ex23) (S_OR.ext Ex23) (S_XOR.ext Ex23)) hZ (hw _ (List.mem_of_getElem? (i := 31) rfl)) (hw _ (List.mem_of_getElem? (i := 3) rfl)) (by decide) (by decide)) q46a q46c (g := (mkF m 94 #[.val (.int p1), .val (.int p2), .val (.int p3), .val (.ref b1), .val (.int (9 : Int32)), .val (.ref w_OR), .unset, .unset, .unset, .unset] [(.ref w_OR)])) rfl (by rw [hml]; rfl) (Steps.refl _) (argsL := []) (rest := []) (lenOf own_pd1 rfl) rfl (by show 2 * 0 + _ ≤ _; exact Nat.le_of_eq rfl) (hb hby at_94) (fun _ _ => ⟨rfl, e23, (by decide : 1 + 0 ≤ _), (by decide : 11 + 0 ≤ _)⟩)
    dsimp only [Pt.U, Pt.locs, Pt.cells, Pt.slots] at X46 l46 y46 z46 st46 hQ46
    subst l46 y46 z46
    obtain ⟨hv46, Nc46, e46⟩ := hQ46
    have N46 := Fr.app N23 Nc46
    obtain rfl : v46 = some (.int (1 : Int32)) := hv46.trans (by simp)
    refine own_byW (f' := (mkF m 97 #[.val (.int p1), .val (.int p2), .val (.int p3), .val (.ref b1), .val (.int (9 : Int32)), .val (.ref w_OR), .unset, .unset, .unset, .unset] [(.int (1 : Int32))])) (fun t h => st46.trans h) ?_
    refine own_byW (f' := (mkF m 99 #[.val (.int p1), .val (.int p2), .val (.int p3), .val (.ref b1), .val (.int (9 : Int32)), .val (.ref w_OR), .val (.int (1 : Int32)), .unset, .unset, .unset] [])) (fun t h => XS.istore X46.here hx rfl (hb hby at_97) rfl (l' := #[.val (.int p1), .val (.int p2), .val (.int p3), .val (.ref b1), .val (.int (9 : Int32)), .val (.ref w_OR), .val (.int (1 : Int32)), .unset, .unset, .unset]) rfl h) ?_
    refine own_byW (f' := (mkF m 101 #[.val (.int p1), .val (.int p2), .val (.int p3), .val (.ref b1), .val (.int (9 : Int32)), .val (.ref w_OR), .val (.int (1 : Int32)), .unset, .unset, .unset] [(.int (9 : Int32))])) (fun t h => XS.iload X46.here hx rfl (hb hby at_99) rfl h) ?_
    refine own_byW (f' := (mkF m 103 #[.val (.int p1), .val (.int p2), .val (.int p3), .val (.ref b1), .val (.int (9 : Int32)), .val (.ref w_OR), .val (.int (1 : Int32)), .unset, .unset, .unset] [(.int (8 : Int32)), (.int (9 : Int32))])) (fun t h => XT.bipushV X46.here hx rfl (8 : Int32) (hb hby at_101) rfl h) ?_
    refine own_byW (f' := (mkF m 106 #[.val (.int p1), .val (.int p2), .val (.int p3), .val (.ref b1), .val (.int (9 : Int32)), .val (.ref w_OR), .val (.int (1 : Int32)), .unset, .unset, .unset] [])) (fun t h => XS.icmpNo X46.here hx rfl (hb hby at_103) rfl (by decide) h) ?_
    refine own_byW (f' := (mkF m 107 #[.val (.int p1), .val (.int p2), .val (.int p3), .val (.ref b1), .val (.int (9 : Int32)), .val (.ref w_OR), .val (.int (1 : Int32)), .unset, .unset, .unset] [(.int (1 : Int32))])) (fun t h => XS.iconst X46.here hx rfl (hb hby at_106) h) ?_
    refine own_byW (f' := (mkF m 111 #[.val (.int p1), .val (.int p2), .val (.int p3), .val (.ref b1), .val (.int (9 : Int32)), .val (.ref w_OR), .val (.int (1 : Int32)), .unset, .unset, .unset] [(.int (1 : Int32))])) (fun t h => XS.goto X46.here hx rfl (pc0 := 107) (pc' := 111) rfl (hb hby at_107) (by decide) (by decide) h) ?_
    refine own_byW (f' := (mkF m 113 #[.val (.int p1), .val (.int p2), .val (.int p3), .val (.ref b1), .val (.int (9 : Int32)), .val (.ref w_OR), .val (.int (1 : Int32)), .val (.int (1 : Int32)), .unset, .unset] [])) (fun t h => XS.istore X46.here hx rfl (hb hby at_111) rfl (l' := #[.val (.int p1), .val (.int p2), .val (.int p3), .val (.ref b1), .val (.int (9 : Int32)), .val (.ref w_OR), .val (.int (1 : Int32)), .val (.int (1 : Int32)), .unset, .unset]) rfl h) ?_
    refine own_byW (f' := (mkF m 115 #[.val (.int p1), .val (.int p2), .val (.int p3), .val (.ref b1), .val (.int (9 : Int32)), .val (.ref w_OR), .val (.int (1 : Int32)), .val (.int (1 : Int32)), .unset, .unset] [(.int (1 : Int32))])) (fun t h => XS.iload X46.here hx rfl (hb hby at_113) rfl h) ?_
    refine own_byW (f' := (mkF m 117 #[.val (.int p1), .val (.int p2), .val (.int p3), .val (.ref b1), .val (.int (9 : Int32)), .val (.ref w_OR), .val (.int (1 : Int32)), .val (.int (1 : Int32)), .unset, .unset] [(.int (1 : Int32)), (.int (1 : Int32))])) (fun t h => XS.iload X46.here hx rfl (hb hby at_115) rfl h) ?_
    refine own_byW (f' := (mkF m 122 #[.val (.int p1), .val (.int p2), .val (.int p3), .val (.ref b1), .val (.int (9 : Int32)), .val (.ref w_OR), .val (.int (1 : Int32)), .val (.int (1 : Int32)), .unset, .unset] [])) (fun t h => XS.icmpYes X46.here hx rfl (pc0 := 117) (pc' := 122) rfl (hb hby at_117) rfl (by decide) (by decide) (by decide) h) ?_
    refine own_byW (f' := (mkF m 124 #[.val (.int p1), .val (.int p2), .val (.int p3), .val (.ref b1), .val (.int (9 : Int32)), .val (.ref w_OR), .val (.int (1 : Int32)), .val (.int (1 : Int32)), .unset, .unset] [(.int (1 : Int32))])) (fun t h => XS.iload X46.here hx rfl (hb hby at_122) rfl h) ?_
    refine own_byW (f' := (mkF m 127 #[.val (.int p1), .val (.int p2), .val (.int p3), .val (.ref b1), .val (.int (9 : Int32)), .val (.ref w_OR), .val (.int (1 : Int32)), .val (.int (1 : Int32)), .unset, .unset] [])) (fun t h => XS.ifNo X46.here hx rfl (hb hby at_124) rfl (by decide) h) ?_
    refine own_byW (f' := (mkF m 129 #[.val (.int p1), .val (.int p2), .val (.int p3), .val (.ref b1), .val (.int (9 : Int32)), .val (.ref w_OR), .val (.int (1 : Int32)), .val (.int (1 : Int32)), .unset, .unset] [(.ref w_OR)])) (fun t h => XS.aload X46.here hx rfl (hb hby at_127) rfl rfl h) ?_
    refine own_byW (f' := (mkF m 130 #[.val (.int p1), .val (.int p2), .val (.int p3), .val (.ref b1), .val (.int (9 : Int32)), .val (.ref w_OR), .val (.int (1 : Int32)), .val (.int (1 : Int32)), .unset, .unset] [(.int p2), (.ref w_OR)])) (fun t h => XS.iloadN X46.here hx rfl (hb hby at_129) rfl h) ?_
    refine own_byW (f' := (mkF m 131 #[.val (.int p1), .val (.int p2), .val (.int p3), .val (.ref b1), .val (.int (9 : Int32)), .val (.ref w_OR), .val (.int (1 : Int32)), .val (.int (1 : Int32)), .unset, .unset] [(.int p3), (.int p2), (.ref w_OR)])) (fun t h => XS.iloadN X46.here hx rfl (hb hby at_130) rfl h) ?_
    obtain ⟨a47, T47, h47, k47, X47, e47, El47, hS47, hk47, hZ47', hown47', st47⟩ := ldcS (s := s) (vm0 := s.vm) X46 hx hZ hown (hw _ (List.mem_of_getElem? (i := 35) rfl)) (own_strS hw) e46 ((State.WarmedH.refl s).since 0) (Nat.zero_le _) (g := (mkF m 131 #[.val (.int p1), .val (.int p2), .val (.int p3), .val (.ref b1), .val (.int (9 : Int32)), .val (.ref w_OR), .val (.int (1 : Int32)), .val (.int (1 : Int32)), .unset, .unset] [(.int p3), (.int p2), (.ref w_OR)])) rfl (hb hby at_131) (n := 0) (by decide) (by decide) (by decide) (by decide)
    have Ex47 := own_extt Ex23 El47
    refine own_byW (f' := (mkF m 133 #[.val (.int p1), .val (.int p2), .val (.int p3), .val (.ref b1), .val (.int (9 : Int32)), .val (.ref w_OR), .val (.int (1 : Int32)), .val (.int (1 : Int32)), .unset, .unset] [(.ref a47), (.int p3), (.int p2), (.ref w_OR)])) st47 ?_
    refine own_byW (f' := (mkF m 134 #[.val (.int p1), .val (.int p2), .val (.int p3), .val (.ref b1), .val (.int (9 : Int32)), .val (.ref w_OR), .val (.int (1 : Int32)), .val (.int (1 : Int32)), .unset, .unset] [(.int (0 : Int32)), (.ref a47), (.int p3), (.int p2), (.ref w_OR)])) (fun t h => XS.iconst X47.here hx rfl (hb hby at_133) h) ?_
    obtain ⟨cq48, kq48, q48a, q48b, q48c⟩ := isOf hZ47' e47 (E_OR.ext Ex47)
    obtain ⟨v48, _, ⟨T48, L48, k48, n48⟩, -, X48, ⟨Lc48, hQ48, l48, y48, z48⟩, st48⟩ := X47.virtualBack hx (y := (⟨"com/example/subscript/subscript/Nodes$Operator", "apply", "(IILjava/lang/String;I)I"⟩ : MethodName)) (z := (⟨"com/example/subscript/subscript/Nodes$Operator", "apply", "(IILjava/lang/String;I)I"⟩ : MethodName)) hown47' (mvT hZ47' (hw _ (List.mem_of_getElem? (i := 43) rfl))) (mvT hZ47' (hw _ (List.mem_of_getElem? (i := 44) rfl))) (notFace_of_selects (args := #[]) (mvT hZ47' (hw _ (List.mem_of_getElem? (i := 46) rfl)))) (mvT hZ47' (hw _ (List.mem_of_getElem? (i := 46) rfl))) (mvT hZ47' (hw _ (List.mem_of_getElem? (i := 45) rfl))) (by decide) (backOf (W := 0) (rm2 l Z a0 hw [] w_OR p2 p3 a47 (0 : Int32) (9 : Int32) h47 n0 (Nat.le_trans Z0 Ex47.1) (E_OR.ext Ex47) (F_ordinal_OR.ext Ex47) (Or.inr (Or.inl rfl))) hZ47' (hw _ (List.mem_of_getElem? (i := 47) rfl)) (hw _ (List.mem_of_getElem? (i := 3) rfl)) (by decide) (by decide)) q48a q48c (g := (mkF m 134 #[.val (.int p1), .val (.int p2), .val (.int p3), .val (.ref b1), .val (.int (9 : Int32)), .val (.ref w_OR), .val (.int (1 : Int32)), .val (.int (1 : Int32)), .unset, .unset] [(.int (0 : Int32)), (.ref a47), (.int p3), (.int p2), (.ref w_OR)])) rfl (by rw [hml]; rfl) (Steps.refl _) (argsL := [(.int p2), (.int p3), (.ref a47), (.int (0 : Int32))]) (rest := []) (lenOf own_pd2 rfl) rfl (by show 2 * 0 + _ ≤ _; exact Nat.le_of_eq rfl) (hb hby at_134) (fun _ _ => ⟨rfl, e47, (by decide : 3 + 0 ≤ _), (by decide : 15 + 0 ≤ _)⟩)
    dsimp only [Pt.U, Pt.locs, Pt.cells, Pt.slots] at X48 l48 y48 z48 st48 hQ48
    subst l48 y48 z48
    obtain ⟨hv48, Nc48, e48⟩ := hQ48
    have N48 := Fr.app N46 Nc48
    obtain rfl : v48 = some (.int (p2 ||| p3)) := hv48.trans (congrArg (fun z => some (Value.int z)) ((if_neg (by decide)).trans (if_pos rfl)))
    refine own_byW (f' := (mkF m 137 #[.val (.int p1), .val (.int p2), .val (.int p3), .val (.ref b1), .val (.int (9 : Int32)), .val (.ref w_OR), .val (.int (1 : Int32)), .val (.int (1 : Int32)), .unset, .unset] [(.int (p2 ||| p3))])) (fun t h => st48.trans h) ?_
    refine own_byW (f' := (mkF m 139 #[.val (.int p1), .val (.int p2), .val (.int p3), .val (.ref b1), .val (.int (9 : Int32)), .val (.ref w_OR), .val (.int (1 : Int32)), .val (.int (1 : Int32)), .val (.int (p2 ||| p3)), .unset] [])) (fun t h => XS.istore X48.here hx rfl (hb hby at_137) rfl (l' := #[.val (.int p1), .val (.int p2), .val (.int p3), .val (.ref b1), .val (.int (9 : Int32)), .val (.ref w_OR), .val (.int (1 : Int32)), .val (.int (1 : Int32)), .val (.int (p2 ||| p3)), .unset]) rfl h) ?_
    refine own_byW (f' := (mkF m 141 #[.val (.int p1), .val (.int p2), .val (.int p3), .val (.ref b1), .val (.int (9 : Int32)), .val (.ref w_OR), .val (.int (1 : Int32)), .val (.int (1 : Int32)), .val (.int (p2 ||| p3)), .unset] [(.int (9 : Int32))])) (fun t h => XS.iload X48.here hx rfl (hb hby at_139) rfl h) ?_
    refine own_byW (f' := (mkF m 143 #[.val (.int p1), .val (.int p2), .val (.int p3), .val (.ref b1), .val (.int (9 : Int32)), .val (.ref w_OR), .val (.int (1 : Int32)), .val (.int (1 : Int32)), .val (.int (p2 ||| p3)), .unset] [(.int (8 : Int32)), (.int (9 : Int32))])) (fun t h => XT.bipushV X48.here hx rfl (8 : Int32) (hb hby at_141) rfl h) ?_
    refine own_byW (f' := (mkF m 154 #[.val (.int p1), .val (.int p2), .val (.int p3), .val (.ref b1), .val (.int (9 : Int32)), .val (.ref w_OR), .val (.int (1 : Int32)), .val (.int (1 : Int32)), .val (.int (p2 ||| p3)), .unset] [])) (fun t h => XS.icmpYes X48.here hx rfl (pc0 := 143) (pc' := 154) rfl (hb hby at_143) rfl (by decide) (by decide) (by decide) h) ?_
    refine own_byW (f' := (mkF m 156 #[.val (.int p1), .val (.int p2), .val (.int p3), .val (.ref b1), .val (.int (9 : Int32)), .val (.ref w_OR), .val (.int (1 : Int32)), .val (.int (1 : Int32)), .val (.int (p2 ||| p3)), .unset] [(.int (9 : Int32))])) (fun t h => XS.iload X48.here hx rfl (hb hby at_154) rfl h) ?_
    refine own_byW (f' := (mkF m 158 #[.val (.int p1), .val (.int p2), .val (.int p3), .val (.ref b1), .val (.int (9 : Int32)), .val (.ref w_OR), .val (.int (1 : Int32)), .val (.int (1 : Int32)), .val (.int (p2 ||| p3)), .unset] [(.int (9 : Int32)), (.int (9 : Int32))])) (fun t h => XT.bipushV X48.here hx rfl (9 : Int32) (hb hby at_156) rfl h) ?_
    refine own_byW (f' := (mkF m 161 #[.val (.int p1), .val (.int p2), .val (.int p3), .val (.ref b1), .val (.int (9 : Int32)), .val (.ref w_OR), .val (.int (1 : Int32)), .val (.int (1 : Int32)), .val (.int (p2 ||| p3)), .unset] [])) (fun t h => XS.icmpNo X48.here hx rfl (hb hby at_158) rfl (by decide) h) ?_
    refine own_byW (f' := (mkF m 162 #[.val (.int p1), .val (.int p2), .val (.int p3), .val (.ref b1), .val (.int (9 : Int32)), .val (.ref w_OR), .val (.int (1 : Int32)), .val (.int (1 : Int32)), .val (.int (p2 ||| p3)), .unset] [(.int p2)])) (fun t h => XS.iloadN X48.here hx rfl (hb hby at_161) rfl h) ?_
    refine own_byW (f' := (mkF m 163 #[.val (.int p1), .val (.int p2), .val (.int p3), .val (.ref b1), .val (.int (9 : Int32)), .val (.ref w_OR), .val (.int (1 : Int32)), .val (.int (1 : Int32)), .val (.int (p2 ||| p3)), .unset] [(.int p3), (.int p2)])) (fun t h => XS.iloadN X48.here hx rfl (hb hby at_162) rfl h) ?_
    refine own_byW (f' := (mkF m 164 #[.val (.int p1), .val (.int p2), .val (.int p3), .val (.ref b1), .val (.int (9 : Int32)), .val (.ref w_OR), .val (.int (1 : Int32)), .val (.int (1 : Int32)), .val (.int (p2 ||| p3)), .unset] [(.int (p2 ||| p3))])) (fun t h => XT.ior X48.here hx rfl (hb hby at_163) rfl h) ?_
    refine own_byW (f' := (mkF m 166 #[.val (.int p1), .val (.int p2), .val (.int p3), .val (.ref b1), .val (.int (9 : Int32)), .val (.ref w_OR), .val (.int (1 : Int32)), .val (.int (1 : Int32)), .val (.int (p2 ||| p3)), .val (.int (p2 ||| p3))] [])) (fun t h => XS.istore X48.here hx rfl (hb hby at_164) rfl (l' := #[.val (.int p1), .val (.int p2), .val (.int p3), .val (.ref b1), .val (.int (9 : Int32)), .val (.ref w_OR), .val (.int (1 : Int32)), .val (.int (1 : Int32)), .val (.int (p2 ||| p3)), .val (.int (p2 ||| p3))]) rfl h) ?_
    refine own_byW (f' := (mkF m 174 #[.val (.int p1), .val (.int p2), .val (.int p3), .val (.ref b1), .val (.int (9 : Int32)), .val (.ref w_OR), .val (.int (1 : Int32)), .val (.int (1 : Int32)), .val (.int (p2 ||| p3)), .val (.int (p2 ||| p3))] [])) (fun t h => XS.goto X48.here hx rfl (pc0 := 166) (pc' := 174) rfl (hb hby at_166) (by decide) (by decide) h) ?_
    refine own_byW (f' := (mkF m 176 #[.val (.int p1), .val (.int p2), .val (.int p3), .val (.ref b1), .val (.int (9 : Int32)), .val (.ref w_OR), .val (.int (1 : Int32)), .val (.int (1 : Int32)), .val (.int (p2 ||| p3)), .val (.int (p2 ||| p3))] [(.int (p2 ||| p3))])) (fun t h => XS.iload X48.here hx rfl (hb hby at_174) rfl h) ?_
    refine own_byW (f' := (mkF m 178 #[.val (.int p1), .val (.int p2), .val (.int p3), .val (.ref b1), .val (.int (9 : Int32)), .val (.ref w_OR), .val (.int (1 : Int32)), .val (.int (1 : Int32)), .val (.int (p2 ||| p3)), .val (.int (p2 ||| p3))] [(.int (p2 ||| p3)), (.int (p2 ||| p3))])) (fun t h => XS.iload X48.here hx rfl (hb hby at_176) rfl h) ?_
    refine own_byW (f' := (mkF m 181 #[.val (.int p1), .val (.int p2), .val (.int p3), .val (.ref b1), .val (.int (9 : Int32)), .val (.ref w_OR), .val (.int (1 : Int32)), .val (.int (1 : Int32)), .val (.int (p2 ||| p3)), .val (.int (p2 ||| p3))] [])) (fun t h => XS.icmpNo X48.here hx rfl (hb hby at_178) rfl (teq (rfl : (p2 ||| p3) = (p2 ||| p3))).2 h) ?_
    refine own_byW (f' := (mkF m 183 #[.val (.int p1), .val (.int p2), .val (.int p3), .val (.ref b1), .val (.int (9 : Int32)), .val (.ref w_OR), .val (.int (1 : Int32)), .val (.int (1 : Int32)), .val (.int (p2 ||| p3)), .val (.int (p2 ||| p3))] [(.ref w_OR)])) (fun t h => XS.aload X48.here hx rfl (hb hby at_181) rfl rfl h) ?_
    obtain ⟨cq49, kq49, q49a, q49b, q49c⟩ := isOf hZ47' e48 (E_OR.ext Ex47)
    obtain ⟨v49, _, ⟨T49, L49, k49, n49⟩, -, X49, ⟨Lc49, hQ49, l49, y49, z49⟩, st49⟩ := X48.virtualBack hx (y := (⟨"com/example/subscript/subscript/Nodes$Operator", "isShift", "()Z"⟩ : MethodName)) (z := (⟨"com/example/subscript/subscript/Nodes$Operator", "isShift", "()Z"⟩ : MethodName)) hown47' (mvT hZ47' (hw _ (List.mem_of_getElem? (i := 57) rfl))) (mvT hZ47' (hw _ (List.mem_of_getElem? (i := 58) rfl))) (notFace_of_selects (args := #[]) (mvT hZ47' (hw _ (List.mem_of_getElem? (i := 60) rfl)))) (mvT hZ47' (hw _ (List.mem_of_getElem? (i := 60) rfl))) (mvT hZ47' (hw _ (List.mem_of_getElem? (i := 59) rfl))) (by decide) (backOf (W := 0) (rm4 l Z a0 hw [] w_OR w_SHIFT_LEFT w_SHIFT_RIGHT w_UNSIGNED_SHIFT_RIGHT h47 n0 (Nat.le_trans Z0 Ex47.1) (S_SHIFT_LEFT.ext Ex47) (S_SHIFT_RIGHT.ext Ex47) (S_UNSIGNED_SHIFT_RIGHT.ext Ex47)) hZ47' (hw _ (List.mem_of_getElem? (i := 61) rfl)) (hw _ (List.mem_of_getElem? (i := 3) rfl)) (by decide) (by decide)) q49a q49c (g := (mkF m 183 #[.val (.int p1), .val (.int p2), .val (.int p3), .val (.ref b1), .val (.int (9 : Int32)), .val (.ref w_OR), .val (.int (1 : Int32)), .val (.int (1 : Int32)), .val (.int (p2 ||| p3)), .val (.int (p2 ||| p3))] [(.ref w_OR)])) rfl (by rw [hml]; rfl) (Steps.refl _) (argsL := []) (rest := []) (lenOf own_pd4 rfl) rfl (by show 2 * 0 + _ ≤ _; exact Nat.le_of_eq rfl) (hb hby at_183) (fun _ _ => ⟨rfl, e48, (by decide : 3 + 0 ≤ _), (by decide : 15 + 0 ≤ _)⟩)
    dsimp only [Pt.U, Pt.locs, Pt.cells, Pt.slots] at X49 l49 y49 z49 st49 hQ49
    subst l49 y49 z49
    obtain ⟨hv49, Nc49, e49⟩ := hQ49
    have N49 := Fr.app N48 Nc49
    obtain rfl : v49 = some (.int (0 : Int32)) := hv49.trans (by simp [ne_OR_SHIFT_LEFT, ne_OR_SHIFT_RIGHT, ne_OR_UNSIGNED_SHIFT_RIGHT])
    refine own_byW (f' := (mkF m 186 #[.val (.int p1), .val (.int p2), .val (.int p3), .val (.ref b1), .val (.int (9 : Int32)), .val (.ref w_OR), .val (.int (1 : Int32)), .val (.int (1 : Int32)), .val (.int (p2 ||| p3)), .val (.int (p2 ||| p3))] [(.int (0 : Int32))])) (fun t h => st49.trans h) ?_
    refine own_byW (f' := (mkF m 189 #[.val (.int p1), .val (.int p2), .val (.int p3), .val (.ref b1), .val (.int (9 : Int32)), .val (.ref w_OR), .val (.int (1 : Int32)), .val (.int (1 : Int32)), .val (.int (p2 ||| p3)), .val (.int (p2 ||| p3))] [])) (fun t h => XS.ifNo X49.here hx rfl (hb hby at_186) rfl (by decide) h) ?_
    refine own_byW (f' := (mkF m 190 #[.val (.int p1), .val (.int p2), .val (.int p3), .val (.ref b1), .val (.int (9 : Int32)), .val (.ref w_OR), .val (.int (1 : Int32)), .val (.int (1 : Int32)), .val (.int (p2 ||| p3)), .val (.int (p2 ||| p3))] [(.int (1 : Int32))])) (fun t h => XS.iconst X49.here hx rfl (hb hby at_189) h) ?_
    refine own_byW (f' := (mkF m 194 #[.val (.int p1), .val (.int p2), .val (.int p3), .val (.ref b1), .val (.int (9 : Int32)), .val (.ref w_OR), .val (.int (1 : Int32)), .val (.int (1 : Int32)), .val (.int (p2 ||| p3)), .val (.int (p2 ||| p3))] [(.int (1 : Int32))])) (fun t h => XS.goto X49.here hx rfl (pc0 := 190) (pc' := 194) rfl (hb hby at_190) (by decide) (by decide) h) ?_
    obtain ⟨fs, hr, hrun, hended, hR, hW, hB, hsame⟩ := X49.leaveW hS47 (by rw [e49]; exact hk47) (v := some (.int (1 : Int32))) (fun h => by rw [Bd.returns] at h; cases h)
    refine own_mkW ⟨_, _, retN X49 hx (t := .boolean) Bd.returns (by simp) (hb hby at_194) hr, hrun, hended, _, _, rfl, ?_, hR, hW, hB, hsame.mono (by decide) (by decide)⟩
    show Q0 n0 _ T49.heap _
    rw [e49]
    exact ⟨rfl, N49⟩
  · refine own_byW (f' := (mkF m 87 #[.val (.int p1), .val (.int p2), .val (.int p3), .val (.ref b1), .val (.int (10 : Int32)), .unset, .unset, .unset, .unset, .unset] [(.ref b1)])) (fun t h => XS.aloadN X23.here hx rfl (hb hby at_86) rfl rfl h) ?_
    refine own_byW (f' := (mkF m 89 #[.val (.int p1), .val (.int p2), .val (.int p3), .val (.ref b1), .val (.int (10 : Int32)), .unset, .unset, .unset, .unset, .unset] [(.int (10 : Int32)), (.ref b1)])) (fun t h => XS.iload X23.here hx rfl (hb hby at_87) rfl h) ?_
    obtain ⟨cl50, Ar50, q50, S50, P50, H50, G50⟩ := V23
    refine own_byW (f' := (mkF m 90 #[.val (.int p1), .val (.int p2), .val (.int p3), .val (.ref b1), .val (.int (10 : Int32)), .unset, .unset, .unset, .unset, .unset] [(.ref w_XOR)])) (fun t h => X23.aaload hx (j := (10 : Int32)) (v := (.ref w_XOR)) (by rw [e23]; exact Ar50.1) (State.isArrayOf_alike hZ.alike Ar50.2.1) rfl Ar50.2.2 (by rw [S50]; decide) (Has.at H50 (by rw [S50]; decide) rfl) (g := (mkF m 89 #[.val (.int p1), .val (.int p2), .val (.int p3), .val (.ref b1), .val (.int (10 : Int32)), .unset, .unset, .unset, .unset, .unset] [(.int (10 : Int32)), (.ref b1)])) rfl rfl (hb hby at_89) t h) ?_
    refine own_byW (f' := (mkF m 92 #[.val (.int p1), .val (.int p2), .val (.int p3), .val (.ref b1), .val (.int (10 : Int32)), .val (.ref w_XOR), .unset, .unset, .unset, .unset] [])) (fun t h => XS.astore X23.here hx rfl (hb hby at_90) rfl rfl (l' := #[.val (.int p1), .val (.int p2), .val (.int p3), .val (.ref b1), .val (.int (10 : Int32)), .val (.ref w_XOR), .unset, .unset, .unset, .unset]) rfl h) ?_
    refine own_byW (f' := (mkF m 94 #[.val (.int p1), .val (.int p2), .val (.int p3), .val (.ref b1), .val (.int (10 : Int32)), .val (.ref w_XOR), .unset, .unset, .unset, .unset] [(.ref w_XOR)])) (fun t h => XS.aload X23.here hx rfl (hb hby at_92) rfl rfl h) ?_
    obtain ⟨cq51, kq51, q51a, q51b, q51c⟩ := isOf hZ e23 (E_XOR.ext Ex23)
    obtain ⟨v51, _, ⟨T51, L51, k51, n51⟩, -, X51, ⟨Lc51, hQ51, l51, y51, z51⟩, st51⟩ := X23.virtualBack hx (y := (⟨"com/example/subscript/subscript/Nodes$Operator", "isBitwise", "()Z"⟩ : MethodName)) (z := (⟨"com/example/subscript/subscript/Nodes$Operator", "isBitwise", "()Z"⟩ : MethodName)) hown (mvT hZ (hw _ (List.mem_of_getElem? (i := 27) rfl))) (mvT hZ (hw _ (List.mem_of_getElem? (i := 28) rfl))) (notFace_of_selects (args := #[]) (mvT hZ (hw _ (List.mem_of_getElem? (i := 30) rfl)))) (mvT hZ (hw _ (List.mem_of_getElem? (i := 30) rfl))) (mvT hZ (hw _ (List.mem_of_getElem? (i := 29) rfl))) (by decide) (backOf (W := 0) (rm1 l Z a0 hw [] w_XOR w_AND w_OR w_XOR h23 n0 (Nat.le_trans Z0 Ex23.1) (S_AND.ext Ex23) (S_OR.ext Ex23) (S_XOR.ext Ex23)) hZ (hw _ (List.mem_of_getElem? (i := 31) rfl)) (hw _ (List.mem_of_getElem? (i := 3) rfl)) (by decide) (by decide)) q51a q51c (g := (mkF m 94 #[.val (.int p1), .val (.int p2), .val (.int p3), .val (.ref b1), .val (.int (10 : Int32)), .val (.ref w_XOR), .unset, .unset, .unset, .unset] [(.ref w_XOR)])) rfl (by rw [hml]; rfl) (Steps.refl _) (argsL := []) (rest := []) (lenOf own_pd1 rfl) rfl (by show 2 * 0 + _ ≤ _; exact Nat.le_of_eq rfl) (hb hby at_94) (fun _ _ => ⟨rfl, e23, (by decide : 1 + 0 ≤ _), (by decide : 11 + 0 ≤ _)⟩)
    dsimp only [Pt.U, Pt.locs, Pt.cells, Pt.slots] at X51 l51 y51 z51 st51 hQ51
    subst l51 y51 z51
    obtain ⟨hv51, Nc51, e51⟩ := hQ51
    have N51 := Fr.app N23 Nc51
    obtain rfl : v51 = some (.int (1 : Int32)) := hv51.trans (by simp)
    refine own_byW (f' := (mkF m 97 #[.val (.int p1), .val (.int p2), .val (.int p3), .val (.ref b1), .val (.int (10 : Int32)), .val (.ref w_XOR), .unset, .unset, .unset, .unset] [(.int (1 : Int32))])) (fun t h => st51.trans h) ?_
    refine own_byW (f' := (mkF m 99 #[.val (.int p1), .val (.int p2), .val (.int p3), .val (.ref b1), .val (.int (10 : Int32)), .val (.ref w_XOR), .val (.int (1 : Int32)), .unset, .unset, .unset] [])) (fun t h => XS.istore X51.here hx rfl (hb hby at_97) rfl (l' := #[.val (.int p1), .val (.int p2), .val (.int p3), .val (.ref b1), .val (.int (10 : Int32)), .val (.ref w_XOR), .val (.int (1 : Int32)), .unset, .unset, .unset]) rfl h) ?_
    refine own_byW (f' := (mkF m 101 #[.val (.int p1), .val (.int p2), .val (.int p3), .val (.ref b1), .val (.int (10 : Int32)), .val (.ref w_XOR), .val (.int (1 : Int32)), .unset, .unset, .unset] [(.int (10 : Int32))])) (fun t h => XS.iload X51.here hx rfl (hb hby at_99) rfl h) ?_
    refine own_byW (f' := (mkF m 103 #[.val (.int p1), .val (.int p2), .val (.int p3), .val (.ref b1), .val (.int (10 : Int32)), .val (.ref w_XOR), .val (.int (1 : Int32)), .unset, .unset, .unset] [(.int (8 : Int32)), (.int (10 : Int32))])) (fun t h => XT.bipushV X51.here hx rfl (8 : Int32) (hb hby at_101) rfl h) ?_
    refine own_byW (f' := (mkF m 106 #[.val (.int p1), .val (.int p2), .val (.int p3), .val (.ref b1), .val (.int (10 : Int32)), .val (.ref w_XOR), .val (.int (1 : Int32)), .unset, .unset, .unset] [])) (fun t h => XS.icmpNo X51.here hx rfl (hb hby at_103) rfl (by decide) h) ?_
    refine own_byW (f' := (mkF m 107 #[.val (.int p1), .val (.int p2), .val (.int p3), .val (.ref b1), .val (.int (10 : Int32)), .val (.ref w_XOR), .val (.int (1 : Int32)), .unset, .unset, .unset] [(.int (1 : Int32))])) (fun t h => XS.iconst X51.here hx rfl (hb hby at_106) h) ?_
    refine own_byW (f' := (mkF m 111 #[.val (.int p1), .val (.int p2), .val (.int p3), .val (.ref b1), .val (.int (10 : Int32)), .val (.ref w_XOR), .val (.int (1 : Int32)), .unset, .unset, .unset] [(.int (1 : Int32))])) (fun t h => XS.goto X51.here hx rfl (pc0 := 107) (pc' := 111) rfl (hb hby at_107) (by decide) (by decide) h) ?_
    refine own_byW (f' := (mkF m 113 #[.val (.int p1), .val (.int p2), .val (.int p3), .val (.ref b1), .val (.int (10 : Int32)), .val (.ref w_XOR), .val (.int (1 : Int32)), .val (.int (1 : Int32)), .unset, .unset] [])) (fun t h => XS.istore X51.here hx rfl (hb hby at_111) rfl (l' := #[.val (.int p1), .val (.int p2), .val (.int p3), .val (.ref b1), .val (.int (10 : Int32)), .val (.ref w_XOR), .val (.int (1 : Int32)), .val (.int (1 : Int32)), .unset, .unset]) rfl h) ?_
    refine own_byW (f' := (mkF m 115 #[.val (.int p1), .val (.int p2), .val (.int p3), .val (.ref b1), .val (.int (10 : Int32)), .val (.ref w_XOR), .val (.int (1 : Int32)), .val (.int (1 : Int32)), .unset, .unset] [(.int (1 : Int32))])) (fun t h => XS.iload X51.here hx rfl (hb hby at_113) rfl h) ?_
    refine own_byW (f' := (mkF m 117 #[.val (.int p1), .val (.int p2), .val (.int p3), .val (.ref b1), .val (.int (10 : Int32)), .val (.ref w_XOR), .val (.int (1 : Int32)), .val (.int (1 : Int32)), .unset, .unset] [(.int (1 : Int32)), (.int (1 : Int32))])) (fun t h => XS.iload X51.here hx rfl (hb hby at_115) rfl h) ?_
    refine own_byW (f' := (mkF m 122 #[.val (.int p1), .val (.int p2), .val (.int p3), .val (.ref b1), .val (.int (10 : Int32)), .val (.ref w_XOR), .val (.int (1 : Int32)), .val (.int (1 : Int32)), .unset, .unset] [])) (fun t h => XS.icmpYes X51.here hx rfl (pc0 := 117) (pc' := 122) rfl (hb hby at_117) rfl (by decide) (by decide) (by decide) h) ?_
    refine own_byW (f' := (mkF m 124 #[.val (.int p1), .val (.int p2), .val (.int p3), .val (.ref b1), .val (.int (10 : Int32)), .val (.ref w_XOR), .val (.int (1 : Int32)), .val (.int (1 : Int32)), .unset, .unset] [(.int (1 : Int32))])) (fun t h => XS.iload X51.here hx rfl (hb hby at_122) rfl h) ?_
    refine own_byW (f' := (mkF m 127 #[.val (.int p1), .val (.int p2), .val (.int p3), .val (.ref b1), .val (.int (10 : Int32)), .val (.ref w_XOR), .val (.int (1 : Int32)), .val (.int (1 : Int32)), .unset, .unset] [])) (fun t h => XS.ifNo X51.here hx rfl (hb hby at_124) rfl (by decide) h) ?_
    refine own_byW (f' := (mkF m 129 #[.val (.int p1), .val (.int p2), .val (.int p3), .val (.ref b1), .val (.int (10 : Int32)), .val (.ref w_XOR), .val (.int (1 : Int32)), .val (.int (1 : Int32)), .unset, .unset] [(.ref w_XOR)])) (fun t h => XS.aload X51.here hx rfl (hb hby at_127) rfl rfl h) ?_
    refine own_byW (f' := (mkF m 130 #[.val (.int p1), .val (.int p2), .val (.int p3), .val (.ref b1), .val (.int (10 : Int32)), .val (.ref w_XOR), .val (.int (1 : Int32)), .val (.int (1 : Int32)), .unset, .unset] [(.int p2), (.ref w_XOR)])) (fun t h => XS.iloadN X51.here hx rfl (hb hby at_129) rfl h) ?_
    refine own_byW (f' := (mkF m 131 #[.val (.int p1), .val (.int p2), .val (.int p3), .val (.ref b1), .val (.int (10 : Int32)), .val (.ref w_XOR), .val (.int (1 : Int32)), .val (.int (1 : Int32)), .unset, .unset] [(.int p3), (.int p2), (.ref w_XOR)])) (fun t h => XS.iloadN X51.here hx rfl (hb hby at_130) rfl h) ?_
    obtain ⟨a52, T52, h52, k52, X52, e52, El52, hS52, hk52, hZ52', hown52', st52⟩ := ldcS (s := s) (vm0 := s.vm) X51 hx hZ hown (hw _ (List.mem_of_getElem? (i := 35) rfl)) (own_strS hw) e51 ((State.WarmedH.refl s).since 0) (Nat.zero_le _) (g := (mkF m 131 #[.val (.int p1), .val (.int p2), .val (.int p3), .val (.ref b1), .val (.int (10 : Int32)), .val (.ref w_XOR), .val (.int (1 : Int32)), .val (.int (1 : Int32)), .unset, .unset] [(.int p3), (.int p2), (.ref w_XOR)])) rfl (hb hby at_131) (n := 0) (by decide) (by decide) (by decide) (by decide)
    have Ex52 := own_extt Ex23 El52
    refine own_byW (f' := (mkF m 133 #[.val (.int p1), .val (.int p2), .val (.int p3), .val (.ref b1), .val (.int (10 : Int32)), .val (.ref w_XOR), .val (.int (1 : Int32)), .val (.int (1 : Int32)), .unset, .unset] [(.ref a52), (.int p3), (.int p2), (.ref w_XOR)])) st52 ?_
    refine own_byW (f' := (mkF m 134 #[.val (.int p1), .val (.int p2), .val (.int p3), .val (.ref b1), .val (.int (10 : Int32)), .val (.ref w_XOR), .val (.int (1 : Int32)), .val (.int (1 : Int32)), .unset, .unset] [(.int (0 : Int32)), (.ref a52), (.int p3), (.int p2), (.ref w_XOR)])) (fun t h => XS.iconst X52.here hx rfl (hb hby at_133) h) ?_
    obtain ⟨cq53, kq53, q53a, q53b, q53c⟩ := isOf hZ52' e52 (E_XOR.ext Ex52)
    obtain ⟨v53, _, ⟨T53, L53, k53, n53⟩, -, X53, ⟨Lc53, hQ53, l53, y53, z53⟩, st53⟩ := X52.virtualBack hx (y := (⟨"com/example/subscript/subscript/Nodes$Operator", "apply", "(IILjava/lang/String;I)I"⟩ : MethodName)) (z := (⟨"com/example/subscript/subscript/Nodes$Operator", "apply", "(IILjava/lang/String;I)I"⟩ : MethodName)) hown52' (mvT hZ52' (hw _ (List.mem_of_getElem? (i := 43) rfl))) (mvT hZ52' (hw _ (List.mem_of_getElem? (i := 44) rfl))) (notFace_of_selects (args := #[]) (mvT hZ52' (hw _ (List.mem_of_getElem? (i := 46) rfl)))) (mvT hZ52' (hw _ (List.mem_of_getElem? (i := 46) rfl))) (mvT hZ52' (hw _ (List.mem_of_getElem? (i := 45) rfl))) (by decide) (backOf (W := 0) (rm2 l Z a0 hw [] w_XOR p2 p3 a52 (0 : Int32) (10 : Int32) h52 n0 (Nat.le_trans Z0 Ex52.1) (E_XOR.ext Ex52) (F_ordinal_XOR.ext Ex52) (Or.inr (Or.inr rfl))) hZ52' (hw _ (List.mem_of_getElem? (i := 47) rfl)) (hw _ (List.mem_of_getElem? (i := 3) rfl)) (by decide) (by decide)) q53a q53c (g := (mkF m 134 #[.val (.int p1), .val (.int p2), .val (.int p3), .val (.ref b1), .val (.int (10 : Int32)), .val (.ref w_XOR), .val (.int (1 : Int32)), .val (.int (1 : Int32)), .unset, .unset] [(.int (0 : Int32)), (.ref a52), (.int p3), (.int p2), (.ref w_XOR)])) rfl (by rw [hml]; rfl) (Steps.refl _) (argsL := [(.int p2), (.int p3), (.ref a52), (.int (0 : Int32))]) (rest := []) (lenOf own_pd2 rfl) rfl (by show 2 * 0 + _ ≤ _; exact Nat.le_of_eq rfl) (hb hby at_134) (fun _ _ => ⟨rfl, e52, (by decide : 3 + 0 ≤ _), (by decide : 15 + 0 ≤ _)⟩)
    dsimp only [Pt.U, Pt.locs, Pt.cells, Pt.slots] at X53 l53 y53 z53 st53 hQ53
    subst l53 y53 z53
    obtain ⟨hv53, Nc53, e53⟩ := hQ53
    have N53 := Fr.app N51 Nc53
    obtain rfl : v53 = some (.int (p2 ^^^ p3)) := hv53.trans (congrArg (fun z => some (Value.int z)) ((if_neg (by decide)).trans (if_neg (by decide))))
    refine own_byW (f' := (mkF m 137 #[.val (.int p1), .val (.int p2), .val (.int p3), .val (.ref b1), .val (.int (10 : Int32)), .val (.ref w_XOR), .val (.int (1 : Int32)), .val (.int (1 : Int32)), .unset, .unset] [(.int (p2 ^^^ p3))])) (fun t h => st53.trans h) ?_
    refine own_byW (f' := (mkF m 139 #[.val (.int p1), .val (.int p2), .val (.int p3), .val (.ref b1), .val (.int (10 : Int32)), .val (.ref w_XOR), .val (.int (1 : Int32)), .val (.int (1 : Int32)), .val (.int (p2 ^^^ p3)), .unset] [])) (fun t h => XS.istore X53.here hx rfl (hb hby at_137) rfl (l' := #[.val (.int p1), .val (.int p2), .val (.int p3), .val (.ref b1), .val (.int (10 : Int32)), .val (.ref w_XOR), .val (.int (1 : Int32)), .val (.int (1 : Int32)), .val (.int (p2 ^^^ p3)), .unset]) rfl h) ?_
    refine own_byW (f' := (mkF m 141 #[.val (.int p1), .val (.int p2), .val (.int p3), .val (.ref b1), .val (.int (10 : Int32)), .val (.ref w_XOR), .val (.int (1 : Int32)), .val (.int (1 : Int32)), .val (.int (p2 ^^^ p3)), .unset] [(.int (10 : Int32))])) (fun t h => XS.iload X53.here hx rfl (hb hby at_139) rfl h) ?_
    refine own_byW (f' := (mkF m 143 #[.val (.int p1), .val (.int p2), .val (.int p3), .val (.ref b1), .val (.int (10 : Int32)), .val (.ref w_XOR), .val (.int (1 : Int32)), .val (.int (1 : Int32)), .val (.int (p2 ^^^ p3)), .unset] [(.int (8 : Int32)), (.int (10 : Int32))])) (fun t h => XT.bipushV X53.here hx rfl (8 : Int32) (hb hby at_141) rfl h) ?_
    refine own_byW (f' := (mkF m 154 #[.val (.int p1), .val (.int p2), .val (.int p3), .val (.ref b1), .val (.int (10 : Int32)), .val (.ref w_XOR), .val (.int (1 : Int32)), .val (.int (1 : Int32)), .val (.int (p2 ^^^ p3)), .unset] [])) (fun t h => XS.icmpYes X53.here hx rfl (pc0 := 143) (pc' := 154) rfl (hb hby at_143) rfl (by decide) (by decide) (by decide) h) ?_
    refine own_byW (f' := (mkF m 156 #[.val (.int p1), .val (.int p2), .val (.int p3), .val (.ref b1), .val (.int (10 : Int32)), .val (.ref w_XOR), .val (.int (1 : Int32)), .val (.int (1 : Int32)), .val (.int (p2 ^^^ p3)), .unset] [(.int (10 : Int32))])) (fun t h => XS.iload X53.here hx rfl (hb hby at_154) rfl h) ?_
    refine own_byW (f' := (mkF m 158 #[.val (.int p1), .val (.int p2), .val (.int p3), .val (.ref b1), .val (.int (10 : Int32)), .val (.ref w_XOR), .val (.int (1 : Int32)), .val (.int (1 : Int32)), .val (.int (p2 ^^^ p3)), .unset] [(.int (9 : Int32)), (.int (10 : Int32))])) (fun t h => XT.bipushV X53.here hx rfl (9 : Int32) (hb hby at_156) rfl h) ?_
    refine own_byW (f' := (mkF m 169 #[.val (.int p1), .val (.int p2), .val (.int p3), .val (.ref b1), .val (.int (10 : Int32)), .val (.ref w_XOR), .val (.int (1 : Int32)), .val (.int (1 : Int32)), .val (.int (p2 ^^^ p3)), .unset] [])) (fun t h => XS.icmpYes X53.here hx rfl (pc0 := 158) (pc' := 169) rfl (hb hby at_158) rfl (by decide) (by decide) (by decide) h) ?_
    refine own_byW (f' := (mkF m 170 #[.val (.int p1), .val (.int p2), .val (.int p3), .val (.ref b1), .val (.int (10 : Int32)), .val (.ref w_XOR), .val (.int (1 : Int32)), .val (.int (1 : Int32)), .val (.int (p2 ^^^ p3)), .unset] [(.int p2)])) (fun t h => XS.iloadN X53.here hx rfl (hb hby at_169) rfl h) ?_
    refine own_byW (f' := (mkF m 171 #[.val (.int p1), .val (.int p2), .val (.int p3), .val (.ref b1), .val (.int (10 : Int32)), .val (.ref w_XOR), .val (.int (1 : Int32)), .val (.int (1 : Int32)), .val (.int (p2 ^^^ p3)), .unset] [(.int p3), (.int p2)])) (fun t h => XS.iloadN X53.here hx rfl (hb hby at_170) rfl h) ?_
    refine own_byW (f' := (mkF m 172 #[.val (.int p1), .val (.int p2), .val (.int p3), .val (.ref b1), .val (.int (10 : Int32)), .val (.ref w_XOR), .val (.int (1 : Int32)), .val (.int (1 : Int32)), .val (.int (p2 ^^^ p3)), .unset] [(.int (p2 ^^^ p3))])) (fun t h => XT.ixor X53.here hx rfl (hb hby at_171) rfl h) ?_
    refine own_byW (f' := (mkF m 174 #[.val (.int p1), .val (.int p2), .val (.int p3), .val (.ref b1), .val (.int (10 : Int32)), .val (.ref w_XOR), .val (.int (1 : Int32)), .val (.int (1 : Int32)), .val (.int (p2 ^^^ p3)), .val (.int (p2 ^^^ p3))] [])) (fun t h => XS.istore X53.here hx rfl (hb hby at_172) rfl (l' := #[.val (.int p1), .val (.int p2), .val (.int p3), .val (.ref b1), .val (.int (10 : Int32)), .val (.ref w_XOR), .val (.int (1 : Int32)), .val (.int (1 : Int32)), .val (.int (p2 ^^^ p3)), .val (.int (p2 ^^^ p3))]) rfl h) ?_
    refine own_byW (f' := (mkF m 176 #[.val (.int p1), .val (.int p2), .val (.int p3), .val (.ref b1), .val (.int (10 : Int32)), .val (.ref w_XOR), .val (.int (1 : Int32)), .val (.int (1 : Int32)), .val (.int (p2 ^^^ p3)), .val (.int (p2 ^^^ p3))] [(.int (p2 ^^^ p3))])) (fun t h => XS.iload X53.here hx rfl (hb hby at_174) rfl h) ?_
    refine own_byW (f' := (mkF m 178 #[.val (.int p1), .val (.int p2), .val (.int p3), .val (.ref b1), .val (.int (10 : Int32)), .val (.ref w_XOR), .val (.int (1 : Int32)), .val (.int (1 : Int32)), .val (.int (p2 ^^^ p3)), .val (.int (p2 ^^^ p3))] [(.int (p2 ^^^ p3)), (.int (p2 ^^^ p3))])) (fun t h => XS.iload X53.here hx rfl (hb hby at_176) rfl h) ?_
    refine own_byW (f' := (mkF m 181 #[.val (.int p1), .val (.int p2), .val (.int p3), .val (.ref b1), .val (.int (10 : Int32)), .val (.ref w_XOR), .val (.int (1 : Int32)), .val (.int (1 : Int32)), .val (.int (p2 ^^^ p3)), .val (.int (p2 ^^^ p3))] [])) (fun t h => XS.icmpNo X53.here hx rfl (hb hby at_178) rfl (teq (rfl : (p2 ^^^ p3) = (p2 ^^^ p3))).2 h) ?_
    refine own_byW (f' := (mkF m 183 #[.val (.int p1), .val (.int p2), .val (.int p3), .val (.ref b1), .val (.int (10 : Int32)), .val (.ref w_XOR), .val (.int (1 : Int32)), .val (.int (1 : Int32)), .val (.int (p2 ^^^ p3)), .val (.int (p2 ^^^ p3))] [(.ref w_XOR)])) (fun t h => XS.aload X53.here hx rfl (hb hby at_181) rfl rfl h) ?_
    obtain ⟨cq54, kq54, q54a, q54b, q54c⟩ := isOf hZ52' e53 (E_XOR.ext Ex52)
    obtain ⟨v54, _, ⟨T54, L54, k54, n54⟩, -, X54, ⟨Lc54, hQ54, l54, y54, z54⟩, st54⟩ := X53.virtualBack hx (y := (⟨"com/example/subscript/subscript/Nodes$Operator", "isShift", "()Z"⟩ : MethodName)) (z := (⟨"com/example/subscript/subscript/Nodes$Operator", "isShift", "()Z"⟩ : MethodName)) hown52' (mvT hZ52' (hw _ (List.mem_of_getElem? (i := 57) rfl))) (mvT hZ52' (hw _ (List.mem_of_getElem? (i := 58) rfl))) (notFace_of_selects (args := #[]) (mvT hZ52' (hw _ (List.mem_of_getElem? (i := 60) rfl)))) (mvT hZ52' (hw _ (List.mem_of_getElem? (i := 60) rfl))) (mvT hZ52' (hw _ (List.mem_of_getElem? (i := 59) rfl))) (by decide) (backOf (W := 0) (rm4 l Z a0 hw [] w_XOR w_SHIFT_LEFT w_SHIFT_RIGHT w_UNSIGNED_SHIFT_RIGHT h52 n0 (Nat.le_trans Z0 Ex52.1) (S_SHIFT_LEFT.ext Ex52) (S_SHIFT_RIGHT.ext Ex52) (S_UNSIGNED_SHIFT_RIGHT.ext Ex52)) hZ52' (hw _ (List.mem_of_getElem? (i := 61) rfl)) (hw _ (List.mem_of_getElem? (i := 3) rfl)) (by decide) (by decide)) q54a q54c (g := (mkF m 183 #[.val (.int p1), .val (.int p2), .val (.int p3), .val (.ref b1), .val (.int (10 : Int32)), .val (.ref w_XOR), .val (.int (1 : Int32)), .val (.int (1 : Int32)), .val (.int (p2 ^^^ p3)), .val (.int (p2 ^^^ p3))] [(.ref w_XOR)])) rfl (by rw [hml]; rfl) (Steps.refl _) (argsL := []) (rest := []) (lenOf own_pd4 rfl) rfl (by show 2 * 0 + _ ≤ _; exact Nat.le_of_eq rfl) (hb hby at_183) (fun _ _ => ⟨rfl, e53, (by decide : 3 + 0 ≤ _), (by decide : 15 + 0 ≤ _)⟩)
    dsimp only [Pt.U, Pt.locs, Pt.cells, Pt.slots] at X54 l54 y54 z54 st54 hQ54
    subst l54 y54 z54
    obtain ⟨hv54, Nc54, e54⟩ := hQ54
    have N54 := Fr.app N53 Nc54
    obtain rfl : v54 = some (.int (0 : Int32)) := hv54.trans (by simp [ne_XOR_SHIFT_LEFT, ne_XOR_SHIFT_RIGHT, ne_XOR_UNSIGNED_SHIFT_RIGHT])
    refine own_byW (f' := (mkF m 186 #[.val (.int p1), .val (.int p2), .val (.int p3), .val (.ref b1), .val (.int (10 : Int32)), .val (.ref w_XOR), .val (.int (1 : Int32)), .val (.int (1 : Int32)), .val (.int (p2 ^^^ p3)), .val (.int (p2 ^^^ p3))] [(.int (0 : Int32))])) (fun t h => st54.trans h) ?_
    refine own_byW (f' := (mkF m 189 #[.val (.int p1), .val (.int p2), .val (.int p3), .val (.ref b1), .val (.int (10 : Int32)), .val (.ref w_XOR), .val (.int (1 : Int32)), .val (.int (1 : Int32)), .val (.int (p2 ^^^ p3)), .val (.int (p2 ^^^ p3))] [])) (fun t h => XS.ifNo X54.here hx rfl (hb hby at_186) rfl (by decide) h) ?_
    refine own_byW (f' := (mkF m 190 #[.val (.int p1), .val (.int p2), .val (.int p3), .val (.ref b1), .val (.int (10 : Int32)), .val (.ref w_XOR), .val (.int (1 : Int32)), .val (.int (1 : Int32)), .val (.int (p2 ^^^ p3)), .val (.int (p2 ^^^ p3))] [(.int (1 : Int32))])) (fun t h => XS.iconst X54.here hx rfl (hb hby at_189) h) ?_
    refine own_byW (f' := (mkF m 194 #[.val (.int p1), .val (.int p2), .val (.int p3), .val (.ref b1), .val (.int (10 : Int32)), .val (.ref w_XOR), .val (.int (1 : Int32)), .val (.int (1 : Int32)), .val (.int (p2 ^^^ p3)), .val (.int (p2 ^^^ p3))] [(.int (1 : Int32))])) (fun t h => XS.goto X54.here hx rfl (pc0 := 190) (pc' := 194) rfl (hb hby at_190) (by decide) (by decide) h) ?_
    obtain ⟨fs, hr, hrun, hended, hR, hW, hB, hsame⟩ := X54.leaveW hS52 (by rw [e54]; exact hk52) (v := some (.int (1 : Int32))) (fun h => by rw [Bd.returns] at h; cases h)
    refine own_mkW ⟨_, _, retN X54 hx (t := .boolean) Bd.returns (by simp) (hb hby at_194) hr, hrun, hended, _, _, rfl, ?_, hR, hW, hB, hsame.mono (by decide) (by decide)⟩
    show Q0 n0 _ T54.heap _
    rw [e54]
    exact ⟨rfl, N54⟩
set_option maxRecDepth 65536 in
set_option maxHeartbeats 40000000 in
theorem comes_1 {Post : Tables → Env → Array Value → State → Outcome → State → Prop} (hpost : ∀ tb e args s v u, (limb_1_1.after args s (.returned v) u = true ∧ limb_1_2.after args s (.returned v) u = true ∧ True) → ReturnedEndW s (.returned v) u (Jvm.fieldLocs frame_1_writes args s ++ Jvm.arrayLocs frame_1_arrays args s ++ Jvm.staticLocs frame_1_statics s) 16 1152 → Post tb e args s (.returned v) u) :
    ArmFor flags0 classFile x code maxLocals ret World_1 tables_1 room_1 Calls_1 rest_1 Pre_1 Post := by
  intro l hfl _ _ p e ha hc hk s m args below hf hA hF happ hP
  obtain ⟨hcalls, hrest, hpre⟩ := hP
  obtain ⟨-, -, -, hnamed, -, -, -, hat⟩ := (Spec.applies_iff hf).mp happ
  obtain ⟨hg, hn⟩ := and_e (Cond.before_iff.mp (show (Jvm.Cond.and given_1 narrow_1).before args s = true from hpre))
  obtain ⟨hcount, hg⟩ := and_e hg
  obtain ⟨hk0, hg⟩ := and_e hg
  obtain ⟨hk1, hg⟩ := and_e hg
  have hk2 := hg
  obtain ⟨w0, w1, w2, rfl⟩ : ∃ w0 w1 w2 : Value, args = #[w0, w1, w2] := by
    have hs : args.size = 3 := by simpa [Cond.value, given_1] using hcount
    obtain ⟨L⟩ := args
    match L, hs with
    | [w0, w1, w2], _ => exact ⟨w0, w1, w2, rfl⟩
  have hw := fun d (hd : d ∈ tables_1) => atoms_spec (ws := Jvm.Cond.code x code maxLocals ret :: tables_1) hat d (List.mem_cons_of_mem _ hd)
  obtain ⟨i0, ei0⟩ := is_v hk0
  obtain rfl : w0 = (.int i0) := Option.some.inj ei0
  obtain ⟨i1, ei1⟩ := is_v hk1
  obtain rfl : w1 = (.int i1) := Option.some.inj ei1
  obtain ⟨i2, ei2⟩ := is_v hk2
  obtain rfl : w2 = (.int i2) := Option.some.inj ei2
  obtain ⟨hn0, hn⟩ := and_e hn
  obtain ⟨hn1, hn⟩ := and_e hn
  obtain ⟨hn2, hn⟩ := and_e hn
  obtain ⟨hn3, hn⟩ := and_e hn
  obtain ⟨hn4, hn⟩ := and_e hn
  obtain ⟨hn5, hn⟩ := and_e hn
  obtain ⟨hn6, hn⟩ := and_e hn
  obtain ⟨hn7, hn⟩ := and_e hn
  obtain ⟨hn8, hn⟩ := and_e hn
  obtain ⟨hn9, hn⟩ := and_e hn
  obtain ⟨hn10, hn⟩ := and_e hn
  obtain ⟨hn11, hn⟩ := and_e hn
  obtain ⟨hn12, hn⟩ := and_e hn
  obtain ⟨hn13, hn⟩ := and_e hn
  obtain ⟨hn14, hn⟩ := and_e hn
  obtain ⟨hn15, hn⟩ := and_e hn
  obtain ⟨hn16, hn⟩ := and_e hn
  obtain ⟨hn17, hn⟩ := and_e hn
  obtain ⟨hn18, hn⟩ := and_e hn
  obtain ⟨hn19, hn⟩ := and_e hn
  obtain ⟨hn20, hn⟩ := and_e hn
  have hn21 := hn
  obtain ⟨w_ADD, ev_ADD⟩ := exa_v hn0
  have E_ADD := Exa.start ev_ADD hn0
  have S_ADD := Sta.start ev_ADD (Or.inr ⟨(hw _ (List.mem_of_getElem? (i := 3) rfl)), (hw _ (List.mem_of_getElem? (i := 4) rfl))⟩)
  obtain ⟨w_SUBTRACT, ev_SUBTRACT⟩ := exa_v hn1
  have E_SUBTRACT := Exa.start ev_SUBTRACT hn1
  have S_SUBTRACT := Sta.start ev_SUBTRACT (Or.inr ⟨(hw _ (List.mem_of_getElem? (i := 3) rfl)), (hw _ (List.mem_of_getElem? (i := 7) rfl))⟩)
  obtain ⟨w_MULTIPLY, ev_MULTIPLY⟩ := exa_v hn2
  have E_MULTIPLY := Exa.start ev_MULTIPLY hn2
  have S_MULTIPLY := Sta.start ev_MULTIPLY (Or.inr ⟨(hw _ (List.mem_of_getElem? (i := 3) rfl)), (hw _ (List.mem_of_getElem? (i := 9) rfl))⟩)
  obtain ⟨w_DIVIDE, ev_DIVIDE⟩ := exa_v hn3
  have E_DIVIDE := Exa.start ev_DIVIDE hn3
  have S_DIVIDE := Sta.start ev_DIVIDE (Or.inr ⟨(hw _ (List.mem_of_getElem? (i := 3) rfl)), (hw _ (List.mem_of_getElem? (i := 11) rfl))⟩)
  obtain ⟨w_REMAINDER, ev_REMAINDER⟩ := exa_v hn4
  have E_REMAINDER := Exa.start ev_REMAINDER hn4
  have S_REMAINDER := Sta.start ev_REMAINDER (Or.inr ⟨(hw _ (List.mem_of_getElem? (i := 3) rfl)), (hw _ (List.mem_of_getElem? (i := 13) rfl))⟩)
  obtain ⟨w_SHIFT_LEFT, ev_SHIFT_LEFT⟩ := exa_v hn5
  have E_SHIFT_LEFT := Exa.start ev_SHIFT_LEFT hn5
  have S_SHIFT_LEFT := Sta.start ev_SHIFT_LEFT (Or.inr ⟨(hw _ (List.mem_of_getElem? (i := 3) rfl)), (hw _ (List.mem_of_getElem? (i := 15) rfl))⟩)
  obtain ⟨w_SHIFT_RIGHT, ev_SHIFT_RIGHT⟩ := exa_v hn6
  have E_SHIFT_RIGHT := Exa.start ev_SHIFT_RIGHT hn6
  have S_SHIFT_RIGHT := Sta.start ev_SHIFT_RIGHT (Or.inr ⟨(hw _ (List.mem_of_getElem? (i := 3) rfl)), (hw _ (List.mem_of_getElem? (i := 17) rfl))⟩)
  obtain ⟨w_UNSIGNED_SHIFT_RIGHT, ev_UNSIGNED_SHIFT_RIGHT⟩ := exa_v hn7
  have E_UNSIGNED_SHIFT_RIGHT := Exa.start ev_UNSIGNED_SHIFT_RIGHT hn7
  have S_UNSIGNED_SHIFT_RIGHT := Sta.start ev_UNSIGNED_SHIFT_RIGHT (Or.inr ⟨(hw _ (List.mem_of_getElem? (i := 3) rfl)), (hw _ (List.mem_of_getElem? (i := 19) rfl))⟩)
  obtain ⟨w_AND, ev_AND⟩ := exa_v hn8
  have E_AND := Exa.start ev_AND hn8
  have S_AND := Sta.start ev_AND (Or.inr ⟨(hw _ (List.mem_of_getElem? (i := 3) rfl)), (hw _ (List.mem_of_getElem? (i := 21) rfl))⟩)
  obtain ⟨w_OR, ev_OR⟩ := exa_v hn9
  have E_OR := Exa.start ev_OR hn9
  have S_OR := Sta.start ev_OR (Or.inr ⟨(hw _ (List.mem_of_getElem? (i := 3) rfl)), (hw _ (List.mem_of_getElem? (i := 23) rfl))⟩)
  obtain ⟨w_XOR, ev_XOR⟩ := exa_v hn10
  have E_XOR := Exa.start ev_XOR hn10
  have S_XOR := Sta.start ev_XOR (Or.inr ⟨(hw _ (List.mem_of_getElem? (i := 3) rfl)), (hw _ (List.mem_of_getElem? (i := 25) rfl))⟩)
  have F_ordinal_ADD := own_fld ev_ADD hn11
  have F_ordinal_AND := own_fld ev_AND hn12
  have F_ordinal_OR := own_fld ev_OR hn13
  have F_ordinal_XOR := own_fld ev_XOR hn14
  have F_ordinal_SUBTRACT := own_fld ev_SUBTRACT hn15
  have F_ordinal_SHIFT_LEFT := own_fld ev_SHIFT_LEFT hn16
  have F_ordinal_SHIFT_RIGHT := own_fld ev_SHIFT_RIGHT hn17
  have F_ordinal_UNSIGNED_SHIFT_RIGHT := own_fld ev_UNSIGNED_SHIFT_RIGHT hn18
  have F_ordinal_DIVIDE := own_fld ev_DIVIDE hn19
  have F_ordinal_MULTIPLY := own_fld ev_MULTIPLY hn20
  have F_ordinal_REMAINDER := own_fld ev_REMAINDER hn21
  have ne_ADD_AND : ¬ (w_ADD = w_AND) := Fld.ne F_ordinal_ADD F_ordinal_AND (by decide)
  have ne_ADD_OR : ¬ (w_ADD = w_OR) := Fld.ne F_ordinal_ADD F_ordinal_OR (by decide)
  have ne_ADD_XOR : ¬ (w_ADD = w_XOR) := Fld.ne F_ordinal_ADD F_ordinal_XOR (by decide)
  have ne_SUBTRACT_AND : ¬ (w_SUBTRACT = w_AND) := Fld.ne F_ordinal_SUBTRACT F_ordinal_AND (by decide)
  have ne_SUBTRACT_OR : ¬ (w_SUBTRACT = w_OR) := Fld.ne F_ordinal_SUBTRACT F_ordinal_OR (by decide)
  have ne_SUBTRACT_XOR : ¬ (w_SUBTRACT = w_XOR) := Fld.ne F_ordinal_SUBTRACT F_ordinal_XOR (by decide)
  have ne_MULTIPLY_AND : ¬ (w_MULTIPLY = w_AND) := Fld.ne F_ordinal_MULTIPLY F_ordinal_AND (by decide)
  have ne_MULTIPLY_OR : ¬ (w_MULTIPLY = w_OR) := Fld.ne F_ordinal_MULTIPLY F_ordinal_OR (by decide)
  have ne_MULTIPLY_XOR : ¬ (w_MULTIPLY = w_XOR) := Fld.ne F_ordinal_MULTIPLY F_ordinal_XOR (by decide)
  have ne_DIVIDE_AND : ¬ (w_DIVIDE = w_AND) := Fld.ne F_ordinal_DIVIDE F_ordinal_AND (by decide)
  have ne_DIVIDE_OR : ¬ (w_DIVIDE = w_OR) := Fld.ne F_ordinal_DIVIDE F_ordinal_OR (by decide)
  have ne_DIVIDE_XOR : ¬ (w_DIVIDE = w_XOR) := Fld.ne F_ordinal_DIVIDE F_ordinal_XOR (by decide)
  have ne_REMAINDER_AND : ¬ (w_REMAINDER = w_AND) := Fld.ne F_ordinal_REMAINDER F_ordinal_AND (by decide)
  have ne_REMAINDER_OR : ¬ (w_REMAINDER = w_OR) := Fld.ne F_ordinal_REMAINDER F_ordinal_OR (by decide)
  have ne_REMAINDER_XOR : ¬ (w_REMAINDER = w_XOR) := Fld.ne F_ordinal_REMAINDER F_ordinal_XOR (by decide)
  have ne_SHIFT_LEFT_AND : ¬ (w_SHIFT_LEFT = w_AND) := Fld.ne F_ordinal_SHIFT_LEFT F_ordinal_AND (by decide)
  have ne_SHIFT_LEFT_OR : ¬ (w_SHIFT_LEFT = w_OR) := Fld.ne F_ordinal_SHIFT_LEFT F_ordinal_OR (by decide)
  have ne_SHIFT_LEFT_XOR : ¬ (w_SHIFT_LEFT = w_XOR) := Fld.ne F_ordinal_SHIFT_LEFT F_ordinal_XOR (by decide)
  have ne_SHIFT_RIGHT_AND : ¬ (w_SHIFT_RIGHT = w_AND) := Fld.ne F_ordinal_SHIFT_RIGHT F_ordinal_AND (by decide)
  have ne_SHIFT_RIGHT_OR : ¬ (w_SHIFT_RIGHT = w_OR) := Fld.ne F_ordinal_SHIFT_RIGHT F_ordinal_OR (by decide)
  have ne_SHIFT_RIGHT_XOR : ¬ (w_SHIFT_RIGHT = w_XOR) := Fld.ne F_ordinal_SHIFT_RIGHT F_ordinal_XOR (by decide)
  have ne_UNSIGNED_SHIFT_RIGHT_AND : ¬ (w_UNSIGNED_SHIFT_RIGHT = w_AND) := Fld.ne F_ordinal_UNSIGNED_SHIFT_RIGHT F_ordinal_AND (by decide)
  have ne_UNSIGNED_SHIFT_RIGHT_OR : ¬ (w_UNSIGNED_SHIFT_RIGHT = w_OR) := Fld.ne F_ordinal_UNSIGNED_SHIFT_RIGHT F_ordinal_OR (by decide)
  have ne_UNSIGNED_SHIFT_RIGHT_XOR : ¬ (w_UNSIGNED_SHIFT_RIGHT = w_XOR) := Fld.ne F_ordinal_UNSIGNED_SHIFT_RIGHT F_ordinal_XOR (by decide)
  have ne_AND_SHIFT_LEFT : ¬ (w_AND = w_SHIFT_LEFT) := Fld.ne F_ordinal_AND F_ordinal_SHIFT_LEFT (by decide)
  have ne_AND_SHIFT_RIGHT : ¬ (w_AND = w_SHIFT_RIGHT) := Fld.ne F_ordinal_AND F_ordinal_SHIFT_RIGHT (by decide)
  have ne_AND_UNSIGNED_SHIFT_RIGHT : ¬ (w_AND = w_UNSIGNED_SHIFT_RIGHT) := Fld.ne F_ordinal_AND F_ordinal_UNSIGNED_SHIFT_RIGHT (by decide)
  have ne_OR_SHIFT_LEFT : ¬ (w_OR = w_SHIFT_LEFT) := Fld.ne F_ordinal_OR F_ordinal_SHIFT_LEFT (by decide)
  have ne_OR_SHIFT_RIGHT : ¬ (w_OR = w_SHIFT_RIGHT) := Fld.ne F_ordinal_OR F_ordinal_SHIFT_RIGHT (by decide)
  have ne_OR_UNSIGNED_SHIFT_RIGHT : ¬ (w_OR = w_UNSIGNED_SHIFT_RIGHT) := Fld.ne F_ordinal_OR F_ordinal_UNSIGNED_SHIFT_RIGHT (by decide)
  have ne_XOR_SHIFT_LEFT : ¬ (w_XOR = w_SHIFT_LEFT) := Fld.ne F_ordinal_XOR F_ordinal_SHIFT_LEFT (by decide)
  have ne_XOR_SHIFT_RIGHT : ¬ (w_XOR = w_SHIFT_RIGHT) := Fld.ne F_ordinal_XOR F_ordinal_SHIFT_RIGHT (by decide)
  have ne_XOR_UNSIGNED_SHIFT_RIGHT : ¬ (w_XOR = w_UNSIGNED_SHIFT_RIGHT) := Fld.ne F_ordinal_XOR F_ordinal_UNSIGNED_SHIFT_RIGHT (by decide)
  obtain ⟨n, o, h1, h2, h3, _, L, rfl, ⟨rfl, N⟩, hq⟩ := rm0 l s _ hw tables_1 i0 i1 i2 w_ADD w_SUBTRACT w_MULTIPLY w_DIVIDE w_REMAINDER w_SHIFT_LEFT w_SHIFT_RIGHT w_UNSIGNED_SHIFT_RIGHT w_AND w_OR w_XOR s.heap s.heap.size (Nat.le_refl _) S_ADD S_SUBTRACT S_MULTIPLY S_DIVIDE S_REMAINDER S_SHIFT_LEFT S_SHIFT_RIGHT S_UNSIGNED_SHIFT_RIGHT S_AND S_OR S_XOR E_ADD E_SUBTRACT E_MULTIPLY E_DIVIDE E_REMAINDER E_SHIFT_LEFT E_SHIFT_RIGHT E_UNSIGNED_SHIFT_RIGHT E_AND E_OR E_XOR F_ordinal_AND F_ordinal_OR F_ordinal_XOR ne_ADD_AND ne_ADD_OR ne_ADD_XOR ne_SUBTRACT_AND ne_SUBTRACT_OR ne_SUBTRACT_XOR ne_MULTIPLY_AND ne_MULTIPLY_OR ne_MULTIPLY_XOR ne_DIVIDE_AND ne_DIVIDE_OR ne_DIVIDE_XOR ne_REMAINDER_AND ne_REMAINDER_OR ne_REMAINDER_XOR ne_SHIFT_LEFT_AND ne_SHIFT_LEFT_OR ne_SHIFT_LEFT_XOR ne_SHIFT_RIGHT_AND ne_SHIFT_RIGHT_OR ne_SHIFT_RIGHT_XOR ne_UNSIGNED_SHIFT_RIGHT_AND ne_UNSIGNED_SHIFT_RIGHT_OR ne_UNSIGNED_SHIFT_RIGHT_XOR ne_AND_SHIFT_LEFT ne_AND_SHIFT_RIGHT ne_AND_UNSIGNED_SHIFT_RIGHT ne_OR_SHIFT_LEFT ne_OR_SHIFT_RIGHT ne_OR_UNSIGNED_SHIFT_RIGHT ne_XOR_SHIFT_LEFT ne_XOR_SHIFT_RIGHT ne_XOR_UNSIGNED_SHIFT_RIGHT p e ha hc hk s m _ below hf ((Spec.applies_iff_loose hf).mp happ).1 ⟨rfl, State.Warmed39.refl s, rfl⟩ trivial
  refine ⟨n, _, h1, h2, h3, hpost _ _ _ _ _ _ ⟨Cond.after_iff.mpr rfl, Cond.after_iff.mpr (eq_i res_at (Term.int_eval (1)) rfl), trivial⟩ ⟨hq.1, hq.2.1, hq.2.2.1, (hq.2.2.2.sift fun y hy => Or.inr (N y hy)).mono (by decide) (by decide)⟩⟩
theorem main_1_1 : Claimed_1_1 := comes_1 fun _ _ _ _ _ _ h hF => ⟨h.1, hF⟩
theorem main_1_2 : Claimed_1_2 := comes_1 fun _ _ _ _ _ _ h hF => ⟨h.2.1, hF⟩
end Jvm.Pilot.@@N@@
namespace Jvm.Pilot.@@N@@
open Jvm Jvm.ClassFile Sem Op Lib Jvm.Free Jvm.Stand Jvm.Pilot.@@N@@.Jvm.D
/-! MADE BY PROGRAM (witnessworld.py) out of the Statement's table words and the real class files: 16 classes; the members and pool entries that the words name. The judged class is class 1, her method 1. -/
namespace start1
open Jvm.ClassFile
def u (s : String) : CpInfo := .utf8 (stringToUtf16 s)
/-- a pool by its gaps: so many unusable entries, then the entry; so many at the end -/
def gap : Nat → List CpInfo → List CpInfo
  | 0, r => r
  | n + 1, r => .unusable :: gap n r
def poolList (es : List (Nat × CpInfo)) (last : Nat) : List CpInfo := es.foldr (fun e r => gap e.1 (e.2 :: r)) (gap last [])
def pool (es : List (Nat × CpInfo)) (last : Nat) : Array CpInfo := ⟨poolList es last⟩
def fileOf (pool : Array CpInfo) (this : Nat) (attrs : Array Attribute := #[]) (ms : Array MethodInfo := #[]) (fl : Nat := 33) (sup : Nat := 0) (ifs : Array Nat := #[]) (fds : Array FieldInfo := #[]) : ClassFile where
  minorVersion := 0
  majorVersion := 65
  constantPool := pool
  accessFlags := fl
  thisClass := this
  superClass := sup
  interfaces := ifs
  fields := fds
  methods := ms
  attributes := attrs
def plain (name : String) (sup : Option ClassId) : Class where
  name := name
  kind := .ordinary
  loader := none
  accessFlags := 33
  super := sup
  interfaces := #[]
  cf := none
  fields := #[]
  methods := #[]
  instanceTypes := #[]
  staticTypes := #[]
  resolved := #[]
  callSites := []
  init := .initialized
  statics := none
  mirror := none

def pool0 : Array CpInfo := pool [(5, u "<init>"), (0, u "()V"), (1, .class_ 10), (1, u "java/lang/Object")] 113

def k0m0 : Method := { name := "<init>", desc := "()V", sig := { parameters := [], returnType := none }, accessFlags := 1, code := none }
/-- java/lang/Object -/
def k0 : Class := { plain "java/lang/Object" none with
  accessFlags := 33
  interfaces := #[]
  cf := some (fileOf pool0 8 #[] #[{ accessFlags := 1, nameIndex := 5, descriptorIndex := 6, attributes := #[] }] 33 0 #[] #[])
  fields := #[]
  methods := #[k0m0]
  instanceTypes := #[]
  staticTypes := #[]
  resolved := Array.replicate 124 none
  statics := none }

def pool1 : Array CpInfo := pool [(2, .class_ 4), (1, u "java/lang/Object"), (0, u "<init>"), (0, u "()V"), (0, .class_ 8), (0, u "com/example/subscript/subscript/Nodes$Operator"), (0, .fieldref 7 10), (0, .nameAndType 11 12), (0, u "ADD"), (0, u "Lcom/example/subscript/subscript/Nodes$Operator;"), (0, .fieldref 7 14), (0, .nameAndType 15 12), (0, u "SUBTRACT"), (0, .fieldref 7 17), (0, .nameAndType 18 12), (0, u "MULTIPLY"), (0, .fieldref 7 20), (0, .nameAndType 21 12), (0, u "DIVIDE"), (0, .fieldref 7 23), (0, .nameAndType 24 12), (0, u "REMAINDER"), (0, .fieldref 7 26), (0, .nameAndType 27 12), (0, u "SHIFT_LEFT"), (0, .fieldref 7 29), (0, .nameAndType 30 12), (0, u "SHIFT_RIGHT"), (0, .fieldref 7 32), (0, .nameAndType 33 12), (0, u "UNSIGNED_SHIFT_RIGHT"), (0, .fieldref 7 35), (0, .nameAndType 36 12), (0, u "AND"), (0, .fieldref 7 38), (0, .nameAndType 39 12), (0, u "OR"), (0, .fieldref 7 41), (0, .nameAndType 42 12), (0, u "XOR"), (0, .integer 2147483647), (0, .methodref 7 45), (0, .nameAndType 46 47), (0, u "isBitwise"), (0, u "()Z"), (0, .string 49), (0, u ""), (0, .methodref 7 51), (0, .nameAndType 52 53), (0, u "apply"), (0, u "(IILjava/lang/String;I)I"), (0, .methodref 7 55), (0, .nameAndType 56 47), (0, u "isShift"), (0, .class_ 58), (0, u "com/example/subscript/subscript/OperatorIsBitwisePinLaw"), (2, u "law"), (0, u "(III)Z")] 9

def k1m0 : Method := { name := "<init>", desc := "()V", sig := { parameters := [], returnType := none }, accessFlags := 2, code := none }
def k1c1 : Code := { maxStack := 5, maxLocals := 10, code := code, exceptionTable := #[], attributes := #[] }
def k1m1 : Method := { name := "law", desc := "(III)Z", sig := { parameters := [.int, .int, .int], returnType := some .boolean }, accessFlags := 9, code := some k1c1 }
/-- com/example/subscript/subscript/OperatorIsBitwisePinLaw -/
def k1 : Class := { plain "com/example/subscript/subscript/OperatorIsBitwisePinLaw" (some 0) with
  accessFlags := 49
  interfaces := #[]
  cf := some (fileOf pool1 57 #[] #[{ accessFlags := 2, nameIndex := 5, descriptorIndex := 6, attributes := #[] }, { accessFlags := 9, nameIndex := 61, descriptorIndex := 62, attributes := #[] }] 49 2 #[] #[])
  fields := #[]
  methods := #[k1m0, k1m1]
  instanceTypes := #[]
  staticTypes := #[]
  resolved := Array.replicate 72 none
  statics := none }

def pool2 : Array CpInfo := pool [(1, .class_ 2), (0, u "java/lang/constant/Constable"), (0, .class_ 4), (0, u "java/lang/Object")] 6

/-- java/lang/constant/Constable -/
def k2 : Class := { plain "java/lang/constant/Constable" (some 0) with
  accessFlags := 1537
  interfaces := #[]
  cf := some (fileOf pool2 1 #[] #[] 1537 3 #[] #[])
  fields := #[]
  methods := #[]
  instanceTypes := #[]
  staticTypes := #[]
  resolved := Array.replicate 11 none
  statics := none }

def pool3 : Array CpInfo := pool [(1, .class_ 2), (0, u "java/lang/Comparable"), (0, .class_ 4), (0, u "java/lang/Object")] 7

/-- java/lang/Comparable -/
def k3 : Class := { plain "java/lang/Comparable" (some 0) with
  accessFlags := 1537
  interfaces := #[]
  cf := some (fileOf pool3 1 #[] #[] 1537 3 #[] #[])
  fields := #[]
  methods := #[]
  instanceTypes := #[]
  staticTypes := #[]
  resolved := Array.replicate 12 none
  statics := none }

def pool4 : Array CpInfo := pool [(1, .class_ 2), (0, u "java/io/Serializable"), (0, .class_ 4), (0, u "java/lang/Object")] 2

/-- java/io/Serializable -/
def k4 : Class := { plain "java/io/Serializable" (some 0) with
  accessFlags := 1537
  interfaces := #[]
  cf := some (fileOf pool4 1 #[] #[] 1537 3 #[] #[])
  fields := #[]
  methods := #[]
  instanceTypes := #[]
  staticTypes := #[]
  resolved := Array.replicate 7 none
  statics := none }

def pool5 : Array CpInfo := pool [(2, .class_ 4), (1, u "java/lang/Enum"), (0, u "name"), (0, u "Ljava/lang/String;"), (0, .fieldref 2 8), (0, .nameAndType 9 10), (0, u "ordinal"), (0, u "I"), (1, .class_ 14), (1, u "java/lang/Object"), (4, u "hash"), (86, .class_ 108), (1, u "java/lang/Enum$EnumDesc"), (2, .class_ 112), (0, u "java/lang/constant/Constable"), (0, .class_ 114), (0, u "java/lang/Comparable"), (0, .class_ 116), (0, u "java/io/Serializable"), (9, u "()I")] 77

def k5c0 : Code := { maxStack := 1, maxLocals := 1, code := jdk_37_method_2_code, exceptionTable := #[], attributes := #[] }
def k5m0 : Method := { name := "ordinal", desc := "()I", sig := { parameters := [], returnType := some .int }, accessFlags := 17, code := some k5c0 }
/-- java/lang/Enum -/
def k5 : Class := { plain "java/lang/Enum" (some 0) with
  accessFlags := 1057
  interfaces := #[2, 3, 4]
  cf := some (fileOf pool5 2 #[.nestMembers #[106]] #[{ accessFlags := 17, nameIndex := 9, descriptorIndex := 126, attributes := #[] }] 1057 12 #[111, 113, 115] #[{ accessFlags := 18, nameIndex := 5, descriptorIndex := 6, attributes := #[] }, { accessFlags := 18, nameIndex := 9, descriptorIndex := 10, attributes := #[] }, { accessFlags := 2, nameIndex := 19, descriptorIndex := 10, attributes := #[] }])
  fields := #[{ name := "name", type := (.object "java/lang/String"), accessFlags := 18, slot := 0, constantValue := 0 }, { name := "ordinal", type := .int, accessFlags := 18, slot := 1, constantValue := 0 }, { name := "hash", type := .int, accessFlags := 2, slot := 2, constantValue := 0 }]
  methods := #[k5m0]
  instanceTypes := #[(.object "java/lang/String"), .int, .int]
  staticTypes := #[]
  resolved := Array.replicate 204 none
  statics := none }

def pool6 : Array CpInfo := pool [(1, .class_ 2), (0, u "com/example/subscript/subscript/Nodes$Operator"), (2, u "ADD"), (0, u "Lcom/example/subscript/subscript/Nodes$Operator;"), (2, u "SUBTRACT"), (2, u "MULTIPLY"), (2, u "DIVIDE"), (2, u "REMAINDER"), (0, .fieldref 1 20), (0, .nameAndType 21 6), (0, u "SHIFT_LEFT"), (0, .fieldref 1 23), (0, .nameAndType 24 6), (0, u "SHIFT_RIGHT"), (0, .fieldref 1 26), (0, .nameAndType 27 6), (0, u "UNSIGNED_SHIFT_RIGHT"), (0, .fieldref 1 29), (0, .nameAndType 30 6), (0, u "AND"), (0, .fieldref 1 32), (0, .nameAndType 33 6), (0, u "OR"), (0, .fieldref 1 35), (0, .nameAndType 36 6), (0, u "XOR"), (2, u "$VALUES"), (0, u "[Lcom/example/subscript/subscript/Nodes$Operator;"), (6, .class_ 49), (1, u "java/lang/Enum"), (6, .methodref 1 57), (0, .nameAndType 58 59), (0, u "ordinal"), (0, u "()I"), (65, u "isShift"), (0, u "()Z"), (1, u "isBitwise"), (0, u "apply"), (0, u "(IILjava/lang/String;I)I"), (9, .class_ 141), (0, u "com/example/subscript/subscript/Nodes")] 16

def k6c0 : Code := { maxStack := 2, maxLocals := 1, code := prog_96_method_4_code, exceptionTable := #[], attributes := #[] }
def k6m0 : Method := { name := "isShift", desc := "()Z", sig := { parameters := [], returnType := some .boolean }, accessFlags := 0, code := some k6c0 }
def k6c1 : Code := { maxStack := 2, maxLocals := 1, code := prog_96_method_5_code, exceptionTable := #[], attributes := #[] }
def k6m1 : Method := { name := "isBitwise", desc := "()Z", sig := { parameters := [], returnType := some .boolean }, accessFlags := 0, code := some k6c1 }
def k6c2 : Code := { maxStack := 4, maxLocals := 5, code := prog_96_method_6_code, exceptionTable := #[], attributes := #[] }
def k6m2 : Method := { name := "apply", desc := "(IILjava/lang/String;I)I", sig := { parameters := [.int, .int, (.object "java/lang/String"), .int], returnType := some .int }, accessFlags := 0, code := some k6c2 }
/-- com/example/subscript/subscript/Nodes$Operator -/
def k6 : Class := { plain "com/example/subscript/subscript/Nodes$Operator" (some 5) with
  accessFlags := 16432
  interfaces := #[]
  cf := some (fileOf pool6 1 #[.nestHost 140] #[{ accessFlags := 0, nameIndex := 125, descriptorIndex := 126, attributes := #[] }, { accessFlags := 0, nameIndex := 128, descriptorIndex := 126, attributes := #[] }, { accessFlags := 0, nameIndex := 129, descriptorIndex := 130, attributes := #[] }] 16432 47 #[] #[{ accessFlags := 16409, nameIndex := 5, descriptorIndex := 6, attributes := #[] }, { accessFlags := 16409, nameIndex := 9, descriptorIndex := 6, attributes := #[] }, { accessFlags := 16409, nameIndex := 12, descriptorIndex := 6, attributes := #[] }, { accessFlags := 16409, nameIndex := 15, descriptorIndex := 6, attributes := #[] }, { accessFlags := 16409, nameIndex := 18, descriptorIndex := 6, attributes := #[] }, { accessFlags := 16409, nameIndex := 21, descriptorIndex := 6, attributes := #[] }, { accessFlags := 16409, nameIndex := 24, descriptorIndex := 6, attributes := #[] }, { accessFlags := 16409, nameIndex := 27, descriptorIndex := 6, attributes := #[] }, { accessFlags := 16409, nameIndex := 30, descriptorIndex := 6, attributes := #[] }, { accessFlags := 16409, nameIndex := 33, descriptorIndex := 6, attributes := #[] }, { accessFlags := 16409, nameIndex := 36, descriptorIndex := 6, attributes := #[] }, { accessFlags := 4122, nameIndex := 39, descriptorIndex := 40, attributes := #[] }])
  fields := #[{ name := "ADD", type := (.object "com/example/subscript/subscript/Nodes$Operator"), accessFlags := 16409, slot := 0, constantValue := 0 }, { name := "SUBTRACT", type := (.object "com/example/subscript/subscript/Nodes$Operator"), accessFlags := 16409, slot := 1, constantValue := 0 }, { name := "MULTIPLY", type := (.object "com/example/subscript/subscript/Nodes$Operator"), accessFlags := 16409, slot := 2, constantValue := 0 }, { name := "DIVIDE", type := (.object "com/example/subscript/subscript/Nodes$Operator"), accessFlags := 16409, slot := 3, constantValue := 0 }, { name := "REMAINDER", type := (.object "com/example/subscript/subscript/Nodes$Operator"), accessFlags := 16409, slot := 4, constantValue := 0 }, { name := "SHIFT_LEFT", type := (.object "com/example/subscript/subscript/Nodes$Operator"), accessFlags := 16409, slot := 5, constantValue := 0 }, { name := "SHIFT_RIGHT", type := (.object "com/example/subscript/subscript/Nodes$Operator"), accessFlags := 16409, slot := 6, constantValue := 0 }, { name := "UNSIGNED_SHIFT_RIGHT", type := (.object "com/example/subscript/subscript/Nodes$Operator"), accessFlags := 16409, slot := 7, constantValue := 0 }, { name := "AND", type := (.object "com/example/subscript/subscript/Nodes$Operator"), accessFlags := 16409, slot := 8, constantValue := 0 }, { name := "OR", type := (.object "com/example/subscript/subscript/Nodes$Operator"), accessFlags := 16409, slot := 9, constantValue := 0 }, { name := "XOR", type := (.object "com/example/subscript/subscript/Nodes$Operator"), accessFlags := 16409, slot := 10, constantValue := 0 }, { name := "$VALUES", type := (.array (.object "com/example/subscript/subscript/Nodes$Operator")), accessFlags := 4122, slot := 11, constantValue := 0 }]
  methods := #[k6m0, k6m1, k6m2]
  instanceTypes := #[(.object "java/lang/String"), .int, .int]
  staticTypes := #[(.object "com/example/subscript/subscript/Nodes$Operator"), (.object "com/example/subscript/subscript/Nodes$Operator"), (.object "com/example/subscript/subscript/Nodes$Operator"), (.object "com/example/subscript/subscript/Nodes$Operator"), (.object "com/example/subscript/subscript/Nodes$Operator"), (.object "com/example/subscript/subscript/Nodes$Operator"), (.object "com/example/subscript/subscript/Nodes$Operator"), (.object "com/example/subscript/subscript/Nodes$Operator"), (.object "com/example/subscript/subscript/Nodes$Operator"), (.object "com/example/subscript/subscript/Nodes$Operator"), (.object "com/example/subscript/subscript/Nodes$Operator"), (.array (.object "com/example/subscript/subscript/Nodes$Operator"))]
  resolved := Array.replicate 158 none
  statics := some 0 }

def pool7 : Array CpInfo := pool [(2, .class_ 4), (1, u "java/lang/CharSequence"), (42, .class_ 48), (0, u "java/lang/CharSequence$1CodePointIterator"), (10, .class_ 60), (0, u "java/lang/CharSequence$1CharIterator"), (5, .class_ 67), (0, u "java/lang/Object")] 63

/-- java/lang/CharSequence -/
def k7 : Class := { plain "java/lang/CharSequence" (some 0) with
  accessFlags := 1537
  interfaces := #[]
  cf := some (fileOf pool7 2 #[.nestMembers #[47, 59]] #[] 1537 66 #[] #[])
  fields := #[]
  methods := #[]
  instanceTypes := #[]
  staticTypes := #[]
  resolved := Array.replicate 131 none
  statics := none }

def pool8 : Array CpInfo := pool [(1, .class_ 2), (0, u "java/lang/constant/ConstantDesc"), (0, .class_ 4), (0, u "java/lang/Object")] 32

/-- java/lang/constant/ConstantDesc -/
def k8 : Class := { plain "java/lang/constant/ConstantDesc" (some 0) with
  accessFlags := 1537
  interfaces := #[]
  cf := some (fileOf pool8 1 #[] #[] 1537 3 #[] #[])
  fields := #[]
  methods := #[]
  instanceTypes := #[]
  staticTypes := #[]
  resolved := Array.replicate 37 none
  statics := none }

def pool9 : Array CpInfo := pool [(2, .class_ 4), (1, u "java/lang/Object"), (0, u "<init>"), (0, u "()V"), (3, .class_ 12), (1, u "java/lang/String"), (0, u "value"), (0, u "[B"), (2, u "coder"), (0, u "B"), (2, u "hash"), (0, u "I"), (2, u "hashIsZero"), (0, u "Z"), (13, u "COMPACT_STRINGS"), (534, .class_ 576), (0, u "java/lang/CharSequence"), (22, u "CASE_INSENSITIVE_ORDER"), (0, u "Ljava/util/Comparator;"), (500, u "serialPersistentFields"), (0, u "[Ljava/io/ObjectStreamField;"), (0, .class_ 1104), (0, u "java/lang/String$CaseInsensitiveComparator"), (1, .class_ 1107), (0, u "java/io/Serializable"), (0, .class_ 1109), (0, u "java/lang/Comparable"), (0, .class_ 1111), (0, u "java/lang/constant/Constable"), (0, .class_ 1113), (0, u "java/lang/constant/ConstantDesc"), (2, u "serialVersionUID"), (0, u "J"), (3, u "REPL"), (0, u "C"), (2, u "LATIN1"), (1, u "UTF16")] 323

def k9m0 : Method := { name := "<init>", desc := "()V", sig := { parameters := [], returnType := none }, accessFlags := 1, code := none }
/-- java/lang/String -/
def k9 : Class := { plain "java/lang/String" (some 0) with
  accessFlags := 49
  interfaces := #[4, 3, 7, 2, 8]
  cf := some (fileOf pool9 10 #[.nestMembers #[1103]] #[{ accessFlags := 1, nameIndex := 5, descriptorIndex := 6, attributes := #[] }] 49 2 #[1106, 1108, 575, 1110, 1112] #[{ accessFlags := 18, nameIndex := 13, descriptorIndex := 14, attributes := #[] }, { accessFlags := 18, nameIndex := 17, descriptorIndex := 18, attributes := #[] }, { accessFlags := 2, nameIndex := 21, descriptorIndex := 22, attributes := #[] }, { accessFlags := 2, nameIndex := 25, descriptorIndex := 26, attributes := #[] }, { accessFlags := 26, nameIndex := 1116, descriptorIndex := 1117, attributes := #[] }, { accessFlags := 24, nameIndex := 40, descriptorIndex := 26, attributes := #[] }, { accessFlags := 26, nameIndex := 1101, descriptorIndex := 1102, attributes := #[] }, { accessFlags := 26, nameIndex := 1121, descriptorIndex := 1122, attributes := #[] }, { accessFlags := 25, nameIndex := 599, descriptorIndex := 600, attributes := #[] }, { accessFlags := 24, nameIndex := 1125, descriptorIndex := 18, attributes := #[] }, { accessFlags := 24, nameIndex := 1127, descriptorIndex := 18, attributes := #[] }])
  fields := #[{ name := "value", type := (.array .byte), accessFlags := 18, slot := 0, constantValue := 0 }, { name := "coder", type := .byte, accessFlags := 18, slot := 1, constantValue := 0 }, { name := "hash", type := .int, accessFlags := 2, slot := 2, constantValue := 0 }, { name := "hashIsZero", type := .boolean, accessFlags := 2, slot := 3, constantValue := 0 }, { name := "serialVersionUID", type := .long, accessFlags := 26, slot := 0, constantValue := 0 }, { name := "COMPACT_STRINGS", type := .boolean, accessFlags := 24, slot := 1, constantValue := 0 }, { name := "serialPersistentFields", type := (.array (.object "java/io/ObjectStreamField")), accessFlags := 26, slot := 2, constantValue := 0 }, { name := "REPL", type := .char, accessFlags := 26, slot := 3, constantValue := 0 }, { name := "CASE_INSENSITIVE_ORDER", type := (.object "java/util/Comparator"), accessFlags := 25, slot := 4, constantValue := 0 }, { name := "LATIN1", type := .byte, accessFlags := 24, slot := 5, constantValue := 0 }, { name := "UTF16", type := .byte, accessFlags := 24, slot := 6, constantValue := 0 }]
  methods := #[k9m0]
  instanceTypes := #[(.array .byte), .byte, .int, .boolean]
  staticTypes := #[.long, .boolean, (.array (.object "java/io/ObjectStreamField")), .char, (.object "java/util/Comparator"), .byte, .byte]
  resolved := Array.replicate 1451 none
  statics := none }

def pool10 : Array CpInfo := pool [(1, u "java/lang/Cloneable"), (0, .class_ 1), (0, u "java/lang/Object"), (0, .class_ 3)] 3

/-- java/lang/Cloneable -/
def k10 : Class := { plain "java/lang/Cloneable" (some 0) with
  accessFlags := 1537
  interfaces := #[]
  cf := some (fileOf pool10 2 #[] #[] 1537 4 #[] #[])
  fields := #[]
  methods := #[]
  instanceTypes := #[]
  staticTypes := #[]
  resolved := Array.replicate 8 none
  statics := none }

/-- the primitive byte -/
def k11 : Class := { plain "byte" none with kind := .primitive 'B', accessFlags := 0x411 }
/-- [B -/
def k12 : Class := { plain "[B" (some 0) with kind := .array 11 .byte, interfaces := #[10, 4], accessFlags := 1041 }

/-- the primitive int -/
def k13 : Class := { plain "int" none with kind := .primitive 'I', accessFlags := 0x411 }
/-- [I -/
def k14 : Class := { plain "[I" (some 0) with kind := .array 13 .int, interfaces := #[10, 4], accessFlags := 1041 }

/-- [Lcom/example/subscript/subscript/Nodes$Operator; -/
def k15 : Class := { plain "[Lcom/example/subscript/subscript/Nodes$Operator;" (some 0) with kind := .array 6 (.object "com/example/subscript/subscript/Nodes$Operator"), interfaces := #[10, 4], accessFlags := 1041 }

def heap : Heap := #[{ cls := 6, slots := #[.ref 1, .ref 2, .ref 3, .ref 4, .ref 5, .ref 6, .ref 7, .ref 8, .ref 9, .ref 10, .ref 11, .null], vm := .statics 6 },
  { cls := 6, slots := #[.null, .int 0, .int 0], vm := .none },
  { cls := 6, slots := #[.null, .int 1, .int 0], vm := .none },
  { cls := 6, slots := #[.null, .int 2, .int 0], vm := .none },
  { cls := 6, slots := #[.null, .int 3, .int 0], vm := .none },
  { cls := 6, slots := #[.null, .int 4, .int 0], vm := .none },
  { cls := 6, slots := #[.null, .int 5, .int 0], vm := .none },
  { cls := 6, slots := #[.null, .int 6, .int 0], vm := .none },
  { cls := 6, slots := #[.null, .int 7, .int 0], vm := .none },
  { cls := 6, slots := #[.null, .int 8, .int 0], vm := .none },
  { cls := 6, slots := #[.null, .int 9, .int 0], vm := .none },
  { cls := 6, slots := #[.null, .int 10, .int 0], vm := .none }]
def classes : Array Class := #[k0, k1, k2, k3, k4, k5, k6, k7, k8, k9, k10, k11, k12, k13, k14, k15]
def interned : List (Array UInt16 × Addr) := []
def slotsUsed : Nat := 45
def theMethod : MethodId := ⟨1, 1⟩
def args0 : Array Value := #[.int 9, .int 12, .int 10]
def aboutOver (below : List Frame) : State where
  vm := { classes := classes, interned := interned.toArray }
  heap := heap
  slotsUsed := slotsUsed
  threads := #[{ frames := .invoking theMethod args0 :: below }]
def below0 : List Frame := [.native { method := ⟨0, 0⟩, args := #[] }]
def about1 : State := aboutOver below0
def p0 : Program := .bare "" "" ""
def e0 : Env := launch0.env 0 0 0
theorem w_frames : about1.frames = Frame.invoking theMethod args0 :: below0 := rfl
set_option maxRecDepth 65536 in
theorem w_args : argsFit about1.vm theMethod args0 = true := by decide +kernel
set_option maxRecDepth 65536 in
theorem w_heap : heapFits about1 = true := by decide +kernel
set_option maxRecDepth 65536 in
theorem w_runnable : about1.curStatus? = some .runnable := by decide +kernel
set_option maxRecDepth 65536 in
theorem w_alone : about1.alone = true := by decide +kernel
set_option maxRecDepth 65536 in
theorem w_named : about1.methodNamed? x = some theMethod := by decide +kernel
set_option maxRecDepth 65536 in
theorem w_hears : about1.hears theMethod below0 = true := by decide +kernel
set_option maxRecDepth 65536 in
theorem w_ripe : about1.ripe theMethod args0 below0 = true := by decide +kernel
theorem w_running : about1.status = .running := rfl
set_option maxRecDepth 65536 in
theorem w_room : about1.hasRoom e0.platform room_1 = true :=
  launch0.hasRoom_least _ room_1 (by decide +kernel) (by decide +kernel) (by decide +kernel) (by decide +kernel) (by decide +kernel) (by decide +kernel)
theorem allAtoms_all (ts : List Jvm.Cond) (a : Array Jvm.Value) (st : Jvm.State) : (allAtoms ts).before a st = ts.all (fun c => c.before a st) := by
  induction ts with
  | nil => rfl
  | cons c t ih =>
    show (Jvm.Cond.and c (allAtoms t)).before a st = _
    rw [Jvm.Cond.before_and, ih, List.all_cons]
def words1 : List Jvm.Cond := Jvm.Cond.code x code maxLocals ret :: tables_1
/-- a 'code' word, met by the world's own term for the bytes: nothing is compared byte by byte -/
theorem code_word {y : MethodName} {bytes : ByteArray} {mx : Nat} {rt : Option FieldType} {a : Array Value} {s : State} {m : MethodId} {meth : Method} {c : Code} (h1 : s.methodNamed? y = some m) (h2 : s.vm.method? m = some meth) (h3 : meth.code = some c) (h4 : c.code = bytes)
    (h5 : (c.maxLocals == mx && c.exceptionTable.isEmpty && decide (c.maxStack ≤ mostOperands) && decide (meth.sig.returnType = rt) && !meth.locks && decide (parseMethodDescriptor y.desc = some meth.sig)) = true) : (Jvm.Cond.code y bytes mx rt).before a s = true := by
  simp only [Bool.and_eq_true, beq_iff_eq, Bool.not_eq_true', decide_eq_true_eq] at h5
  obtain ⟨⟨⟨⟨⟨g1, g2⟩, g3⟩, g4⟩, g5⟩, g6⟩ := h5
  simp [Cond.before, Cond.holds, Cond.value, h1, h2, h3, h4, g1, g2, g3, g4, g5, g6]
def isCode : Jvm.Cond → Bool
  | .code _ _ _ _ => true
  | _ => false
theorem all_split {L : List Jvm.Cond} {P : Jvm.Cond → Bool} (h1 : L.all (fun c => isCode c || P c) = true) (h2 : ∀ c ∈ L.filter isCode, P c = true) : L.all P = true := by
  refine List.all_eq_true.mpr fun c hc => ?_
  have h := List.all_eq_true.mp h1 c hc
  rcases Bool.eq_false_or_eq_true (isCode c) with hi | hi
  · exact h2 c (List.mem_filter.mpr ⟨hc, hi⟩)
  · simpa [hi] using h
set_option maxRecDepth 65536 in
theorem w_c0 : (Jvm.Cond.code x code maxLocals ret).before args0 about1 = true := code_word (m := ⟨1, 1⟩) (meth := k1m1) (c := k1c1) (by decide +kernel) rfl rfl rfl (by decide +kernel)
set_option maxRecDepth 65536 in
theorem w_c1 : (Jvm.Cond.code ({ cls := "com/example/subscript/subscript/Nodes$Operator", name := "isBitwise", desc := "()Z" } : Jvm.MethodName) prog_96_method_5_code (1 : Nat) (Option.some Jvm.ClassFile.FieldType.boolean)).before args0 about1 = true := code_word (m := ⟨6, 1⟩) (meth := k6m1) (c := k6c1) (by decide +kernel) rfl rfl rfl (by decide +kernel)
set_option maxRecDepth 65536 in
theorem w_c2 : (Jvm.Cond.code ({ cls := "com/example/subscript/subscript/Nodes$Operator", name := "apply", desc := "(IILjava/lang/String;I)I" } : Jvm.MethodName) prog_96_method_6_code (5 : Nat) (Option.some Jvm.ClassFile.FieldType.int)).before args0 about1 = true := code_word (m := ⟨6, 2⟩) (meth := k6m2) (c := k6c2) (by decide +kernel) rfl rfl rfl (by decide +kernel)
set_option maxRecDepth 65536 in
theorem w_c3 : (Jvm.Cond.code ({ cls := "java/lang/Enum", name := "ordinal", desc := "()I" } : Jvm.MethodName) jdk_37_method_2_code (1 : Nat) (Option.some Jvm.ClassFile.FieldType.int)).before args0 about1 = true := code_word (m := ⟨5, 0⟩) (meth := k5m0) (c := k5c0) (by decide +kernel) rfl rfl rfl (by decide +kernel)
set_option maxRecDepth 65536 in
theorem w_c4 : (Jvm.Cond.code ({ cls := "com/example/subscript/subscript/Nodes$Operator", name := "isShift", desc := "()Z" } : Jvm.MethodName) prog_96_method_4_code (1 : Nat) (Option.some Jvm.ClassFile.FieldType.boolean)).before args0 about1 = true := code_word (m := ⟨6, 0⟩) (meth := k6m0) (c := k6c0) (by decide +kernel) rfl rfl rfl (by decide +kernel)
def codes1 : List Jvm.Cond := [Jvm.Cond.code x code maxLocals ret, Jvm.Cond.code ({ cls := "com/example/subscript/subscript/Nodes$Operator", name := "isBitwise", desc := "()Z" } : Jvm.MethodName) prog_96_method_5_code (1 : Nat) (Option.some Jvm.ClassFile.FieldType.boolean), Jvm.Cond.code ({ cls := "com/example/subscript/subscript/Nodes$Operator", name := "apply", desc := "(IILjava/lang/String;I)I" } : Jvm.MethodName) prog_96_method_6_code (5 : Nat) (Option.some Jvm.ClassFile.FieldType.int), Jvm.Cond.code ({ cls := "java/lang/Enum", name := "ordinal", desc := "()I" } : Jvm.MethodName) jdk_37_method_2_code (1 : Nat) (Option.some Jvm.ClassFile.FieldType.int), Jvm.Cond.code ({ cls := "com/example/subscript/subscript/Nodes$Operator", name := "isShift", desc := "()Z" } : Jvm.MethodName) prog_96_method_4_code (1 : Nat) (Option.some Jvm.ClassFile.FieldType.boolean)]
set_option maxRecDepth 65536 in
theorem codes_eq : words1.filter isCode = codes1 := rfl
theorem w_codes : ∀ c ∈ words1.filter isCode, c.before args0 about1 = true := by
  rw [codes_eq]
  intro c hc
  simp only [codes1, List.mem_cons, List.not_mem_nil, or_false] at hc
  rcases hc with rfl | rfl | rfl | rfl | rfl
  · exact w_c0
  · exact w_c1
  · exact w_c2
  · exact w_c3
  · exact w_c4
set_option maxRecDepth 65536 in
theorem w_t1 : (words1.take 24).all (fun c => isCode c || c.before args0 about1) = true := by decide +kernel
set_option maxRecDepth 65536 in
theorem w_t2 : ((words1.drop 24).take 24).all (fun c => isCode c || c.before args0 about1) = true := by decide +kernel
set_option maxRecDepth 65536 in
theorem w_t3 : ((words1.drop 24).drop 24).all (fun c => isCode c || c.before args0 about1) = true := by decide +kernel
theorem w_tables : (allAtoms (Jvm.Cond.code x code maxLocals ret :: tables_1)).before args0 about1 = true := by
  rw [allAtoms_all]
  show words1.all (fun c => c.before args0 about1) = true
  refine all_split ?_ w_codes
  rw [← List.take_append_drop 24 words1, List.all_append, w_t1, ← List.take_append_drop 24 (words1.drop 24), List.all_append, w_t2, w_t3]
  rfl
set_option maxRecDepth 65536 in
theorem w_case : (Jvm.Cond.and given_1 narrow_1).before args0 about1 = true := by decide +kernel
theorem w_applies : (headSpec (Jvm.Cond.code x code maxLocals ret :: tables_1) room_1).applies x e0.platform about1 = true :=
  (Spec.applies_iff w_frames).mpr ⟨w_running, w_runnable, w_alone, w_named, w_hears, w_ripe, w_room, w_tables⟩
theorem atStart : AtStart classFile x code maxLocals ret World_1 tables_1 room_1 Calls_1 rest_1 Pre_1 launch0 p0 e0 about1 theMethod args0 below0 :=
  ⟨lists_1, trivial, launch0.admits_env _ _ _, launch0.least_env, fairChoices_fair.cas, fairChoices_fair.clock, w_frames, w_args, w_heap, w_applies, trivial, trivial, w_case⟩
end start1
theorem witness_1 : WitnessClaimed_1 := ⟨start1.p0, start1.e0, start1.about1, start1.theMethod, start1.args0, start1.below0, start1.atStart⟩
end Jvm.Pilot.@@N@@
