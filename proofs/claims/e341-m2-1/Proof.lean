import JvmDerived
import JvmDerived.Pilot.@@N@@Statement
import JvmDerived.Pilot.@@N@@Code
set_option linter.unusedVariables false
set_option linter.unusedSimpArgs false
namespace Jvm.Pilot.@@N@@
open Jvm Jvm.ClassFile Sem Op Lib Jvm.Free Jvm.Stand Jvm.LawKit Jvm.RoadKit Bundle Jvm.Pilot.@@N@@.Jvm.D

/-- the run that stands at the frame f over T ends as Q says -/
def own_Go (p : Program) (e : Env) (below : List Frame) (s : State) (Q : Option Value → Heap → List Loc → Prop) (rc rs : Nat) (T : State) (f : JFrame) : Prop :=
  ∃ s₂ o, Steps p.tables e below (T.setTop f) s₂ ∧ s₂.status = .running ∧ Ended s₂ below o ∧ ∃ v L, o = .returned v ∧ Q v s₂.heap L ∧ FrameEnd s o s₂ L rc rs
theorem own_by {p : Program} {e : Env} {below : List Frame} {s : State} {Q : Option Value → Heap → List Loc → Prop} {rc rs : Nat} {T T' : State} {f f' : JFrame} (k : ∀ t, Steps p.tables e below (T'.setTop f') t → Steps p.tables e below (T.setTop f) t) (h : own_Go p e below s Q rc rs T' f') : own_Go p e below s Q rc rs T f := by
  obtain ⟨s₂, o, st, r⟩ := h
  exact ⟨s₂, o, k _ st, r⟩
theorem own_mk {p : Program} {e : Env} {below : List Frame} {s : State} {Q : Option Value → Heap → List Loc → Prop} {rc rs : Nat} {T : State} {f : JFrame} (h : ∃ s₂ o, Steps p.tables e below (T.setTop f) s₂ ∧ s₂.status = .running ∧ Ended s₂ below o ∧ ∃ v L, o = .returned v ∧ Q v s₂.heap L ∧ FrameEnd s o s₂ L rc rs) : own_Go p e below s Q rc rs T f := h
theorem own_open {p : Program} {e : Env} {below : List Frame} {s : State} {Q : Option Value → Heap → List Loc → Prop} {rc rs : Nat} {T : State} {f f0 : JFrame} (k : ∀ t, Steps p.tables e below (T.setTop f) t → Steps p.tables e below (T.setTop f0) t) (h : own_Go p e below s Q rc rs T f) : ∃ s₂ o, Steps p.tables e below (T.setTop f0) s₂ ∧ s₂.status = .running ∧ Ended s₂ below o ∧ ∃ v L, o = .returned v ∧ Q v s₂.heap L ∧ FrameEnd s o s₂ L rc rs := by
  obtain ⟨s₂, o, st, r⟩ := h
  exact ⟨s₂, o, k _ st, r⟩
theorem own_eqI {args : Array Value} {s : State} {a : Term} {k : Int32} (h : (Cond.eq a (.int k)).value args s none s [] = some true) : a.eval args s none [] s = some (.int k) := by
  obtain ⟨x, y, h1, h2, -, K⟩ := cmp_v (Or.inl h)
  have e : y = .int k := (Option.some.inj h2).symm
  subst e
  obtain ⟨z, rfl⟩ := K
  have q : z = k := by simpa [Cond.value, h1, h2] using h
  rw [h1, q]
theorem own_extt {h h' h'' : Heap} (E : Ext h h') (E' : Ext h' h'') : Ext h h'' := ⟨Nat.le_trans E.1 E'.1, fun a c q => E'.2 a c (E.2 a c q)⟩
theorem own_extw {h h' h'' : Heap} {a : Addr} {sl : Nat} {v : Value} (E : Ext h h') (W : Wr h' h'' a sl v) (g : h.size ≤ a) : Ext h h'' := by
  refine ⟨Nat.le_trans E.1 (Nat.le_of_eq W.size.symm), fun b c q => ?_⟩
  have ne : b ≠ a := Nat.ne_of_lt (Nat.lt_of_lt_of_le (Array.getElem?_eq_some_iff.mp q).1 g)
  obtain ⟨cell, -, -, -, rfl⟩ := W
  rw [Array.getElem?_setIfInBounds_ne (Ne.symm ne)]
  exact E.2 b c q
theorem own_eqL {args : Array Value} {s : State} {a : Term} {k : Int64} (h : (Cond.eq a (.long k)).value args s none s [] = some true) : a.eval args s none [] s = some (.long k) := by
  obtain ⟨x, y, h1, h2, -, K⟩ := cmp_v (Or.inl h)
  have e : y = .long k := (Option.some.inj h2).symm
  subst e
  obtain ⟨z, rfl⟩ := K
  have q : z = k := by simpa [Cond.value, h1, h2] using h
  rw [h1, q]
theorem own_eqR {args : Array Value} {s : State} {a b : Term} {r : Addr} (h : (Cond.eq a b).value args s none s [] = some true) (hb : b.eval args s none [] s = some (.ref r)) : a.eval args s none [] s = some (.ref r) := by
  obtain ⟨x, y, h1, h2, -, K⟩ := cmp_v (Or.inl h)
  cases hb.symm.trans h2
  rcases ref_cases K.2 with rfl | ⟨q, rfl⟩
  · simp [Cond.value, h1, h2] at h
  · have e : q = r := by simpa [Cond.value, h1, h2] using h
    rw [h1, e]
theorem own_cmp0 {x y : Int64} (h : x = y) : XT.cmpL x y = 0 := by subst h; unfold XT.cmpL; rw [if_neg (by simp), if_pos rfl]
theorem own_cmp1 {x y : Int64} (h : ¬ x = y) : ¬ XT.cmpL x y = 0 := by
  unfold XT.cmpL
  by_cases q : y < x
  · rw [if_pos q]; decide
  · rw [if_neg q, if_neg h]; decide
theorem own_fldL {args : Array Value} {s : State} {t : Term} {C n d : String} {x : Addr} {k : Int64} (ev : t.eval args s none [] s = some (.ref x)) (h : (Cond.eq (.field t C n d) (.long k)).value args s none s [] = some true) : Fld s s.heap x C n d (.long k) := Fld.start ((fld_at ev).symm.trans (own_eqL h))
theorem own_fld {args : Array Value} {s : State} {t : Term} {C n d : String} {x : Addr} {k : Int32} (ev : t.eval args s none [] s = some (.ref x)) (h : (Cond.eq (.field t C n d) (.int k)).value args s none s [] = some true) : Fld s s.heap x C n d (.int k) := Fld.start ((fld_at ev).symm.trans (own_eqI h))

theorem own_mod (x y : Int32) (d : Int) (hy : y.toInt = d) (hd : 0 < d) : 0 ≤ ((x &&& 2147483647) % y).toInt ∧ ((x &&& 2147483647) % y).toInt < d := by
  have h0 : 0 ≤ (x &&& 2147483647).toInt := (c_andS x 2147483647).2.2 (by decide)
  rw [(c_irem _ y d hy).1 h0]
  exact ⟨Int.emod_nonneg _ (by omega), Int.emod_lt_of_pos _ hd⟩
theorem own_k (x : Int32) : (x &&& 2147483647) % 14 = 0 ∨ (x &&& 2147483647) % 14 = 1 ∨ (x &&& 2147483647) % 14 = 2 ∨ (x &&& 2147483647) % 14 = 3 ∨ (x &&& 2147483647) % 14 = 4 ∨ (x &&& 2147483647) % 14 = 5 ∨ (x &&& 2147483647) % 14 = 6 ∨ (x &&& 2147483647) % 14 = 7 ∨ (x &&& 2147483647) % 14 = 8 ∨ (x &&& 2147483647) % 14 = 9 ∨ (x &&& 2147483647) % 14 = 10 ∨ (x &&& 2147483647) % 14 = 11 ∨ (x &&& 2147483647) % 14 = 12 ∨ (x &&& 2147483647) % 14 = 13 := by
  obtain ⟨h1, h2⟩ := own_mod x 14 14 rfl (by decide)
  generalize (x &&& 2147483647) % 14 = k at h1 h2 ⊢
  simp only [← Int32.toInt_inj, Int32.reduceToInt]
  omega
theorem d1_0 : decode method_2_code 0 = .ok (.iload_n 0, 1) := by decide +kernel
theorem d1_1 : decode method_2_code 1 = .ok (.ifCond .ne 7, 3) := by decide +kernel
theorem d1_4 : decode method_2_code 4 = .ok (.getstatic 7, 3) := by decide +kernel
theorem d1_7 : decode method_2_code 7 = .ok (.areturn, 1) := by decide +kernel
theorem d1_8 : decode method_2_code 8 = .ok (.iload_n 0, 1) := by decide +kernel
theorem d1_9 : decode method_2_code 9 = .ok (.iconst 1, 1) := by decide +kernel
theorem d1_10 : decode method_2_code 10 = .ok (.if_icmp .ne 7, 3) := by decide +kernel
theorem d1_13 : decode method_2_code 13 = .ok (.getstatic 13, 3) := by decide +kernel
theorem d1_16 : decode method_2_code 16 = .ok (.areturn, 1) := by decide +kernel
theorem d1_17 : decode method_2_code 17 = .ok (.iload_n 0, 1) := by decide +kernel
theorem d1_18 : decode method_2_code 18 = .ok (.iconst 2, 1) := by decide +kernel
theorem d1_19 : decode method_2_code 19 = .ok (.if_icmp .ne 7, 3) := by decide +kernel
theorem d1_22 : decode method_2_code 22 = .ok (.getstatic 16, 3) := by decide +kernel
theorem d1_25 : decode method_2_code 25 = .ok (.areturn, 1) := by decide +kernel
theorem d1_26 : decode method_2_code 26 = .ok (.iload_n 0, 1) := by decide +kernel
theorem d1_27 : decode method_2_code 27 = .ok (.iconst 3, 1) := by decide +kernel
theorem d1_28 : decode method_2_code 28 = .ok (.if_icmp .ne 7, 3) := by decide +kernel
theorem d1_31 : decode method_2_code 31 = .ok (.getstatic 19, 3) := by decide +kernel
theorem d1_34 : decode method_2_code 34 = .ok (.areturn, 1) := by decide +kernel
theorem d1_35 : decode method_2_code 35 = .ok (.iload_n 0, 1) := by decide +kernel
theorem d1_36 : decode method_2_code 36 = .ok (.iconst 4, 1) := by decide +kernel
theorem d1_37 : decode method_2_code 37 = .ok (.if_icmp .ne 7, 3) := by decide +kernel
theorem d1_40 : decode method_2_code 40 = .ok (.getstatic 22, 3) := by decide +kernel
theorem d1_43 : decode method_2_code 43 = .ok (.areturn, 1) := by decide +kernel
theorem d1_44 : decode method_2_code 44 = .ok (.iload_n 0, 1) := by decide +kernel
theorem d1_45 : decode method_2_code 45 = .ok (.iconst 5, 1) := by decide +kernel
theorem d1_46 : decode method_2_code 46 = .ok (.if_icmp .ne 7, 3) := by decide +kernel
theorem d1_49 : decode method_2_code 49 = .ok (.getstatic 25, 3) := by decide +kernel
theorem d1_52 : decode method_2_code 52 = .ok (.areturn, 1) := by decide +kernel
theorem d1_53 : decode method_2_code 53 = .ok (.iload_n 0, 1) := by decide +kernel
theorem d1_54 : decode method_2_code 54 = .ok (.bipush 6, 2) := by decide +kernel
theorem d1_56 : decode method_2_code 56 = .ok (.if_icmp .ne 7, 3) := by decide +kernel
theorem d1_59 : decode method_2_code 59 = .ok (.getstatic 28, 3) := by decide +kernel
theorem d1_62 : decode method_2_code 62 = .ok (.areturn, 1) := by decide +kernel
theorem d1_63 : decode method_2_code 63 = .ok (.iload_n 0, 1) := by decide +kernel
theorem d1_64 : decode method_2_code 64 = .ok (.bipush 7, 2) := by decide +kernel
theorem d1_66 : decode method_2_code 66 = .ok (.if_icmp .ne 7, 3) := by decide +kernel
theorem d1_69 : decode method_2_code 69 = .ok (.getstatic 31, 3) := by decide +kernel
theorem d1_72 : decode method_2_code 72 = .ok (.areturn, 1) := by decide +kernel
theorem d1_73 : decode method_2_code 73 = .ok (.iload_n 0, 1) := by decide +kernel
theorem d1_74 : decode method_2_code 74 = .ok (.bipush 8, 2) := by decide +kernel
theorem d1_76 : decode method_2_code 76 = .ok (.if_icmp .ne 7, 3) := by decide +kernel
theorem d1_79 : decode method_2_code 79 = .ok (.getstatic 34, 3) := by decide +kernel
theorem d1_82 : decode method_2_code 82 = .ok (.areturn, 1) := by decide +kernel
theorem d1_83 : decode method_2_code 83 = .ok (.iload_n 0, 1) := by decide +kernel
theorem d1_84 : decode method_2_code 84 = .ok (.bipush 9, 2) := by decide +kernel
theorem d1_86 : decode method_2_code 86 = .ok (.if_icmp .ne 7, 3) := by decide +kernel
theorem d1_89 : decode method_2_code 89 = .ok (.getstatic 37, 3) := by decide +kernel
theorem d1_92 : decode method_2_code 92 = .ok (.areturn, 1) := by decide +kernel
theorem d1_93 : decode method_2_code 93 = .ok (.iload_n 0, 1) := by decide +kernel
theorem d1_94 : decode method_2_code 94 = .ok (.bipush 10, 2) := by decide +kernel
theorem d1_96 : decode method_2_code 96 = .ok (.if_icmp .ne 7, 3) := by decide +kernel
theorem d1_99 : decode method_2_code 99 = .ok (.getstatic 40, 3) := by decide +kernel
theorem d1_102 : decode method_2_code 102 = .ok (.areturn, 1) := by decide +kernel
theorem d1_103 : decode method_2_code 103 = .ok (.iload_n 0, 1) := by decide +kernel
theorem d1_104 : decode method_2_code 104 = .ok (.bipush 11, 2) := by decide +kernel
theorem d1_106 : decode method_2_code 106 = .ok (.if_icmp .ne 7, 3) := by decide +kernel
theorem d1_109 : decode method_2_code 109 = .ok (.getstatic 43, 3) := by decide +kernel
theorem d1_112 : decode method_2_code 112 = .ok (.areturn, 1) := by decide +kernel
theorem d1_113 : decode method_2_code 113 = .ok (.iload_n 0, 1) := by decide +kernel
theorem d1_114 : decode method_2_code 114 = .ok (.bipush 12, 2) := by decide +kernel
theorem d1_116 : decode method_2_code 116 = .ok (.if_icmp .ne 7, 3) := by decide +kernel
theorem d1_119 : decode method_2_code 119 = .ok (.getstatic 46, 3) := by decide +kernel
theorem d1_122 : decode method_2_code 122 = .ok (.areturn, 1) := by decide +kernel
theorem d1_123 : decode method_2_code 123 = .ok (.getstatic 49, 3) := by decide +kernel
theorem d1_126 : decode method_2_code 126 = .ok (.areturn, 1) := by decide +kernel
theorem own_pn1 : plainName "com/example/subscript/subscript/KindEvaluatedAsPinLaw" = true := by first | (simp [plainName, overriddenIn]; done) | decide +kernel
theorem own_ef1 (m : MethodId) (x0 : Int32) : entryFrame m #[(.int x0)] 1 = mkF m 0 #[.val (.int x0)] [] := by first | (simp [entryFrame, mkF, argsToLocals, Value.category, maxLocals]; done) | rfl
theorem own_pd1 : parseMethodDescriptor "(I)Lcom/example/subscript/subscript/Type$Kind;" = some ⟨[.int], some (.object "com/example/subscript/subscript/Type$Kind")⟩ := by decide +kernel
def Q1 (p1 : Int32) (w_BYTE w_SHORT w_CHAR w_INT w_LONG w_FLOAT w_DOUBLE w_BOOLEAN w_VOID w_CLASS w_PROGRAM_CLASS w_ARRAY w_NULL w_ERROR : Addr) (h0 : Heap) (n0 : Nat) (v : Option Value) (h : Heap) (L : List Loc) : Prop := v = some (.ref (if p1 = 0 then w_BYTE else if p1 = 1 then w_SHORT else if p1 = 2 then w_CHAR else if p1 = 3 then w_INT else if p1 = 4 then w_LONG else if p1 = 5 then w_FLOAT else if p1 = 6 then w_DOUBLE else if p1 = 7 then w_BOOLEAN else if p1 = 8 then w_VOID else if p1 = 9 then w_CLASS else if p1 = 10 then w_PROGRAM_CLASS else if p1 = 11 then w_ARRAY else if p1 = 12 then w_NULL else w_ERROR)) ∧ Fr n0 L ∧ h = h0
set_option maxRecDepth 65536 in
set_option maxHeartbeats 40000000 in
theorem rm1 (l : Launch) (Z : State) (a0 : Array Value) (hw : ∀ d ∈ tables_1, d.before a0 Z = true) (ws : List Jvm.Cond) (p1 : Int32) (w_BYTE w_SHORT w_CHAR w_INT w_LONG w_FLOAT w_DOUBLE w_BOOLEAN w_VOID w_CLASS w_PROGRAM_CLASS w_ARRAY w_NULL w_ERROR : Addr) (h0 : Heap) (n0 : Nat) (Z0 : n0 ≤ h0.size) (S_BYTE : Sta Z h0 "com/example/subscript/subscript/Type$Kind" "BYTE" "Lcom/example/subscript/subscript/Type$Kind;" (.ref w_BYTE)) (S_SHORT : Sta Z h0 "com/example/subscript/subscript/Type$Kind" "SHORT" "Lcom/example/subscript/subscript/Type$Kind;" (.ref w_SHORT)) (S_CHAR : Sta Z h0 "com/example/subscript/subscript/Type$Kind" "CHAR" "Lcom/example/subscript/subscript/Type$Kind;" (.ref w_CHAR)) (S_INT : Sta Z h0 "com/example/subscript/subscript/Type$Kind" "INT" "Lcom/example/subscript/subscript/Type$Kind;" (.ref w_INT)) (S_LONG : Sta Z h0 "com/example/subscript/subscript/Type$Kind" "LONG" "Lcom/example/subscript/subscript/Type$Kind;" (.ref w_LONG)) (S_FLOAT : Sta Z h0 "com/example/subscript/subscript/Type$Kind" "FLOAT" "Lcom/example/subscript/subscript/Type$Kind;" (.ref w_FLOAT)) (S_DOUBLE : Sta Z h0 "com/example/subscript/subscript/Type$Kind" "DOUBLE" "Lcom/example/subscript/subscript/Type$Kind;" (.ref w_DOUBLE)) (S_BOOLEAN : Sta Z h0 "com/example/subscript/subscript/Type$Kind" "BOOLEAN" "Lcom/example/subscript/subscript/Type$Kind;" (.ref w_BOOLEAN)) (S_VOID : Sta Z h0 "com/example/subscript/subscript/Type$Kind" "VOID" "Lcom/example/subscript/subscript/Type$Kind;" (.ref w_VOID)) (S_CLASS : Sta Z h0 "com/example/subscript/subscript/Type$Kind" "CLASS" "Lcom/example/subscript/subscript/Type$Kind;" (.ref w_CLASS)) (S_PROGRAM_CLASS : Sta Z h0 "com/example/subscript/subscript/Type$Kind" "PROGRAM_CLASS" "Lcom/example/subscript/subscript/Type$Kind;" (.ref w_PROGRAM_CLASS)) (S_ARRAY : Sta Z h0 "com/example/subscript/subscript/Type$Kind" "ARRAY" "Lcom/example/subscript/subscript/Type$Kind;" (.ref w_ARRAY)) (S_NULL : Sta Z h0 "com/example/subscript/subscript/Type$Kind" "NULL" "Lcom/example/subscript/subscript/Type$Kind;" (.ref w_NULL)) (S_ERROR : Sta Z h0 "com/example/subscript/subscript/Type$Kind" "ERROR" "Lcom/example/subscript/subscript/Type$Kind;" (.ref w_ERROR)) :
    MetFree l (⟨"com/example/subscript/subscript/KindEvaluatedAsPinLaw", "kindOf", "(I)Lcom/example/subscript/subscript/Type$Kind;"⟩ : MethodName) (head1 (Jvm.Cond.code (⟨"com/example/subscript/subscript/KindEvaluatedAsPinLaw", "kindOf", "(I)Lcom/example/subscript/subscript/Type$Kind;"⟩ : MethodName) method_2_code 1 (Option.some (Jvm.ClassFile.FieldType.object "com/example/subscript/subscript/Type$Kind")) :: ws) ({ frames := 0, cells := 0, slots := 0, locals := 0 } : Room)) (fun a U => a = #[(.int p1)] ∧ Z.Warmed39 U.vm ∧ U.heap = h0) (fun _ _ _ _ _ => True) (fun _ U o U' => ∃ v L, o = .returned v ∧ Q1 p1 w_BYTE w_SHORT w_CHAR w_INT w_LONG w_FLOAT w_DOUBLE w_BOOLEAN w_VOID w_CLASS w_PROGRAM_CLASS w_ARRAY w_NULL w_ERROR h0 n0 v U'.heap L ∧ FrameEnd U o U' L ({ frames := 0, cells := 0, slots := 0, locals := 0 } : Room).cells ({ frames := 0, cells := 0, slots := 0, locals := 0 } : Room).slots) := by
  refine MetFree.of_bodySF (plainFor_of_name own_pn1) hisR ?_
  intro p e s m args below meth c s₁ Bd hml0 hP hK
  obtain ⟨rfl, hZ, hh⟩ := hP
  have hx := Bd.exec
  have hby := Bd.bytes
  have hml : c.maxLocals = 1 := hml0
  have hown : s.vm.findClass "com/example/subscript/subscript/KindEvaluatedAsPinLaw" = some m.cls := findClass_of_methodNamed Bd.named
  have hnm := (name_of_methodNamed Bd.named Bd.method).1
  have X0 : Stand p l e ({ frames := 0, cells := 0, slots := 0, locals := 0 } : Room) s m #[(.int p1)] below meth c s₁ [] 0 0 := Stand.of_body Bd
  have e0 : s₁.heap = h0 := by rw [← hh, Bd.state]; rfl
  have N0 := Fr.nil n0
  refine own_open (f := (mkF m 0 #[.val (.int p1)] [])) (fun t k => castTop (own_ef1 m p1) k) ?_
  refine own_by (f' := (mkF m 1 #[.val (.int p1)] [(.int p1)])) (fun t h => XS.iloadN X0.here hx rfl (hb hby d1_0) rfl h) ?_
  by_cases hc1_1 : p1 = (0 : Int32)
  · refine own_by (f' := (mkF m 4 #[.val (.int p1)] [])) (fun t h => XS.ifNo X0.here hx rfl (hb hby d1_1) rfl ((if0 _ _).trans (teq hc1_1).2) h) ?_
    obtain ⟨T2, X2, e2, st2⟩ := getS2 X0 hx hZ hown (host := "") (Or.inl (hw _ (List.mem_of_getElem? (i := 5) rfl))) Via.refl e0 S_BYTE (g := (mkF m 4 #[.val (.int p1)] [])) rfl (hb hby d1_4)
    refine own_by (f' := (mkF m 7 #[.val (.int p1)] [(.ref w_BYTE)])) st2 ?_
    obtain ⟨fs, hr, hrun, hended, hW, hsame⟩ := X2.leave (v := some (.ref w_BYTE)) (fun h => by rw [Bd.returns] at h; cases h)
    refine own_mk ⟨_, _, retOut X2 hx Bd.returns rfl (Or.inr (Or.inr (Or.inr (Or.inr ⟨rfl, rfl, rfl⟩)))) (hb hby d1_7) hr, hrun, hended, _, _, rfl, ?_, ⟨_, rfl⟩, hW, hsame.mono (by decide) (by decide)⟩
    show Q1 p1 w_BYTE w_SHORT w_CHAR w_INT w_LONG w_FLOAT w_DOUBLE w_BOOLEAN w_VOID w_CLASS w_PROGRAM_CLASS w_ARRAY w_NULL w_ERROR h0 n0 _ T2.heap _
    rw [e2]
    exact ⟨by simp [hc1_1], N0, rfl⟩
  · refine own_by (f' := (mkF m 8 #[.val (.int p1)] [])) (fun t h => XS.ifYes X0.here hx rfl (pc0 := 1) (pc' := 8) rfl (hb hby d1_1) rfl ((if0 _ _).trans (feq hc1_1).2) (by decide) (by decide) h) ?_
    refine own_by (f' := (mkF m 9 #[.val (.int p1)] [(.int p1)])) (fun t h => XS.iloadN X0.here hx rfl (hb hby d1_8) rfl h) ?_
    refine own_by (f' := (mkF m 10 #[.val (.int p1)] [(.int (1 : Int32)), (.int p1)])) (fun t h => XS.iconst X0.here hx rfl (hb hby d1_9) h) ?_
    by_cases hc10_3 : p1 = (1 : Int32)
    · refine own_by (f' := (mkF m 13 #[.val (.int p1)] [])) (fun t h => XS.icmpNo X0.here hx rfl (hb hby d1_10) rfl (teq hc10_3).2 h) ?_
      obtain ⟨T4, X4, e4, st4⟩ := getS2 X0 hx hZ hown (host := "") (Or.inl (hw _ (List.mem_of_getElem? (i := 34) rfl))) Via.refl e0 S_SHORT (g := (mkF m 13 #[.val (.int p1)] [])) rfl (hb hby d1_13)
      refine own_by (f' := (mkF m 16 #[.val (.int p1)] [(.ref w_SHORT)])) st4 ?_
      obtain ⟨fs, hr, hrun, hended, hW, hsame⟩ := X4.leave (v := some (.ref w_SHORT)) (fun h => by rw [Bd.returns] at h; cases h)
      refine own_mk ⟨_, _, retOut X4 hx Bd.returns rfl (Or.inr (Or.inr (Or.inr (Or.inr ⟨rfl, rfl, rfl⟩)))) (hb hby d1_16) hr, hrun, hended, _, _, rfl, ?_, ⟨_, rfl⟩, hW, hsame.mono (by decide) (by decide)⟩
      show Q1 p1 w_BYTE w_SHORT w_CHAR w_INT w_LONG w_FLOAT w_DOUBLE w_BOOLEAN w_VOID w_CLASS w_PROGRAM_CLASS w_ARRAY w_NULL w_ERROR h0 n0 _ T4.heap _
      rw [e4]
      exact ⟨by simp [hc1_1, hc10_3], N0, rfl⟩
    · refine own_by (f' := (mkF m 17 #[.val (.int p1)] [])) (fun t h => XS.icmpYes X0.here hx rfl (pc0 := 10) (pc' := 17) rfl (hb hby d1_10) rfl (feq hc10_3).2 (by decide) (by decide) h) ?_
      refine own_by (f' := (mkF m 18 #[.val (.int p1)] [(.int p1)])) (fun t h => XS.iloadN X0.here hx rfl (hb hby d1_17) rfl h) ?_
      refine own_by (f' := (mkF m 19 #[.val (.int p1)] [(.int (2 : Int32)), (.int p1)])) (fun t h => XS.iconst X0.here hx rfl (hb hby d1_18) h) ?_
      by_cases hc19_5 : p1 = (2 : Int32)
      · refine own_by (f' := (mkF m 22 #[.val (.int p1)] [])) (fun t h => XS.icmpNo X0.here hx rfl (hb hby d1_19) rfl (teq hc19_5).2 h) ?_
        obtain ⟨T6, X6, e6, st6⟩ := getS2 X0 hx hZ hown (host := "") (Or.inl (hw _ (List.mem_of_getElem? (i := 26) rfl))) Via.refl e0 S_CHAR (g := (mkF m 22 #[.val (.int p1)] [])) rfl (hb hby d1_22)
        refine own_by (f' := (mkF m 25 #[.val (.int p1)] [(.ref w_CHAR)])) st6 ?_
        obtain ⟨fs, hr, hrun, hended, hW, hsame⟩ := X6.leave (v := some (.ref w_CHAR)) (fun h => by rw [Bd.returns] at h; cases h)
        refine own_mk ⟨_, _, retOut X6 hx Bd.returns rfl (Or.inr (Or.inr (Or.inr (Or.inr ⟨rfl, rfl, rfl⟩)))) (hb hby d1_25) hr, hrun, hended, _, _, rfl, ?_, ⟨_, rfl⟩, hW, hsame.mono (by decide) (by decide)⟩
        show Q1 p1 w_BYTE w_SHORT w_CHAR w_INT w_LONG w_FLOAT w_DOUBLE w_BOOLEAN w_VOID w_CLASS w_PROGRAM_CLASS w_ARRAY w_NULL w_ERROR h0 n0 _ T6.heap _
        rw [e6]
        exact ⟨by simp [hc1_1, hc10_3, hc19_5], N0, rfl⟩
      · refine own_by (f' := (mkF m 26 #[.val (.int p1)] [])) (fun t h => XS.icmpYes X0.here hx rfl (pc0 := 19) (pc' := 26) rfl (hb hby d1_19) rfl (feq hc19_5).2 (by decide) (by decide) h) ?_
        refine own_by (f' := (mkF m 27 #[.val (.int p1)] [(.int p1)])) (fun t h => XS.iloadN X0.here hx rfl (hb hby d1_26) rfl h) ?_
        refine own_by (f' := (mkF m 28 #[.val (.int p1)] [(.int (3 : Int32)), (.int p1)])) (fun t h => XS.iconst X0.here hx rfl (hb hby d1_27) h) ?_
        by_cases hc28_7 : p1 = (3 : Int32)
        · refine own_by (f' := (mkF m 31 #[.val (.int p1)] [])) (fun t h => XS.icmpNo X0.here hx rfl (hb hby d1_28) rfl (teq hc28_7).2 h) ?_
          obtain ⟨T8, X8, e8, st8⟩ := getS2 X0 hx hZ hown (host := "") (Or.inl (hw _ (List.mem_of_getElem? (i := 8) rfl))) Via.refl e0 S_INT (g := (mkF m 31 #[.val (.int p1)] [])) rfl (hb hby d1_31)
          refine own_by (f' := (mkF m 34 #[.val (.int p1)] [(.ref w_INT)])) st8 ?_
          obtain ⟨fs, hr, hrun, hended, hW, hsame⟩ := X8.leave (v := some (.ref w_INT)) (fun h => by rw [Bd.returns] at h; cases h)
          refine own_mk ⟨_, _, retOut X8 hx Bd.returns rfl (Or.inr (Or.inr (Or.inr (Or.inr ⟨rfl, rfl, rfl⟩)))) (hb hby d1_34) hr, hrun, hended, _, _, rfl, ?_, ⟨_, rfl⟩, hW, hsame.mono (by decide) (by decide)⟩
          show Q1 p1 w_BYTE w_SHORT w_CHAR w_INT w_LONG w_FLOAT w_DOUBLE w_BOOLEAN w_VOID w_CLASS w_PROGRAM_CLASS w_ARRAY w_NULL w_ERROR h0 n0 _ T8.heap _
          rw [e8]
          exact ⟨by simp [hc1_1, hc10_3, hc19_5, hc28_7], N0, rfl⟩
        · refine own_by (f' := (mkF m 35 #[.val (.int p1)] [])) (fun t h => XS.icmpYes X0.here hx rfl (pc0 := 28) (pc' := 35) rfl (hb hby d1_28) rfl (feq hc28_7).2 (by decide) (by decide) h) ?_
          refine own_by (f' := (mkF m 36 #[.val (.int p1)] [(.int p1)])) (fun t h => XS.iloadN X0.here hx rfl (hb hby d1_35) rfl h) ?_
          refine own_by (f' := (mkF m 37 #[.val (.int p1)] [(.int (4 : Int32)), (.int p1)])) (fun t h => XS.iconst X0.here hx rfl (hb hby d1_36) h) ?_
          by_cases hc37_9 : p1 = (4 : Int32)
          · refine own_by (f' := (mkF m 40 #[.val (.int p1)] [])) (fun t h => XS.icmpNo X0.here hx rfl (hb hby d1_37) rfl (teq hc37_9).2 h) ?_
            obtain ⟨T10, X10, e10, st10⟩ := getS2 X0 hx hZ hown (host := "") (Or.inl (hw _ (List.mem_of_getElem? (i := 22) rfl))) Via.refl e0 S_LONG (g := (mkF m 40 #[.val (.int p1)] [])) rfl (hb hby d1_40)
            refine own_by (f' := (mkF m 43 #[.val (.int p1)] [(.ref w_LONG)])) st10 ?_
            obtain ⟨fs, hr, hrun, hended, hW, hsame⟩ := X10.leave (v := some (.ref w_LONG)) (fun h => by rw [Bd.returns] at h; cases h)
            refine own_mk ⟨_, _, retOut X10 hx Bd.returns rfl (Or.inr (Or.inr (Or.inr (Or.inr ⟨rfl, rfl, rfl⟩)))) (hb hby d1_43) hr, hrun, hended, _, _, rfl, ?_, ⟨_, rfl⟩, hW, hsame.mono (by decide) (by decide)⟩
            show Q1 p1 w_BYTE w_SHORT w_CHAR w_INT w_LONG w_FLOAT w_DOUBLE w_BOOLEAN w_VOID w_CLASS w_PROGRAM_CLASS w_ARRAY w_NULL w_ERROR h0 n0 _ T10.heap _
            rw [e10]
            exact ⟨by simp [hc1_1, hc10_3, hc19_5, hc28_7, hc37_9], N0, rfl⟩
          · refine own_by (f' := (mkF m 44 #[.val (.int p1)] [])) (fun t h => XS.icmpYes X0.here hx rfl (pc0 := 37) (pc' := 44) rfl (hb hby d1_37) rfl (feq hc37_9).2 (by decide) (by decide) h) ?_
            refine own_by (f' := (mkF m 45 #[.val (.int p1)] [(.int p1)])) (fun t h => XS.iloadN X0.here hx rfl (hb hby d1_44) rfl h) ?_
            refine own_by (f' := (mkF m 46 #[.val (.int p1)] [(.int (5 : Int32)), (.int p1)])) (fun t h => XS.iconst X0.here hx rfl (hb hby d1_45) h) ?_
            by_cases hc46_11 : p1 = (5 : Int32)
            · refine own_by (f' := (mkF m 49 #[.val (.int p1)] [])) (fun t h => XS.icmpNo X0.here hx rfl (hb hby d1_46) rfl (teq hc46_11).2 h) ?_
              obtain ⟨T12, X12, e12, st12⟩ := getS2 X0 hx hZ hown (host := "") (Or.inl (hw _ (List.mem_of_getElem? (i := 38) rfl))) Via.refl e0 S_FLOAT (g := (mkF m 49 #[.val (.int p1)] [])) rfl (hb hby d1_49)
              refine own_by (f' := (mkF m 52 #[.val (.int p1)] [(.ref w_FLOAT)])) st12 ?_
              obtain ⟨fs, hr, hrun, hended, hW, hsame⟩ := X12.leave (v := some (.ref w_FLOAT)) (fun h => by rw [Bd.returns] at h; cases h)
              refine own_mk ⟨_, _, retOut X12 hx Bd.returns rfl (Or.inr (Or.inr (Or.inr (Or.inr ⟨rfl, rfl, rfl⟩)))) (hb hby d1_52) hr, hrun, hended, _, _, rfl, ?_, ⟨_, rfl⟩, hW, hsame.mono (by decide) (by decide)⟩
              show Q1 p1 w_BYTE w_SHORT w_CHAR w_INT w_LONG w_FLOAT w_DOUBLE w_BOOLEAN w_VOID w_CLASS w_PROGRAM_CLASS w_ARRAY w_NULL w_ERROR h0 n0 _ T12.heap _
              rw [e12]
              exact ⟨by simp [hc1_1, hc10_3, hc19_5, hc28_7, hc37_9, hc46_11], N0, rfl⟩
            · refine own_by (f' := (mkF m 53 #[.val (.int p1)] [])) (fun t h => XS.icmpYes X0.here hx rfl (pc0 := 46) (pc' := 53) rfl (hb hby d1_46) rfl (feq hc46_11).2 (by decide) (by decide) h) ?_
              refine own_by (f' := (mkF m 54 #[.val (.int p1)] [(.int p1)])) (fun t h => XS.iloadN X0.here hx rfl (hb hby d1_53) rfl h) ?_
              refine own_by (f' := (mkF m 56 #[.val (.int p1)] [(.int (6 : Int32)), (.int p1)])) (fun t h => XT.bipushV X0.here hx rfl (6 : Int32) (hb hby d1_54) rfl h) ?_
              by_cases hc56_13 : p1 = (6 : Int32)
              · refine own_by (f' := (mkF m 59 #[.val (.int p1)] [])) (fun t h => XS.icmpNo X0.here hx rfl (hb hby d1_56) rfl (teq hc56_13).2 h) ?_
                obtain ⟨T14, X14, e14, st14⟩ := getS2 X0 hx hZ hown (host := "") (Or.inl (hw _ (List.mem_of_getElem? (i := 40) rfl))) Via.refl e0 S_DOUBLE (g := (mkF m 59 #[.val (.int p1)] [])) rfl (hb hby d1_59)
                refine own_by (f' := (mkF m 62 #[.val (.int p1)] [(.ref w_DOUBLE)])) st14 ?_
                obtain ⟨fs, hr, hrun, hended, hW, hsame⟩ := X14.leave (v := some (.ref w_DOUBLE)) (fun h => by rw [Bd.returns] at h; cases h)
                refine own_mk ⟨_, _, retOut X14 hx Bd.returns rfl (Or.inr (Or.inr (Or.inr (Or.inr ⟨rfl, rfl, rfl⟩)))) (hb hby d1_62) hr, hrun, hended, _, _, rfl, ?_, ⟨_, rfl⟩, hW, hsame.mono (by decide) (by decide)⟩
                show Q1 p1 w_BYTE w_SHORT w_CHAR w_INT w_LONG w_FLOAT w_DOUBLE w_BOOLEAN w_VOID w_CLASS w_PROGRAM_CLASS w_ARRAY w_NULL w_ERROR h0 n0 _ T14.heap _
                rw [e14]
                exact ⟨by simp [hc1_1, hc10_3, hc19_5, hc28_7, hc37_9, hc46_11, hc56_13], N0, rfl⟩
              · refine own_by (f' := (mkF m 63 #[.val (.int p1)] [])) (fun t h => XS.icmpYes X0.here hx rfl (pc0 := 56) (pc' := 63) rfl (hb hby d1_56) rfl (feq hc56_13).2 (by decide) (by decide) h) ?_
                refine own_by (f' := (mkF m 64 #[.val (.int p1)] [(.int p1)])) (fun t h => XS.iloadN X0.here hx rfl (hb hby d1_63) rfl h) ?_
                refine own_by (f' := (mkF m 66 #[.val (.int p1)] [(.int (7 : Int32)), (.int p1)])) (fun t h => XT.bipushV X0.here hx rfl (7 : Int32) (hb hby d1_64) rfl h) ?_
                by_cases hc66_15 : p1 = (7 : Int32)
                · refine own_by (f' := (mkF m 69 #[.val (.int p1)] [])) (fun t h => XS.icmpNo X0.here hx rfl (hb hby d1_66) rfl (teq hc66_15).2 h) ?_
                  obtain ⟨T16, X16, e16, st16⟩ := getS2 X0 hx hZ hown (host := "") (Or.inl (hw _ (List.mem_of_getElem? (i := 24) rfl))) Via.refl e0 S_BOOLEAN (g := (mkF m 69 #[.val (.int p1)] [])) rfl (hb hby d1_69)
                  refine own_by (f' := (mkF m 72 #[.val (.int p1)] [(.ref w_BOOLEAN)])) st16 ?_
                  obtain ⟨fs, hr, hrun, hended, hW, hsame⟩ := X16.leave (v := some (.ref w_BOOLEAN)) (fun h => by rw [Bd.returns] at h; cases h)
                  refine own_mk ⟨_, _, retOut X16 hx Bd.returns rfl (Or.inr (Or.inr (Or.inr (Or.inr ⟨rfl, rfl, rfl⟩)))) (hb hby d1_72) hr, hrun, hended, _, _, rfl, ?_, ⟨_, rfl⟩, hW, hsame.mono (by decide) (by decide)⟩
                  show Q1 p1 w_BYTE w_SHORT w_CHAR w_INT w_LONG w_FLOAT w_DOUBLE w_BOOLEAN w_VOID w_CLASS w_PROGRAM_CLASS w_ARRAY w_NULL w_ERROR h0 n0 _ T16.heap _
                  rw [e16]
                  exact ⟨by simp [hc1_1, hc10_3, hc19_5, hc28_7, hc37_9, hc46_11, hc56_13, hc66_15], N0, rfl⟩
                · refine own_by (f' := (mkF m 73 #[.val (.int p1)] [])) (fun t h => XS.icmpYes X0.here hx rfl (pc0 := 66) (pc' := 73) rfl (hb hby d1_66) rfl (feq hc66_15).2 (by decide) (by decide) h) ?_
                  refine own_by (f' := (mkF m 74 #[.val (.int p1)] [(.int p1)])) (fun t h => XS.iloadN X0.here hx rfl (hb hby d1_73) rfl h) ?_
                  refine own_by (f' := (mkF m 76 #[.val (.int p1)] [(.int (8 : Int32)), (.int p1)])) (fun t h => XT.bipushV X0.here hx rfl (8 : Int32) (hb hby d1_74) rfl h) ?_
                  by_cases hc76_17 : p1 = (8 : Int32)
                  · refine own_by (f' := (mkF m 79 #[.val (.int p1)] [])) (fun t h => XS.icmpNo X0.here hx rfl (hb hby d1_76) rfl (teq hc76_17).2 h) ?_
                    obtain ⟨T18, X18, e18, st18⟩ := getS2 X0 hx hZ hown (host := "") (Or.inl (hw _ (List.mem_of_getElem? (i := 32) rfl))) Via.refl e0 S_VOID (g := (mkF m 79 #[.val (.int p1)] [])) rfl (hb hby d1_79)
                    refine own_by (f' := (mkF m 82 #[.val (.int p1)] [(.ref w_VOID)])) st18 ?_
                    obtain ⟨fs, hr, hrun, hended, hW, hsame⟩ := X18.leave (v := some (.ref w_VOID)) (fun h => by rw [Bd.returns] at h; cases h)
                    refine own_mk ⟨_, _, retOut X18 hx Bd.returns rfl (Or.inr (Or.inr (Or.inr (Or.inr ⟨rfl, rfl, rfl⟩)))) (hb hby d1_82) hr, hrun, hended, _, _, rfl, ?_, ⟨_, rfl⟩, hW, hsame.mono (by decide) (by decide)⟩
                    show Q1 p1 w_BYTE w_SHORT w_CHAR w_INT w_LONG w_FLOAT w_DOUBLE w_BOOLEAN w_VOID w_CLASS w_PROGRAM_CLASS w_ARRAY w_NULL w_ERROR h0 n0 _ T18.heap _
                    rw [e18]
                    exact ⟨by simp [hc1_1, hc10_3, hc19_5, hc28_7, hc37_9, hc46_11, hc56_13, hc66_15, hc76_17], N0, rfl⟩
                  · refine own_by (f' := (mkF m 83 #[.val (.int p1)] [])) (fun t h => XS.icmpYes X0.here hx rfl (pc0 := 76) (pc' := 83) rfl (hb hby d1_76) rfl (feq hc76_17).2 (by decide) (by decide) h) ?_
                    refine own_by (f' := (mkF m 84 #[.val (.int p1)] [(.int p1)])) (fun t h => XS.iloadN X0.here hx rfl (hb hby d1_83) rfl h) ?_
                    refine own_by (f' := (mkF m 86 #[.val (.int p1)] [(.int (9 : Int32)), (.int p1)])) (fun t h => XT.bipushV X0.here hx rfl (9 : Int32) (hb hby d1_84) rfl h) ?_
                    by_cases hc86_19 : p1 = (9 : Int32)
                    · refine own_by (f' := (mkF m 89 #[.val (.int p1)] [])) (fun t h => XS.icmpNo X0.here hx rfl (hb hby d1_86) rfl (teq hc86_19).2 h) ?_
                      obtain ⟨T20, X20, e20, st20⟩ := getS2 X0 hx hZ hown (host := "") (Or.inl (hw _ (List.mem_of_getElem? (i := 36) rfl))) Via.refl e0 S_CLASS (g := (mkF m 89 #[.val (.int p1)] [])) rfl (hb hby d1_89)
                      refine own_by (f' := (mkF m 92 #[.val (.int p1)] [(.ref w_CLASS)])) st20 ?_
                      obtain ⟨fs, hr, hrun, hended, hW, hsame⟩ := X20.leave (v := some (.ref w_CLASS)) (fun h => by rw [Bd.returns] at h; cases h)
                      refine own_mk ⟨_, _, retOut X20 hx Bd.returns rfl (Or.inr (Or.inr (Or.inr (Or.inr ⟨rfl, rfl, rfl⟩)))) (hb hby d1_92) hr, hrun, hended, _, _, rfl, ?_, ⟨_, rfl⟩, hW, hsame.mono (by decide) (by decide)⟩
                      show Q1 p1 w_BYTE w_SHORT w_CHAR w_INT w_LONG w_FLOAT w_DOUBLE w_BOOLEAN w_VOID w_CLASS w_PROGRAM_CLASS w_ARRAY w_NULL w_ERROR h0 n0 _ T20.heap _
                      rw [e20]
                      exact ⟨by simp [hc1_1, hc10_3, hc19_5, hc28_7, hc37_9, hc46_11, hc56_13, hc66_15, hc76_17, hc86_19], N0, rfl⟩
                    · refine own_by (f' := (mkF m 93 #[.val (.int p1)] [])) (fun t h => XS.icmpYes X0.here hx rfl (pc0 := 86) (pc' := 93) rfl (hb hby d1_86) rfl (feq hc86_19).2 (by decide) (by decide) h) ?_
                      refine own_by (f' := (mkF m 94 #[.val (.int p1)] [(.int p1)])) (fun t h => XS.iloadN X0.here hx rfl (hb hby d1_93) rfl h) ?_
                      refine own_by (f' := (mkF m 96 #[.val (.int p1)] [(.int (10 : Int32)), (.int p1)])) (fun t h => XT.bipushV X0.here hx rfl (10 : Int32) (hb hby d1_94) rfl h) ?_
                      by_cases hc96_21 : p1 = (10 : Int32)
                      · refine own_by (f' := (mkF m 99 #[.val (.int p1)] [])) (fun t h => XS.icmpNo X0.here hx rfl (hb hby d1_96) rfl (teq hc96_21).2 h) ?_
                        obtain ⟨T22, X22, e22, st22⟩ := getS2 X0 hx hZ hown (host := "") (Or.inl (hw _ (List.mem_of_getElem? (i := 30) rfl))) Via.refl e0 S_PROGRAM_CLASS (g := (mkF m 99 #[.val (.int p1)] [])) rfl (hb hby d1_99)
                        refine own_by (f' := (mkF m 102 #[.val (.int p1)] [(.ref w_PROGRAM_CLASS)])) st22 ?_
                        obtain ⟨fs, hr, hrun, hended, hW, hsame⟩ := X22.leave (v := some (.ref w_PROGRAM_CLASS)) (fun h => by rw [Bd.returns] at h; cases h)
                        refine own_mk ⟨_, _, retOut X22 hx Bd.returns rfl (Or.inr (Or.inr (Or.inr (Or.inr ⟨rfl, rfl, rfl⟩)))) (hb hby d1_102) hr, hrun, hended, _, _, rfl, ?_, ⟨_, rfl⟩, hW, hsame.mono (by decide) (by decide)⟩
                        show Q1 p1 w_BYTE w_SHORT w_CHAR w_INT w_LONG w_FLOAT w_DOUBLE w_BOOLEAN w_VOID w_CLASS w_PROGRAM_CLASS w_ARRAY w_NULL w_ERROR h0 n0 _ T22.heap _
                        rw [e22]
                        exact ⟨by simp [hc1_1, hc10_3, hc19_5, hc28_7, hc37_9, hc46_11, hc56_13, hc66_15, hc76_17, hc86_19, hc96_21], N0, rfl⟩
                      · refine own_by (f' := (mkF m 103 #[.val (.int p1)] [])) (fun t h => XS.icmpYes X0.here hx rfl (pc0 := 96) (pc' := 103) rfl (hb hby d1_96) rfl (feq hc96_21).2 (by decide) (by decide) h) ?_
                        refine own_by (f' := (mkF m 104 #[.val (.int p1)] [(.int p1)])) (fun t h => XS.iloadN X0.here hx rfl (hb hby d1_103) rfl h) ?_
                        refine own_by (f' := (mkF m 106 #[.val (.int p1)] [(.int (11 : Int32)), (.int p1)])) (fun t h => XT.bipushV X0.here hx rfl (11 : Int32) (hb hby d1_104) rfl h) ?_
                        by_cases hc106_23 : p1 = (11 : Int32)
                        · refine own_by (f' := (mkF m 109 #[.val (.int p1)] [])) (fun t h => XS.icmpNo X0.here hx rfl (hb hby d1_106) rfl (teq hc106_23).2 h) ?_
                          obtain ⟨T24, X24, e24, st24⟩ := getS2 X0 hx hZ hown (host := "") (Or.inl (hw _ (List.mem_of_getElem? (i := 28) rfl))) Via.refl e0 S_ARRAY (g := (mkF m 109 #[.val (.int p1)] [])) rfl (hb hby d1_109)
                          refine own_by (f' := (mkF m 112 #[.val (.int p1)] [(.ref w_ARRAY)])) st24 ?_
                          obtain ⟨fs, hr, hrun, hended, hW, hsame⟩ := X24.leave (v := some (.ref w_ARRAY)) (fun h => by rw [Bd.returns] at h; cases h)
                          refine own_mk ⟨_, _, retOut X24 hx Bd.returns rfl (Or.inr (Or.inr (Or.inr (Or.inr ⟨rfl, rfl, rfl⟩)))) (hb hby d1_112) hr, hrun, hended, _, _, rfl, ?_, ⟨_, rfl⟩, hW, hsame.mono (by decide) (by decide)⟩
                          show Q1 p1 w_BYTE w_SHORT w_CHAR w_INT w_LONG w_FLOAT w_DOUBLE w_BOOLEAN w_VOID w_CLASS w_PROGRAM_CLASS w_ARRAY w_NULL w_ERROR h0 n0 _ T24.heap _
                          rw [e24]
                          exact ⟨by simp [hc1_1, hc10_3, hc19_5, hc28_7, hc37_9, hc46_11, hc56_13, hc66_15, hc76_17, hc86_19, hc96_21, hc106_23], N0, rfl⟩
                        · refine own_by (f' := (mkF m 113 #[.val (.int p1)] [])) (fun t h => XS.icmpYes X0.here hx rfl (pc0 := 106) (pc' := 113) rfl (hb hby d1_106) rfl (feq hc106_23).2 (by decide) (by decide) h) ?_
                          refine own_by (f' := (mkF m 114 #[.val (.int p1)] [(.int p1)])) (fun t h => XS.iloadN X0.here hx rfl (hb hby d1_113) rfl h) ?_
                          refine own_by (f' := (mkF m 116 #[.val (.int p1)] [(.int (12 : Int32)), (.int p1)])) (fun t h => XT.bipushV X0.here hx rfl (12 : Int32) (hb hby d1_114) rfl h) ?_
                          by_cases hc116_25 : p1 = (12 : Int32)
                          · refine own_by (f' := (mkF m 119 #[.val (.int p1)] [])) (fun t h => XS.icmpNo X0.here hx rfl (hb hby d1_116) rfl (teq hc116_25).2 h) ?_
                            obtain ⟨T26, X26, e26, st26⟩ := getS2 X0 hx hZ hown (host := "") (Or.inl (hw _ (List.mem_of_getElem? (i := 18) rfl))) Via.refl e0 S_NULL (g := (mkF m 119 #[.val (.int p1)] [])) rfl (hb hby d1_119)
                            refine own_by (f' := (mkF m 122 #[.val (.int p1)] [(.ref w_NULL)])) st26 ?_
                            obtain ⟨fs, hr, hrun, hended, hW, hsame⟩ := X26.leave (v := some (.ref w_NULL)) (fun h => by rw [Bd.returns] at h; cases h)
                            refine own_mk ⟨_, _, retOut X26 hx Bd.returns rfl (Or.inr (Or.inr (Or.inr (Or.inr ⟨rfl, rfl, rfl⟩)))) (hb hby d1_122) hr, hrun, hended, _, _, rfl, ?_, ⟨_, rfl⟩, hW, hsame.mono (by decide) (by decide)⟩
                            show Q1 p1 w_BYTE w_SHORT w_CHAR w_INT w_LONG w_FLOAT w_DOUBLE w_BOOLEAN w_VOID w_CLASS w_PROGRAM_CLASS w_ARRAY w_NULL w_ERROR h0 n0 _ T26.heap _
                            rw [e26]
                            exact ⟨by simp [hc1_1, hc10_3, hc19_5, hc28_7, hc37_9, hc46_11, hc56_13, hc66_15, hc76_17, hc86_19, hc96_21, hc106_23, hc116_25], N0, rfl⟩
                          · refine own_by (f' := (mkF m 123 #[.val (.int p1)] [])) (fun t h => XS.icmpYes X0.here hx rfl (pc0 := 116) (pc' := 123) rfl (hb hby d1_116) rfl (feq hc116_25).2 (by decide) (by decide) h) ?_
                            obtain ⟨T27, X27, e27, st27⟩ := getS2 X0 hx hZ hown (host := "") (Or.inl (hw _ (List.mem_of_getElem? (i := 20) rfl))) Via.refl e0 S_ERROR (g := (mkF m 123 #[.val (.int p1)] [])) rfl (hb hby d1_123)
                            refine own_by (f' := (mkF m 126 #[.val (.int p1)] [(.ref w_ERROR)])) st27 ?_
                            obtain ⟨fs, hr, hrun, hended, hW, hsame⟩ := X27.leave (v := some (.ref w_ERROR)) (fun h => by rw [Bd.returns] at h; cases h)
                            refine own_mk ⟨_, _, retOut X27 hx Bd.returns rfl (Or.inr (Or.inr (Or.inr (Or.inr ⟨rfl, rfl, rfl⟩)))) (hb hby d1_126) hr, hrun, hended, _, _, rfl, ?_, ⟨_, rfl⟩, hW, hsame.mono (by decide) (by decide)⟩
                            show Q1 p1 w_BYTE w_SHORT w_CHAR w_INT w_LONG w_FLOAT w_DOUBLE w_BOOLEAN w_VOID w_CLASS w_PROGRAM_CLASS w_ARRAY w_NULL w_ERROR h0 n0 _ T27.heap _
                            rw [e27]
                            exact ⟨by simp [hc1_1, hc10_3, hc19_5, hc28_7, hc37_9, hc46_11, hc56_13, hc66_15, hc76_17, hc86_19, hc96_21, hc106_23, hc116_25], N0, rfl⟩
theorem d2_0 : decode prog_193_method_4_code 0 = .ok (.aload_n 0, 1) := by decide +kernel
theorem d2_1 : decode prog_193_method_4_code 1 = .ok (.getfield 65, 3) := by decide +kernel
theorem d2_4 : decode prog_193_method_4_code 4 = .ok (.ifCond .lt 22, 3) := by decide +kernel
theorem d2_7 : decode prog_193_method_4_code 7 = .ok (.aload_n 0, 1) := by decide +kernel
theorem d2_8 : decode prog_193_method_4_code 8 = .ok (.getfield 65, 3) := by decide +kernel
theorem d2_11 : decode prog_193_method_4_code 11 = .ok (.getstatic 13, 3) := by decide +kernel
theorem d2_14 : decode prog_193_method_4_code 14 = .ok (.getfield 65, 3) := by decide +kernel
theorem d2_17 : decode prog_193_method_4_code 17 = .ok (.if_icmp .ge 9, 3) := by decide +kernel
theorem d2_20 : decode prog_193_method_4_code 20 = .ok (.getstatic 13, 3) := by decide +kernel
theorem d2_23 : decode prog_193_method_4_code 23 = .ok (.goto 4, 3) := by decide +kernel
theorem d2_26 : decode prog_193_method_4_code 26 = .ok (.aload_n 0, 1) := by decide +kernel
theorem d2_27 : decode prog_193_method_4_code 27 = .ok (.areturn, 1) := by decide +kernel
theorem own_pn2 : plainName "com/example/subscript/subscript/Type$Kind" = true := by first | (simp [plainName, overriddenIn]; done) | decide +kernel
theorem own_ef2 (m : MethodId) (x0 : Addr) : entryFrame m #[(.ref x0)] 1 = mkF m 0 #[.val (.ref x0)] [] := by first | (simp [entryFrame, mkF, argsToLocals, Value.category, maxLocals]; done) | rfl
theorem own_pd2 : parseMethodDescriptor "()Lcom/example/subscript/subscript/Type$Kind;" = some ⟨[], some (.object "com/example/subscript/subscript/Type$Kind")⟩ := by decide +kernel
def Q2 (a1 w_INT : Addr) (r1 : Int32) (h0 : Heap) (n0 : Nat) (v : Option Value) (h : Heap) (L : List Loc) : Prop := v = some (.ref (if r1 < 0 then a1 else if r1 < 2 then w_INT else a1)) ∧ Fr n0 L ∧ h = h0
set_option maxRecDepth 65536 in
set_option maxHeartbeats 40000000 in
theorem rm2 (l : Launch) (Z : State) (a0 : Array Value) (hw : ∀ d ∈ tables_1, d.before a0 Z = true) (ws : List Jvm.Cond) (a1 w_INT : Addr) (r1 : Int32) (h0 : Heap) (n0 : Nat) (Z0 : n0 ≤ h0.size) (S_INT : Sta Z h0 "com/example/subscript/subscript/Type$Kind" "INT" "Lcom/example/subscript/subscript/Type$Kind;" (.ref w_INT)) (F_a1 : Fld Z h0 a1 "com/example/subscript/subscript/Type$Kind" "rank" "I" (.int r1)) (F_INT : Fld Z h0 w_INT "com/example/subscript/subscript/Type$Kind" "rank" "I" (.int (2 : Int32))) :
    MetFree l (⟨"com/example/subscript/subscript/Type$Kind", "evaluatedAs", "()Lcom/example/subscript/subscript/Type$Kind;"⟩ : MethodName) (head1 (Jvm.Cond.code (⟨"com/example/subscript/subscript/Type$Kind", "evaluatedAs", "()Lcom/example/subscript/subscript/Type$Kind;"⟩ : MethodName) prog_193_method_4_code 1 (Option.some (Jvm.ClassFile.FieldType.object "com/example/subscript/subscript/Type$Kind")) :: ws) ({ frames := 0, cells := 0, slots := 0, locals := 0 } : Room)) (fun a U => a = #[(.ref a1)] ∧ Z.Warmed39 U.vm ∧ U.heap = h0) (fun _ _ _ _ _ => True) (fun _ U o U' => ∃ v L, o = .returned v ∧ Q2 a1 w_INT r1 h0 n0 v U'.heap L ∧ FrameEnd U o U' L ({ frames := 0, cells := 0, slots := 0, locals := 0 } : Room).cells ({ frames := 0, cells := 0, slots := 0, locals := 0 } : Room).slots) := by
  refine MetFree.of_bodySF (plainFor_of_name own_pn2) hisR ?_
  intro p e s m args below meth c s₁ Bd hml0 hP hK
  obtain ⟨rfl, hZ, hh⟩ := hP
  have hx := Bd.exec
  have hby := Bd.bytes
  have hml : c.maxLocals = 1 := hml0
  have hown : s.vm.findClass "com/example/subscript/subscript/Type$Kind" = some m.cls := findClass_of_methodNamed Bd.named
  have hnm := (name_of_methodNamed Bd.named Bd.method).1
  have X0 : Stand p l e ({ frames := 0, cells := 0, slots := 0, locals := 0 } : Room) s m #[(.ref a1)] below meth c s₁ [] 0 0 := Stand.of_body Bd
  have e0 : s₁.heap = h0 := by rw [← hh, Bd.state]; rfl
  have N0 := Fr.nil n0
  refine own_open (f := (mkF m 0 #[.val (.ref a1)] [])) (fun t k => castTop (own_ef2 m a1) k) ?_
  refine own_by (f' := (mkF m 1 #[.val (.ref a1)] [(.ref a1)])) (fun t h => XS.aloadN X0.here hx rfl (hb hby d2_0) rfl rfl h) ?_
  obtain ⟨T1, X1, e1, st1⟩ := getF X0 hx hZ hown (host := "") (Or.inl (hw _ (List.mem_of_getElem? (i := 15) rfl))) Via.refl e0 F_a1 (g := (mkF m 1 #[.val (.ref a1)] [(.ref a1)])) rfl rfl (hb hby d2_1)
  refine own_by (f' := (mkF m 4 #[.val (.ref a1)] [(.int r1)])) st1 ?_
  by_cases hc4_2 : r1 < (0 : Int32)
  · refine own_by (f' := (mkF m 26 #[.val (.ref a1)] [])) (fun t h => XS.ifYes X1.here hx rfl (pc0 := 4) (pc' := 26) rfl (hb hby d2_4) rfl ((if0 _ _).trans (tlt hc4_2).1) (by decide) (by decide) h) ?_
    refine own_by (f' := (mkF m 27 #[.val (.ref a1)] [(.ref a1)])) (fun t h => XS.aloadN X1.here hx rfl (hb hby d2_26) rfl rfl h) ?_
    obtain ⟨fs, hr, hrun, hended, hW, hsame⟩ := X1.leave (v := some (.ref a1)) (fun h => by rw [Bd.returns] at h; cases h)
    refine own_mk ⟨_, _, retOut X1 hx Bd.returns rfl (Or.inr (Or.inr (Or.inr (Or.inr ⟨rfl, rfl, rfl⟩)))) (hb hby d2_27) hr, hrun, hended, _, _, rfl, ?_, ⟨_, rfl⟩, hW, hsame.mono (by decide) (by decide)⟩
    show Q2 a1 w_INT r1 h0 n0 _ T1.heap _
    rw [e1]
    exact ⟨by simp [hc4_2], N0, rfl⟩
  · refine own_by (f' := (mkF m 7 #[.val (.ref a1)] [])) (fun t h => XS.ifNo X1.here hx rfl (hb hby d2_4) rfl ((if0 _ _).trans (flt hc4_2).1) h) ?_
    refine own_by (f' := (mkF m 8 #[.val (.ref a1)] [(.ref a1)])) (fun t h => XS.aloadN X1.here hx rfl (hb hby d2_7) rfl rfl h) ?_
    obtain ⟨T3, X3, e3, st3⟩ := getF X1 hx hZ hown (host := "") (Or.inl (hw _ (List.mem_of_getElem? (i := 15) rfl))) Via.refl e1 F_a1 (g := (mkF m 8 #[.val (.ref a1)] [(.ref a1)])) rfl rfl (hb hby d2_8)
    refine own_by (f' := (mkF m 11 #[.val (.ref a1)] [(.int r1)])) st3 ?_
    obtain ⟨T4, X4, e4, st4⟩ := getS2 X3 hx hZ hown (host := "") (Or.inl (hw _ (List.mem_of_getElem? (i := 17) rfl))) Via.refl e3 S_INT (g := (mkF m 11 #[.val (.ref a1)] [(.int r1)])) rfl (hb hby d2_11)
    refine own_by (f' := (mkF m 14 #[.val (.ref a1)] [(.ref w_INT), (.int r1)])) st4 ?_
    obtain ⟨T5, X5, e5, st5⟩ := getF X4 hx hZ hown (host := "") (Or.inl (hw _ (List.mem_of_getElem? (i := 15) rfl))) Via.refl e4 F_INT (g := (mkF m 14 #[.val (.ref a1)] [(.ref w_INT), (.int r1)])) rfl rfl (hb hby d2_14)
    refine own_by (f' := (mkF m 17 #[.val (.ref a1)] [(.int (2 : Int32)), (.int r1)])) st5 ?_
    by_cases hc17_6 : r1 < (2 : Int32)
    · refine own_by (f' := (mkF m 20 #[.val (.ref a1)] [])) (fun t h => XS.icmpNo X5.here hx rfl (hb hby d2_17) rfl (tlt hc17_6).2.1 h) ?_
      obtain ⟨T7, X7, e7, st7⟩ := getS2 X5 hx hZ hown (host := "") (Or.inl (hw _ (List.mem_of_getElem? (i := 17) rfl))) Via.refl e5 S_INT (g := (mkF m 20 #[.val (.ref a1)] [])) rfl (hb hby d2_20)
      refine own_by (f' := (mkF m 23 #[.val (.ref a1)] [(.ref w_INT)])) st7 ?_
      refine own_by (f' := (mkF m 27 #[.val (.ref a1)] [(.ref w_INT)])) (fun t h => XS.goto X7.here hx rfl (pc0 := 23) (pc' := 27) rfl (hb hby d2_23) (by decide) (by decide) h) ?_
      obtain ⟨fs, hr, hrun, hended, hW, hsame⟩ := X7.leave (v := some (.ref w_INT)) (fun h => by rw [Bd.returns] at h; cases h)
      refine own_mk ⟨_, _, retOut X7 hx Bd.returns rfl (Or.inr (Or.inr (Or.inr (Or.inr ⟨rfl, rfl, rfl⟩)))) (hb hby d2_27) hr, hrun, hended, _, _, rfl, ?_, ⟨_, rfl⟩, hW, hsame.mono (by decide) (by decide)⟩
      show Q2 a1 w_INT r1 h0 n0 _ T7.heap _
      rw [e7]
      exact ⟨by simp [hc4_2, hc17_6], N0, rfl⟩
    · refine own_by (f' := (mkF m 26 #[.val (.ref a1)] [])) (fun t h => XS.icmpYes X5.here hx rfl (pc0 := 17) (pc' := 26) rfl (hb hby d2_17) rfl (flt hc17_6).2.1 (by decide) (by decide) h) ?_
      refine own_by (f' := (mkF m 27 #[.val (.ref a1)] [(.ref a1)])) (fun t h => XS.aloadN X5.here hx rfl (hb hby d2_26) rfl rfl h) ?_
      obtain ⟨fs, hr, hrun, hended, hW, hsame⟩ := X5.leave (v := some (.ref a1)) (fun h => by rw [Bd.returns] at h; cases h)
      refine own_mk ⟨_, _, retOut X5 hx Bd.returns rfl (Or.inr (Or.inr (Or.inr (Or.inr ⟨rfl, rfl, rfl⟩)))) (hb hby d2_27) hr, hrun, hended, _, _, rfl, ?_, ⟨_, rfl⟩, hW, hsame.mono (by decide) (by decide)⟩
      show Q2 a1 w_INT r1 h0 n0 _ T5.heap _
      rw [e5]
      exact ⟨by simp [hc4_2, hc17_6], N0, rfl⟩
theorem own_pn0 : plainName "com/example/subscript/subscript/KindEvaluatedAsPinLaw" = true := by first | (simp [plainName, overriddenIn]; done) | decide +kernel
theorem own_ef0 (m : MethodId) (x0 : Int32) : entryFrame m #[(.int x0)] maxLocals = mkF m 0 #[.val (.int x0), .unset, .unset, .unset] [] := by first | (simp [entryFrame, mkF, argsToLocals, Value.category, maxLocals]; done) | rfl
def Q0 (n0 : Nat) (v : Option Value) (h : Heap) (L : List Loc) : Prop := v = some (.int 1) ∧ Fr n0 L
set_option maxRecDepth 65536 in
set_option maxHeartbeats 40000000 in
theorem rm0 (l : Launch) (Z : State) (a0 : Array Value) (hw : ∀ d ∈ tables_1, d.before a0 Z = true) (ws : List Jvm.Cond) (p1 : Int32) (w_BYTE w_SHORT w_CHAR w_INT w_LONG w_FLOAT w_DOUBLE w_BOOLEAN w_VOID w_CLASS w_PROGRAM_CLASS w_ARRAY w_NULL w_ERROR : Addr) (h0 : Heap) (n0 : Nat) (Z0 : n0 ≤ h0.size) (S_BYTE : Sta Z h0 "com/example/subscript/subscript/Type$Kind" "BYTE" "Lcom/example/subscript/subscript/Type$Kind;" (.ref w_BYTE)) (S_SHORT : Sta Z h0 "com/example/subscript/subscript/Type$Kind" "SHORT" "Lcom/example/subscript/subscript/Type$Kind;" (.ref w_SHORT)) (S_CHAR : Sta Z h0 "com/example/subscript/subscript/Type$Kind" "CHAR" "Lcom/example/subscript/subscript/Type$Kind;" (.ref w_CHAR)) (S_INT : Sta Z h0 "com/example/subscript/subscript/Type$Kind" "INT" "Lcom/example/subscript/subscript/Type$Kind;" (.ref w_INT)) (S_LONG : Sta Z h0 "com/example/subscript/subscript/Type$Kind" "LONG" "Lcom/example/subscript/subscript/Type$Kind;" (.ref w_LONG)) (S_FLOAT : Sta Z h0 "com/example/subscript/subscript/Type$Kind" "FLOAT" "Lcom/example/subscript/subscript/Type$Kind;" (.ref w_FLOAT)) (S_DOUBLE : Sta Z h0 "com/example/subscript/subscript/Type$Kind" "DOUBLE" "Lcom/example/subscript/subscript/Type$Kind;" (.ref w_DOUBLE)) (S_BOOLEAN : Sta Z h0 "com/example/subscript/subscript/Type$Kind" "BOOLEAN" "Lcom/example/subscript/subscript/Type$Kind;" (.ref w_BOOLEAN)) (S_VOID : Sta Z h0 "com/example/subscript/subscript/Type$Kind" "VOID" "Lcom/example/subscript/subscript/Type$Kind;" (.ref w_VOID)) (S_CLASS : Sta Z h0 "com/example/subscript/subscript/Type$Kind" "CLASS" "Lcom/example/subscript/subscript/Type$Kind;" (.ref w_CLASS)) (S_PROGRAM_CLASS : Sta Z h0 "com/example/subscript/subscript/Type$Kind" "PROGRAM_CLASS" "Lcom/example/subscript/subscript/Type$Kind;" (.ref w_PROGRAM_CLASS)) (S_ARRAY : Sta Z h0 "com/example/subscript/subscript/Type$Kind" "ARRAY" "Lcom/example/subscript/subscript/Type$Kind;" (.ref w_ARRAY)) (S_NULL : Sta Z h0 "com/example/subscript/subscript/Type$Kind" "NULL" "Lcom/example/subscript/subscript/Type$Kind;" (.ref w_NULL)) (S_ERROR : Sta Z h0 "com/example/subscript/subscript/Type$Kind" "ERROR" "Lcom/example/subscript/subscript/Type$Kind;" (.ref w_ERROR)) (E_BYTE : Exa Z h0 w_BYTE "com/example/subscript/subscript/Type$Kind") (E_SHORT : Exa Z h0 w_SHORT "com/example/subscript/subscript/Type$Kind") (E_CHAR : Exa Z h0 w_CHAR "com/example/subscript/subscript/Type$Kind") (E_INT : Exa Z h0 w_INT "com/example/subscript/subscript/Type$Kind") (E_LONG : Exa Z h0 w_LONG "com/example/subscript/subscript/Type$Kind") (E_FLOAT : Exa Z h0 w_FLOAT "com/example/subscript/subscript/Type$Kind") (E_DOUBLE : Exa Z h0 w_DOUBLE "com/example/subscript/subscript/Type$Kind") (E_BOOLEAN : Exa Z h0 w_BOOLEAN "com/example/subscript/subscript/Type$Kind") (E_VOID : Exa Z h0 w_VOID "com/example/subscript/subscript/Type$Kind") (E_CLASS : Exa Z h0 w_CLASS "com/example/subscript/subscript/Type$Kind") (E_PROGRAM_CLASS : Exa Z h0 w_PROGRAM_CLASS "com/example/subscript/subscript/Type$Kind") (E_ARRAY : Exa Z h0 w_ARRAY "com/example/subscript/subscript/Type$Kind") (E_NULL : Exa Z h0 w_NULL "com/example/subscript/subscript/Type$Kind") (E_ERROR : Exa Z h0 w_ERROR "com/example/subscript/subscript/Type$Kind") (F_rank_BYTE : Fld Z h0 w_BYTE "com/example/subscript/subscript/Type$Kind" "rank" "I" (.int (0 : Int32))) (F_rank_SHORT : Fld Z h0 w_SHORT "com/example/subscript/subscript/Type$Kind" "rank" "I" (.int (1 : Int32))) (F_rank_CHAR : Fld Z h0 w_CHAR "com/example/subscript/subscript/Type$Kind" "rank" "I" (.int (1 : Int32))) (F_rank_INT : Fld Z h0 w_INT "com/example/subscript/subscript/Type$Kind" "rank" "I" (.int (2 : Int32))) (F_rank_LONG : Fld Z h0 w_LONG "com/example/subscript/subscript/Type$Kind" "rank" "I" (.int (3 : Int32))) (F_rank_FLOAT : Fld Z h0 w_FLOAT "com/example/subscript/subscript/Type$Kind" "rank" "I" (.int (4 : Int32))) (F_rank_DOUBLE : Fld Z h0 w_DOUBLE "com/example/subscript/subscript/Type$Kind" "rank" "I" (.int (5 : Int32))) (F_rank_BOOLEAN : Fld Z h0 w_BOOLEAN "com/example/subscript/subscript/Type$Kind" "rank" "I" (.int (-1 : Int32))) (F_rank_VOID : Fld Z h0 w_VOID "com/example/subscript/subscript/Type$Kind" "rank" "I" (.int (-1 : Int32))) (F_rank_CLASS : Fld Z h0 w_CLASS "com/example/subscript/subscript/Type$Kind" "rank" "I" (.int (-1 : Int32))) (F_rank_PROGRAM_CLASS : Fld Z h0 w_PROGRAM_CLASS "com/example/subscript/subscript/Type$Kind" "rank" "I" (.int (-1 : Int32))) (F_rank_ARRAY : Fld Z h0 w_ARRAY "com/example/subscript/subscript/Type$Kind" "rank" "I" (.int (-1 : Int32))) (F_rank_NULL : Fld Z h0 w_NULL "com/example/subscript/subscript/Type$Kind" "rank" "I" (.int (-1 : Int32))) (F_rank_ERROR : Fld Z h0 w_ERROR "com/example/subscript/subscript/Type$Kind" "rank" "I" (.int (-1 : Int32))) :
    MetFree l x (head1 (Jvm.Cond.code x code maxLocals ret :: ws) room_1) (fun a U => a = #[(.int p1)] ∧ Z.Warmed39 U.vm ∧ U.heap = h0) (fun _ _ _ _ _ => True) (fun _ U o U' => ∃ v L, o = .returned v ∧ Q0 n0 v U'.heap L ∧ FrameEnd U o U' L room_1.cells room_1.slots) := by
  refine MetFree.of_bodySF (plainFor_of_name own_pn0) hisR ?_
  intro p e s m args below meth c s₁ Bd hml0 hP hK
  obtain ⟨rfl, hZ, hh⟩ := hP
  have hx := Bd.exec
  have hby := Bd.bytes
  have hml : c.maxLocals = 4 := hml0
  have hown : s.vm.findClass "com/example/subscript/subscript/KindEvaluatedAsPinLaw" = some m.cls := findClass_of_methodNamed Bd.named
  have hnm := (name_of_methodNamed Bd.named Bd.method).1
  have X0 : Stand p l e room_1 s m #[(.int p1)] below meth c s₁ [] 0 0 := Stand.of_body Bd
  have e0 : s₁.heap = h0 := by rw [← hh, Bd.state]; rfl
  have N0 := Fr.nil n0
  refine own_open (f := (mkF m 0 #[.val (.int p1), .unset, .unset, .unset] [])) (fun t k => castTop (own_ef0 m p1) k) ?_
  refine own_by (f' := (mkF m 1 #[.val (.int p1), .unset, .unset, .unset] [(.int p1)])) (fun t h => XS.iloadN X0.here hx rfl (hb hby at_0) rfl h) ?_
  refine own_by (f' := (mkF m 3 #[.val (.int p1), .unset, .unset, .unset] [(.int (2147483647 : Int32)), (.int p1)])) (fun t h => X0.ldcI hx hown (mvT hZ (hw _ (List.mem_of_getElem? (i := 0) rfl))) rfl (hb hby at_1) h) ?_
  refine own_by (f' := (mkF m 4 #[.val (.int p1), .unset, .unset, .unset] [(.int (p1 &&& (2147483647 : Int32)))])) (fun t h => XS.iand X0.here hx rfl (hb hby at_3) rfl h) ?_
  refine own_by (f' := (mkF m 6 #[.val (.int p1), .unset, .unset, .unset] [(.int (14 : Int32)), (.int (p1 &&& (2147483647 : Int32)))])) (fun t h => XT.bipushV X0.here hx rfl (14 : Int32) (hb hby at_4) rfl h) ?_
  refine own_by (f' := (mkF m 7 #[.val (.int p1), .unset, .unset, .unset] [(.int ((p1 &&& (2147483647 : Int32)) % (14 : Int32)))])) (fun t h => iremM X0 hx rfl (hb hby at_6) rfl (by decide) h) ?_
  refine own_by (f' := (mkF m 8 #[.val (.int p1), .val (.int ((p1 &&& (2147483647 : Int32)) % (14 : Int32))), .unset, .unset] [])) (fun t h => XS.istoreN X0.here hx rfl (hb hby at_7) rfl (l' := #[.val (.int p1), .val (.int ((p1 &&& (2147483647 : Int32)) % (14 : Int32))), .unset, .unset]) rfl h) ?_
  have hk := own_k p1
  generalize ((p1 &&& (2147483647 : Int32)) % (14 : Int32)) = k at hk ⊢
  rcases hk with rfl | rfl | rfl | rfl | rfl | rfl | rfl | rfl | rfl | rfl | rfl | rfl | rfl | rfl
  · refine own_by (f' := (mkF m 9 #[.val (.int p1), .val (.int (0 : Int32)), .unset, .unset] [(.int (0 : Int32))])) (fun t h => XS.iloadN X0.here hx rfl (hb hby at_8) rfl h) ?_
    obtain ⟨v1, _, ⟨T1, L1, k1, n1⟩, -, X1, ⟨Lc1, hQ1, l1, y1, z1⟩, st1⟩ := Jvm.LawKit.callS X0 hx (y := (⟨"com/example/subscript/subscript/KindEvaluatedAsPinLaw", "kindOf", "(I)Lcom/example/subscript/subscript/Type$Kind;"⟩ : MethodName)) hown (mvT hZ (hw _ (List.mem_of_getElem? (i := 1) rfl))) (mvT hZ (hw _ (List.mem_of_getElem? (i := 2) rfl))) (mvT hZ (hw _ (List.mem_of_getElem? (i := 3) rfl))) (mvT hZ (hw _ (List.mem_of_getElem? (i := 4) rfl))) (by decide) (backOf (W := 0) (rm1 l Z a0 hw [] (0 : Int32) w_BYTE w_SHORT w_CHAR w_INT w_LONG w_FLOAT w_DOUBLE w_BOOLEAN w_VOID w_CLASS w_PROGRAM_CLASS w_ARRAY w_NULL w_ERROR h0 n0 Z0 S_BYTE S_SHORT S_CHAR S_INT S_LONG S_FLOAT S_DOUBLE S_BOOLEAN S_VOID S_CLASS S_PROGRAM_CLASS S_ARRAY S_NULL S_ERROR) hZ (hw _ (List.mem_of_getElem? (i := 4) rfl)) (hw _ (List.mem_of_getElem? (i := 3) rfl)) (by decide) (by decide)) (g := (mkF m 9 #[.val (.int p1), .val (.int (0 : Int32)), .unset, .unset] [(.int (0 : Int32))])) rfl (by rw [hml]; rfl) (argsL := [(.int (0 : Int32))]) (rest := []) (lenOf own_pd1 rfl) rfl (by show 2 * 0 + _ ≤ _; exact Nat.le_of_eq rfl) (hb hby at_9) (fun _ _ => ⟨rfl, e0, (by decide : 0 + 0 ≤ _), (by decide : 0 + 0 ≤ _)⟩)
    dsimp only [Pt.U, Pt.locs, Pt.cells, Pt.slots] at X1 l1 y1 z1 st1 hQ1
    subst l1 y1 z1
    obtain ⟨hv1, Nc1, e1⟩ := hQ1
    have N1 := Fr.app N0 Nc1
    obtain rfl : v1 = some (.ref w_BYTE) := hv1.trans (by simp)
    refine own_by (f' := (mkF m 12 #[.val (.int p1), .val (.int (0 : Int32)), .unset, .unset] [(.ref w_BYTE)])) st1 ?_
    refine own_by (f' := (mkF m 13 #[.val (.int p1), .val (.int (0 : Int32)), .val (.ref w_BYTE), .unset] [])) (fun t h => XS.astoreN X1.here hx rfl (hb hby at_12) rfl rfl (l' := #[.val (.int p1), .val (.int (0 : Int32)), .val (.ref w_BYTE), .unset]) rfl h) ?_
    refine own_by (f' := (mkF m 14 #[.val (.int p1), .val (.int (0 : Int32)), .val (.ref w_BYTE), .unset] [(.int (0 : Int32))])) (fun t h => XS.iloadN X1.here hx rfl (hb hby at_13) rfl h) ?_
    refine own_by (f' := (mkF m 27 #[.val (.int p1), .val (.int (0 : Int32)), .val (.ref w_BYTE), .unset] [])) (fun t h => XS.ifYes X1.here hx rfl (pc0 := 14) (pc' := 27) rfl (hb hby at_14) rfl (by decide) (by decide) (by decide) h) ?_
    obtain ⟨T2, X2, e2, st2⟩ := getS2 X1 hx hZ hown (host := "") (Or.inl (hw _ (List.mem_of_getElem? (i := 8) rfl))) Via.refl e1 S_INT (g := (mkF m 27 #[.val (.int p1), .val (.int (0 : Int32)), .val (.ref w_BYTE), .unset] [])) rfl (hb hby at_27)
    refine own_by (f' := (mkF m 30 #[.val (.int p1), .val (.int (0 : Int32)), .val (.ref w_BYTE), .unset] [(.ref w_INT)])) st2 ?_
    refine own_by (f' := (mkF m 31 #[.val (.int p1), .val (.int (0 : Int32)), .val (.ref w_BYTE), .val (.ref w_INT)] [])) (fun t h => XS.astoreN X2.here hx rfl (hb hby at_30) rfl rfl (l' := #[.val (.int p1), .val (.int (0 : Int32)), .val (.ref w_BYTE), .val (.ref w_INT)]) rfl h) ?_
    refine own_by (f' := (mkF m 36 #[.val (.int p1), .val (.int (0 : Int32)), .val (.ref w_BYTE), .val (.ref w_INT)] [])) (fun t h => XS.goto X2.here hx rfl (pc0 := 31) (pc' := 36) rfl (hb hby at_31) (by decide) (by decide) h) ?_
    refine own_by (f' := (mkF m 37 #[.val (.int p1), .val (.int (0 : Int32)), .val (.ref w_BYTE), .val (.ref w_INT)] [(.ref w_BYTE)])) (fun t h => XS.aloadN X2.here hx rfl (hb hby at_36) rfl rfl h) ?_
    obtain ⟨cq3, kq3, q3a, q3b, q3c⟩ := isOf hZ e2 E_BYTE
    obtain ⟨v3, _, ⟨T3, L3, k3, n3⟩, -, X3, ⟨Lc3, hQ3, l3, y3, z3⟩, st3⟩ := X2.virtualBack hx (y := (⟨"com/example/subscript/subscript/Type$Kind", "evaluatedAs", "()Lcom/example/subscript/subscript/Type$Kind;"⟩ : MethodName)) (z := (⟨"com/example/subscript/subscript/Type$Kind", "evaluatedAs", "()Lcom/example/subscript/subscript/Type$Kind;"⟩ : MethodName)) hown (mvT hZ (hw _ (List.mem_of_getElem? (i := 10) rfl))) (mvT hZ (hw _ (List.mem_of_getElem? (i := 11) rfl))) (notFace_of_selects (args := #[]) (mvT hZ (hw _ (List.mem_of_getElem? (i := 13) rfl)))) (mvT hZ (hw _ (List.mem_of_getElem? (i := 13) rfl))) (mvT hZ (hw _ (List.mem_of_getElem? (i := 12) rfl))) (by decide) (backOf (W := 0) (rm2 l Z a0 hw [] w_BYTE w_INT (0 : Int32) h0 n0 Z0 S_INT F_rank_BYTE F_rank_INT) hZ (hw _ (List.mem_of_getElem? (i := 14) rfl)) (hw _ (List.mem_of_getElem? (i := 6) rfl)) (by decide) (by decide)) q3a q3c (g := (mkF m 37 #[.val (.int p1), .val (.int (0 : Int32)), .val (.ref w_BYTE), .val (.ref w_INT)] [(.ref w_BYTE)])) rfl (by rw [hml]; rfl) (Steps.refl _) (argsL := []) (rest := []) (lenOf own_pd2 rfl) rfl (by show 2 * 0 + _ ≤ _; exact Nat.le_of_eq rfl) (hb hby at_37) (fun _ _ => ⟨rfl, e2, (by decide : 0 + 0 ≤ _), (by decide : 0 + 0 ≤ _)⟩)
    dsimp only [Pt.U, Pt.locs, Pt.cells, Pt.slots] at X3 l3 y3 z3 st3 hQ3
    subst l3 y3 z3
    obtain ⟨hv3, Nc3, e3⟩ := hQ3
    have N3 := Fr.app N1 Nc3
    obtain rfl : v3 = some (.ref w_INT) := hv3.trans (congrArg (fun z => some (Value.ref z)) ((if_neg (by decide)).trans (if_pos (by decide))))
    refine own_by (f' := (mkF m 40 #[.val (.int p1), .val (.int (0 : Int32)), .val (.ref w_BYTE), .val (.ref w_INT)] [(.ref w_INT)])) (fun t h => st3.trans h) ?_
    refine own_by (f' := (mkF m 41 #[.val (.int p1), .val (.int (0 : Int32)), .val (.ref w_BYTE), .val (.ref w_INT)] [(.ref w_INT), (.ref w_INT)])) (fun t h => XS.aloadN X3.here hx rfl (hb hby at_40) rfl rfl h) ?_
    refine own_by (f' := (mkF m 44 #[.val (.int p1), .val (.int (0 : Int32)), .val (.ref w_BYTE), .val (.ref w_INT)] [])) (fun t h => Jvm.RoadKit.acmp (g := (mkF m 41 #[.val (.int p1), .val (.int (0 : Int32)), .val (.ref w_BYTE), .val (.ref w_INT)] [(.ref w_INT), (.ref w_INT)])) X3 hx rfl rfl rfl (pc0 := 41) (pc' := 44) (same := true) rfl (hb hby at_41) rfl (decide_eq_true rfl) (by decide) (by decide) h) ?_
    refine own_by (f' := (mkF m 45 #[.val (.int p1), .val (.int (0 : Int32)), .val (.ref w_BYTE), .val (.ref w_INT)] [(.int (1 : Int32))])) (fun t h => XS.iconst X3.here hx rfl (hb hby at_44) h) ?_
    refine own_by (f' := (mkF m 49 #[.val (.int p1), .val (.int (0 : Int32)), .val (.ref w_BYTE), .val (.ref w_INT)] [(.int (1 : Int32))])) (fun t h => XS.goto X3.here hx rfl (pc0 := 45) (pc' := 49) rfl (hb hby at_45) (by decide) (by decide) h) ?_
    obtain ⟨fs, hr, hrun, hended, hW, hsame⟩ := X3.leave (v := some (.int (1 : Int32))) (fun h => by rw [Bd.returns] at h; cases h)
    refine own_mk ⟨_, _, retN X3 hx (t := .boolean) Bd.returns (by simp) (hb hby at_49) hr, hrun, hended, _, _, rfl, ?_, ⟨_, rfl⟩, hW, hsame.mono (by decide) (by decide)⟩
    show Q0 n0 _ T3.heap _
    rw [e3]
    exact ⟨rfl, N3⟩
  · refine own_by (f' := (mkF m 9 #[.val (.int p1), .val (.int (1 : Int32)), .unset, .unset] [(.int (1 : Int32))])) (fun t h => XS.iloadN X0.here hx rfl (hb hby at_8) rfl h) ?_
    obtain ⟨v4, _, ⟨T4, L4, k4, n4⟩, -, X4, ⟨Lc4, hQ4, l4, y4, z4⟩, st4⟩ := Jvm.LawKit.callS X0 hx (y := (⟨"com/example/subscript/subscript/KindEvaluatedAsPinLaw", "kindOf", "(I)Lcom/example/subscript/subscript/Type$Kind;"⟩ : MethodName)) hown (mvT hZ (hw _ (List.mem_of_getElem? (i := 1) rfl))) (mvT hZ (hw _ (List.mem_of_getElem? (i := 2) rfl))) (mvT hZ (hw _ (List.mem_of_getElem? (i := 3) rfl))) (mvT hZ (hw _ (List.mem_of_getElem? (i := 4) rfl))) (by decide) (backOf (W := 0) (rm1 l Z a0 hw [] (1 : Int32) w_BYTE w_SHORT w_CHAR w_INT w_LONG w_FLOAT w_DOUBLE w_BOOLEAN w_VOID w_CLASS w_PROGRAM_CLASS w_ARRAY w_NULL w_ERROR h0 n0 Z0 S_BYTE S_SHORT S_CHAR S_INT S_LONG S_FLOAT S_DOUBLE S_BOOLEAN S_VOID S_CLASS S_PROGRAM_CLASS S_ARRAY S_NULL S_ERROR) hZ (hw _ (List.mem_of_getElem? (i := 4) rfl)) (hw _ (List.mem_of_getElem? (i := 3) rfl)) (by decide) (by decide)) (g := (mkF m 9 #[.val (.int p1), .val (.int (1 : Int32)), .unset, .unset] [(.int (1 : Int32))])) rfl (by rw [hml]; rfl) (argsL := [(.int (1 : Int32))]) (rest := []) (lenOf own_pd1 rfl) rfl (by show 2 * 0 + _ ≤ _; exact Nat.le_of_eq rfl) (hb hby at_9) (fun _ _ => ⟨rfl, e0, (by decide : 0 + 0 ≤ _), (by decide : 0 + 0 ≤ _)⟩)
    dsimp only [Pt.U, Pt.locs, Pt.cells, Pt.slots] at X4 l4 y4 z4 st4 hQ4
    subst l4 y4 z4
    obtain ⟨hv4, Nc4, e4⟩ := hQ4
    have N4 := Fr.app N0 Nc4
    obtain rfl : v4 = some (.ref w_SHORT) := hv4.trans (by simp)
    refine own_by (f' := (mkF m 12 #[.val (.int p1), .val (.int (1 : Int32)), .unset, .unset] [(.ref w_SHORT)])) st4 ?_
    refine own_by (f' := (mkF m 13 #[.val (.int p1), .val (.int (1 : Int32)), .val (.ref w_SHORT), .unset] [])) (fun t h => XS.astoreN X4.here hx rfl (hb hby at_12) rfl rfl (l' := #[.val (.int p1), .val (.int (1 : Int32)), .val (.ref w_SHORT), .unset]) rfl h) ?_
    refine own_by (f' := (mkF m 14 #[.val (.int p1), .val (.int (1 : Int32)), .val (.ref w_SHORT), .unset] [(.int (1 : Int32))])) (fun t h => XS.iloadN X4.here hx rfl (hb hby at_13) rfl h) ?_
    refine own_by (f' := (mkF m 17 #[.val (.int p1), .val (.int (1 : Int32)), .val (.ref w_SHORT), .unset] [])) (fun t h => XS.ifNo X4.here hx rfl (hb hby at_14) rfl (by decide) h) ?_
    refine own_by (f' := (mkF m 18 #[.val (.int p1), .val (.int (1 : Int32)), .val (.ref w_SHORT), .unset] [(.int (1 : Int32))])) (fun t h => XS.iloadN X4.here hx rfl (hb hby at_17) rfl h) ?_
    refine own_by (f' := (mkF m 19 #[.val (.int p1), .val (.int (1 : Int32)), .val (.ref w_SHORT), .unset] [(.int (1 : Int32)), (.int (1 : Int32))])) (fun t h => XS.iconst X4.here hx rfl (hb hby at_18) h) ?_
    refine own_by (f' := (mkF m 27 #[.val (.int p1), .val (.int (1 : Int32)), .val (.ref w_SHORT), .unset] [])) (fun t h => XS.icmpYes X4.here hx rfl (pc0 := 19) (pc' := 27) rfl (hb hby at_19) rfl (by decide) (by decide) (by decide) h) ?_
    obtain ⟨T5, X5, e5, st5⟩ := getS2 X4 hx hZ hown (host := "") (Or.inl (hw _ (List.mem_of_getElem? (i := 8) rfl))) Via.refl e4 S_INT (g := (mkF m 27 #[.val (.int p1), .val (.int (1 : Int32)), .val (.ref w_SHORT), .unset] [])) rfl (hb hby at_27)
    refine own_by (f' := (mkF m 30 #[.val (.int p1), .val (.int (1 : Int32)), .val (.ref w_SHORT), .unset] [(.ref w_INT)])) st5 ?_
    refine own_by (f' := (mkF m 31 #[.val (.int p1), .val (.int (1 : Int32)), .val (.ref w_SHORT), .val (.ref w_INT)] [])) (fun t h => XS.astoreN X5.here hx rfl (hb hby at_30) rfl rfl (l' := #[.val (.int p1), .val (.int (1 : Int32)), .val (.ref w_SHORT), .val (.ref w_INT)]) rfl h) ?_
    refine own_by (f' := (mkF m 36 #[.val (.int p1), .val (.int (1 : Int32)), .val (.ref w_SHORT), .val (.ref w_INT)] [])) (fun t h => XS.goto X5.here hx rfl (pc0 := 31) (pc' := 36) rfl (hb hby at_31) (by decide) (by decide) h) ?_
    refine own_by (f' := (mkF m 37 #[.val (.int p1), .val (.int (1 : Int32)), .val (.ref w_SHORT), .val (.ref w_INT)] [(.ref w_SHORT)])) (fun t h => XS.aloadN X5.here hx rfl (hb hby at_36) rfl rfl h) ?_
    obtain ⟨cq6, kq6, q6a, q6b, q6c⟩ := isOf hZ e5 E_SHORT
    obtain ⟨v6, _, ⟨T6, L6, k6, n6⟩, -, X6, ⟨Lc6, hQ6, l6, y6, z6⟩, st6⟩ := X5.virtualBack hx (y := (⟨"com/example/subscript/subscript/Type$Kind", "evaluatedAs", "()Lcom/example/subscript/subscript/Type$Kind;"⟩ : MethodName)) (z := (⟨"com/example/subscript/subscript/Type$Kind", "evaluatedAs", "()Lcom/example/subscript/subscript/Type$Kind;"⟩ : MethodName)) hown (mvT hZ (hw _ (List.mem_of_getElem? (i := 10) rfl))) (mvT hZ (hw _ (List.mem_of_getElem? (i := 11) rfl))) (notFace_of_selects (args := #[]) (mvT hZ (hw _ (List.mem_of_getElem? (i := 13) rfl)))) (mvT hZ (hw _ (List.mem_of_getElem? (i := 13) rfl))) (mvT hZ (hw _ (List.mem_of_getElem? (i := 12) rfl))) (by decide) (backOf (W := 0) (rm2 l Z a0 hw [] w_SHORT w_INT (1 : Int32) h0 n0 Z0 S_INT F_rank_SHORT F_rank_INT) hZ (hw _ (List.mem_of_getElem? (i := 14) rfl)) (hw _ (List.mem_of_getElem? (i := 6) rfl)) (by decide) (by decide)) q6a q6c (g := (mkF m 37 #[.val (.int p1), .val (.int (1 : Int32)), .val (.ref w_SHORT), .val (.ref w_INT)] [(.ref w_SHORT)])) rfl (by rw [hml]; rfl) (Steps.refl _) (argsL := []) (rest := []) (lenOf own_pd2 rfl) rfl (by show 2 * 0 + _ ≤ _; exact Nat.le_of_eq rfl) (hb hby at_37) (fun _ _ => ⟨rfl, e5, (by decide : 0 + 0 ≤ _), (by decide : 0 + 0 ≤ _)⟩)
    dsimp only [Pt.U, Pt.locs, Pt.cells, Pt.slots] at X6 l6 y6 z6 st6 hQ6
    subst l6 y6 z6
    obtain ⟨hv6, Nc6, e6⟩ := hQ6
    have N6 := Fr.app N4 Nc6
    obtain rfl : v6 = some (.ref w_INT) := hv6.trans (congrArg (fun z => some (Value.ref z)) ((if_neg (by decide)).trans (if_pos (by decide))))
    refine own_by (f' := (mkF m 40 #[.val (.int p1), .val (.int (1 : Int32)), .val (.ref w_SHORT), .val (.ref w_INT)] [(.ref w_INT)])) (fun t h => st6.trans h) ?_
    refine own_by (f' := (mkF m 41 #[.val (.int p1), .val (.int (1 : Int32)), .val (.ref w_SHORT), .val (.ref w_INT)] [(.ref w_INT), (.ref w_INT)])) (fun t h => XS.aloadN X6.here hx rfl (hb hby at_40) rfl rfl h) ?_
    refine own_by (f' := (mkF m 44 #[.val (.int p1), .val (.int (1 : Int32)), .val (.ref w_SHORT), .val (.ref w_INT)] [])) (fun t h => Jvm.RoadKit.acmp (g := (mkF m 41 #[.val (.int p1), .val (.int (1 : Int32)), .val (.ref w_SHORT), .val (.ref w_INT)] [(.ref w_INT), (.ref w_INT)])) X6 hx rfl rfl rfl (pc0 := 41) (pc' := 44) (same := true) rfl (hb hby at_41) rfl (decide_eq_true rfl) (by decide) (by decide) h) ?_
    refine own_by (f' := (mkF m 45 #[.val (.int p1), .val (.int (1 : Int32)), .val (.ref w_SHORT), .val (.ref w_INT)] [(.int (1 : Int32))])) (fun t h => XS.iconst X6.here hx rfl (hb hby at_44) h) ?_
    refine own_by (f' := (mkF m 49 #[.val (.int p1), .val (.int (1 : Int32)), .val (.ref w_SHORT), .val (.ref w_INT)] [(.int (1 : Int32))])) (fun t h => XS.goto X6.here hx rfl (pc0 := 45) (pc' := 49) rfl (hb hby at_45) (by decide) (by decide) h) ?_
    obtain ⟨fs, hr, hrun, hended, hW, hsame⟩ := X6.leave (v := some (.int (1 : Int32))) (fun h => by rw [Bd.returns] at h; cases h)
    refine own_mk ⟨_, _, retN X6 hx (t := .boolean) Bd.returns (by simp) (hb hby at_49) hr, hrun, hended, _, _, rfl, ?_, ⟨_, rfl⟩, hW, hsame.mono (by decide) (by decide)⟩
    show Q0 n0 _ T6.heap _
    rw [e6]
    exact ⟨rfl, N6⟩
  · refine own_by (f' := (mkF m 9 #[.val (.int p1), .val (.int (2 : Int32)), .unset, .unset] [(.int (2 : Int32))])) (fun t h => XS.iloadN X0.here hx rfl (hb hby at_8) rfl h) ?_
    obtain ⟨v7, _, ⟨T7, L7, k7, n7⟩, -, X7, ⟨Lc7, hQ7, l7, y7, z7⟩, st7⟩ := Jvm.LawKit.callS X0 hx (y := (⟨"com/example/subscript/subscript/KindEvaluatedAsPinLaw", "kindOf", "(I)Lcom/example/subscript/subscript/Type$Kind;"⟩ : MethodName)) hown (mvT hZ (hw _ (List.mem_of_getElem? (i := 1) rfl))) (mvT hZ (hw _ (List.mem_of_getElem? (i := 2) rfl))) (mvT hZ (hw _ (List.mem_of_getElem? (i := 3) rfl))) (mvT hZ (hw _ (List.mem_of_getElem? (i := 4) rfl))) (by decide) (backOf (W := 0) (rm1 l Z a0 hw [] (2 : Int32) w_BYTE w_SHORT w_CHAR w_INT w_LONG w_FLOAT w_DOUBLE w_BOOLEAN w_VOID w_CLASS w_PROGRAM_CLASS w_ARRAY w_NULL w_ERROR h0 n0 Z0 S_BYTE S_SHORT S_CHAR S_INT S_LONG S_FLOAT S_DOUBLE S_BOOLEAN S_VOID S_CLASS S_PROGRAM_CLASS S_ARRAY S_NULL S_ERROR) hZ (hw _ (List.mem_of_getElem? (i := 4) rfl)) (hw _ (List.mem_of_getElem? (i := 3) rfl)) (by decide) (by decide)) (g := (mkF m 9 #[.val (.int p1), .val (.int (2 : Int32)), .unset, .unset] [(.int (2 : Int32))])) rfl (by rw [hml]; rfl) (argsL := [(.int (2 : Int32))]) (rest := []) (lenOf own_pd1 rfl) rfl (by show 2 * 0 + _ ≤ _; exact Nat.le_of_eq rfl) (hb hby at_9) (fun _ _ => ⟨rfl, e0, (by decide : 0 + 0 ≤ _), (by decide : 0 + 0 ≤ _)⟩)
    dsimp only [Pt.U, Pt.locs, Pt.cells, Pt.slots] at X7 l7 y7 z7 st7 hQ7
    subst l7 y7 z7
    obtain ⟨hv7, Nc7, e7⟩ := hQ7
    have N7 := Fr.app N0 Nc7
    obtain rfl : v7 = some (.ref w_CHAR) := hv7.trans (by simp)
    refine own_by (f' := (mkF m 12 #[.val (.int p1), .val (.int (2 : Int32)), .unset, .unset] [(.ref w_CHAR)])) st7 ?_
    refine own_by (f' := (mkF m 13 #[.val (.int p1), .val (.int (2 : Int32)), .val (.ref w_CHAR), .unset] [])) (fun t h => XS.astoreN X7.here hx rfl (hb hby at_12) rfl rfl (l' := #[.val (.int p1), .val (.int (2 : Int32)), .val (.ref w_CHAR), .unset]) rfl h) ?_
    refine own_by (f' := (mkF m 14 #[.val (.int p1), .val (.int (2 : Int32)), .val (.ref w_CHAR), .unset] [(.int (2 : Int32))])) (fun t h => XS.iloadN X7.here hx rfl (hb hby at_13) rfl h) ?_
    refine own_by (f' := (mkF m 17 #[.val (.int p1), .val (.int (2 : Int32)), .val (.ref w_CHAR), .unset] [])) (fun t h => XS.ifNo X7.here hx rfl (hb hby at_14) rfl (by decide) h) ?_
    refine own_by (f' := (mkF m 18 #[.val (.int p1), .val (.int (2 : Int32)), .val (.ref w_CHAR), .unset] [(.int (2 : Int32))])) (fun t h => XS.iloadN X7.here hx rfl (hb hby at_17) rfl h) ?_
    refine own_by (f' := (mkF m 19 #[.val (.int p1), .val (.int (2 : Int32)), .val (.ref w_CHAR), .unset] [(.int (1 : Int32)), (.int (2 : Int32))])) (fun t h => XS.iconst X7.here hx rfl (hb hby at_18) h) ?_
    refine own_by (f' := (mkF m 22 #[.val (.int p1), .val (.int (2 : Int32)), .val (.ref w_CHAR), .unset] [])) (fun t h => XS.icmpNo X7.here hx rfl (hb hby at_19) rfl (by decide) h) ?_
    refine own_by (f' := (mkF m 23 #[.val (.int p1), .val (.int (2 : Int32)), .val (.ref w_CHAR), .unset] [(.int (2 : Int32))])) (fun t h => XS.iloadN X7.here hx rfl (hb hby at_22) rfl h) ?_
    refine own_by (f' := (mkF m 24 #[.val (.int p1), .val (.int (2 : Int32)), .val (.ref w_CHAR), .unset] [(.int (2 : Int32)), (.int (2 : Int32))])) (fun t h => XS.iconst X7.here hx rfl (hb hby at_23) h) ?_
    refine own_by (f' := (mkF m 27 #[.val (.int p1), .val (.int (2 : Int32)), .val (.ref w_CHAR), .unset] [])) (fun t h => XS.icmpNo X7.here hx rfl (hb hby at_24) rfl (by decide) h) ?_
    obtain ⟨T8, X8, e8, st8⟩ := getS2 X7 hx hZ hown (host := "") (Or.inl (hw _ (List.mem_of_getElem? (i := 8) rfl))) Via.refl e7 S_INT (g := (mkF m 27 #[.val (.int p1), .val (.int (2 : Int32)), .val (.ref w_CHAR), .unset] [])) rfl (hb hby at_27)
    refine own_by (f' := (mkF m 30 #[.val (.int p1), .val (.int (2 : Int32)), .val (.ref w_CHAR), .unset] [(.ref w_INT)])) st8 ?_
    refine own_by (f' := (mkF m 31 #[.val (.int p1), .val (.int (2 : Int32)), .val (.ref w_CHAR), .val (.ref w_INT)] [])) (fun t h => XS.astoreN X8.here hx rfl (hb hby at_30) rfl rfl (l' := #[.val (.int p1), .val (.int (2 : Int32)), .val (.ref w_CHAR), .val (.ref w_INT)]) rfl h) ?_
    refine own_by (f' := (mkF m 36 #[.val (.int p1), .val (.int (2 : Int32)), .val (.ref w_CHAR), .val (.ref w_INT)] [])) (fun t h => XS.goto X8.here hx rfl (pc0 := 31) (pc' := 36) rfl (hb hby at_31) (by decide) (by decide) h) ?_
    refine own_by (f' := (mkF m 37 #[.val (.int p1), .val (.int (2 : Int32)), .val (.ref w_CHAR), .val (.ref w_INT)] [(.ref w_CHAR)])) (fun t h => XS.aloadN X8.here hx rfl (hb hby at_36) rfl rfl h) ?_
    obtain ⟨cq9, kq9, q9a, q9b, q9c⟩ := isOf hZ e8 E_CHAR
    obtain ⟨v9, _, ⟨T9, L9, k9, n9⟩, -, X9, ⟨Lc9, hQ9, l9, y9, z9⟩, st9⟩ := X8.virtualBack hx (y := (⟨"com/example/subscript/subscript/Type$Kind", "evaluatedAs", "()Lcom/example/subscript/subscript/Type$Kind;"⟩ : MethodName)) (z := (⟨"com/example/subscript/subscript/Type$Kind", "evaluatedAs", "()Lcom/example/subscript/subscript/Type$Kind;"⟩ : MethodName)) hown (mvT hZ (hw _ (List.mem_of_getElem? (i := 10) rfl))) (mvT hZ (hw _ (List.mem_of_getElem? (i := 11) rfl))) (notFace_of_selects (args := #[]) (mvT hZ (hw _ (List.mem_of_getElem? (i := 13) rfl)))) (mvT hZ (hw _ (List.mem_of_getElem? (i := 13) rfl))) (mvT hZ (hw _ (List.mem_of_getElem? (i := 12) rfl))) (by decide) (backOf (W := 0) (rm2 l Z a0 hw [] w_CHAR w_INT (1 : Int32) h0 n0 Z0 S_INT F_rank_CHAR F_rank_INT) hZ (hw _ (List.mem_of_getElem? (i := 14) rfl)) (hw _ (List.mem_of_getElem? (i := 6) rfl)) (by decide) (by decide)) q9a q9c (g := (mkF m 37 #[.val (.int p1), .val (.int (2 : Int32)), .val (.ref w_CHAR), .val (.ref w_INT)] [(.ref w_CHAR)])) rfl (by rw [hml]; rfl) (Steps.refl _) (argsL := []) (rest := []) (lenOf own_pd2 rfl) rfl (by show 2 * 0 + _ ≤ _; exact Nat.le_of_eq rfl) (hb hby at_37) (fun _ _ => ⟨rfl, e8, (by decide : 0 + 0 ≤ _), (by decide : 0 + 0 ≤ _)⟩)
    dsimp only [Pt.U, Pt.locs, Pt.cells, Pt.slots] at X9 l9 y9 z9 st9 hQ9
    subst l9 y9 z9
    obtain ⟨hv9, Nc9, e9⟩ := hQ9
    have N9 := Fr.app N7 Nc9
    obtain rfl : v9 = some (.ref w_INT) := hv9.trans (congrArg (fun z => some (Value.ref z)) ((if_neg (by decide)).trans (if_pos (by decide))))
    refine own_by (f' := (mkF m 40 #[.val (.int p1), .val (.int (2 : Int32)), .val (.ref w_CHAR), .val (.ref w_INT)] [(.ref w_INT)])) (fun t h => st9.trans h) ?_
    refine own_by (f' := (mkF m 41 #[.val (.int p1), .val (.int (2 : Int32)), .val (.ref w_CHAR), .val (.ref w_INT)] [(.ref w_INT), (.ref w_INT)])) (fun t h => XS.aloadN X9.here hx rfl (hb hby at_40) rfl rfl h) ?_
    refine own_by (f' := (mkF m 44 #[.val (.int p1), .val (.int (2 : Int32)), .val (.ref w_CHAR), .val (.ref w_INT)] [])) (fun t h => Jvm.RoadKit.acmp (g := (mkF m 41 #[.val (.int p1), .val (.int (2 : Int32)), .val (.ref w_CHAR), .val (.ref w_INT)] [(.ref w_INT), (.ref w_INT)])) X9 hx rfl rfl rfl (pc0 := 41) (pc' := 44) (same := true) rfl (hb hby at_41) rfl (decide_eq_true rfl) (by decide) (by decide) h) ?_
    refine own_by (f' := (mkF m 45 #[.val (.int p1), .val (.int (2 : Int32)), .val (.ref w_CHAR), .val (.ref w_INT)] [(.int (1 : Int32))])) (fun t h => XS.iconst X9.here hx rfl (hb hby at_44) h) ?_
    refine own_by (f' := (mkF m 49 #[.val (.int p1), .val (.int (2 : Int32)), .val (.ref w_CHAR), .val (.ref w_INT)] [(.int (1 : Int32))])) (fun t h => XS.goto X9.here hx rfl (pc0 := 45) (pc' := 49) rfl (hb hby at_45) (by decide) (by decide) h) ?_
    obtain ⟨fs, hr, hrun, hended, hW, hsame⟩ := X9.leave (v := some (.int (1 : Int32))) (fun h => by rw [Bd.returns] at h; cases h)
    refine own_mk ⟨_, _, retN X9 hx (t := .boolean) Bd.returns (by simp) (hb hby at_49) hr, hrun, hended, _, _, rfl, ?_, ⟨_, rfl⟩, hW, hsame.mono (by decide) (by decide)⟩
    show Q0 n0 _ T9.heap _
    rw [e9]
    exact ⟨rfl, N9⟩
  · refine own_by (f' := (mkF m 9 #[.val (.int p1), .val (.int (3 : Int32)), .unset, .unset] [(.int (3 : Int32))])) (fun t h => XS.iloadN X0.here hx rfl (hb hby at_8) rfl h) ?_
    obtain ⟨v10, _, ⟨T10, L10, k10, n10⟩, -, X10, ⟨Lc10, hQ10, l10, y10, z10⟩, st10⟩ := Jvm.LawKit.callS X0 hx (y := (⟨"com/example/subscript/subscript/KindEvaluatedAsPinLaw", "kindOf", "(I)Lcom/example/subscript/subscript/Type$Kind;"⟩ : MethodName)) hown (mvT hZ (hw _ (List.mem_of_getElem? (i := 1) rfl))) (mvT hZ (hw _ (List.mem_of_getElem? (i := 2) rfl))) (mvT hZ (hw _ (List.mem_of_getElem? (i := 3) rfl))) (mvT hZ (hw _ (List.mem_of_getElem? (i := 4) rfl))) (by decide) (backOf (W := 0) (rm1 l Z a0 hw [] (3 : Int32) w_BYTE w_SHORT w_CHAR w_INT w_LONG w_FLOAT w_DOUBLE w_BOOLEAN w_VOID w_CLASS w_PROGRAM_CLASS w_ARRAY w_NULL w_ERROR h0 n0 Z0 S_BYTE S_SHORT S_CHAR S_INT S_LONG S_FLOAT S_DOUBLE S_BOOLEAN S_VOID S_CLASS S_PROGRAM_CLASS S_ARRAY S_NULL S_ERROR) hZ (hw _ (List.mem_of_getElem? (i := 4) rfl)) (hw _ (List.mem_of_getElem? (i := 3) rfl)) (by decide) (by decide)) (g := (mkF m 9 #[.val (.int p1), .val (.int (3 : Int32)), .unset, .unset] [(.int (3 : Int32))])) rfl (by rw [hml]; rfl) (argsL := [(.int (3 : Int32))]) (rest := []) (lenOf own_pd1 rfl) rfl (by show 2 * 0 + _ ≤ _; exact Nat.le_of_eq rfl) (hb hby at_9) (fun _ _ => ⟨rfl, e0, (by decide : 0 + 0 ≤ _), (by decide : 0 + 0 ≤ _)⟩)
    dsimp only [Pt.U, Pt.locs, Pt.cells, Pt.slots] at X10 l10 y10 z10 st10 hQ10
    subst l10 y10 z10
    obtain ⟨hv10, Nc10, e10⟩ := hQ10
    have N10 := Fr.app N0 Nc10
    obtain rfl : v10 = some (.ref w_INT) := hv10.trans (by simp)
    refine own_by (f' := (mkF m 12 #[.val (.int p1), .val (.int (3 : Int32)), .unset, .unset] [(.ref w_INT)])) st10 ?_
    refine own_by (f' := (mkF m 13 #[.val (.int p1), .val (.int (3 : Int32)), .val (.ref w_INT), .unset] [])) (fun t h => XS.astoreN X10.here hx rfl (hb hby at_12) rfl rfl (l' := #[.val (.int p1), .val (.int (3 : Int32)), .val (.ref w_INT), .unset]) rfl h) ?_
    refine own_by (f' := (mkF m 14 #[.val (.int p1), .val (.int (3 : Int32)), .val (.ref w_INT), .unset] [(.int (3 : Int32))])) (fun t h => XS.iloadN X10.here hx rfl (hb hby at_13) rfl h) ?_
    refine own_by (f' := (mkF m 17 #[.val (.int p1), .val (.int (3 : Int32)), .val (.ref w_INT), .unset] [])) (fun t h => XS.ifNo X10.here hx rfl (hb hby at_14) rfl (by decide) h) ?_
    refine own_by (f' := (mkF m 18 #[.val (.int p1), .val (.int (3 : Int32)), .val (.ref w_INT), .unset] [(.int (3 : Int32))])) (fun t h => XS.iloadN X10.here hx rfl (hb hby at_17) rfl h) ?_
    refine own_by (f' := (mkF m 19 #[.val (.int p1), .val (.int (3 : Int32)), .val (.ref w_INT), .unset] [(.int (1 : Int32)), (.int (3 : Int32))])) (fun t h => XS.iconst X10.here hx rfl (hb hby at_18) h) ?_
    refine own_by (f' := (mkF m 22 #[.val (.int p1), .val (.int (3 : Int32)), .val (.ref w_INT), .unset] [])) (fun t h => XS.icmpNo X10.here hx rfl (hb hby at_19) rfl (by decide) h) ?_
    refine own_by (f' := (mkF m 23 #[.val (.int p1), .val (.int (3 : Int32)), .val (.ref w_INT), .unset] [(.int (3 : Int32))])) (fun t h => XS.iloadN X10.here hx rfl (hb hby at_22) rfl h) ?_
    refine own_by (f' := (mkF m 24 #[.val (.int p1), .val (.int (3 : Int32)), .val (.ref w_INT), .unset] [(.int (2 : Int32)), (.int (3 : Int32))])) (fun t h => XS.iconst X10.here hx rfl (hb hby at_23) h) ?_
    refine own_by (f' := (mkF m 34 #[.val (.int p1), .val (.int (3 : Int32)), .val (.ref w_INT), .unset] [])) (fun t h => XS.icmpYes X10.here hx rfl (pc0 := 24) (pc' := 34) rfl (hb hby at_24) rfl (by decide) (by decide) (by decide) h) ?_
    refine own_by (f' := (mkF m 35 #[.val (.int p1), .val (.int (3 : Int32)), .val (.ref w_INT), .unset] [(.ref w_INT)])) (fun t h => XS.aloadN X10.here hx rfl (hb hby at_34) rfl rfl h) ?_
    refine own_by (f' := (mkF m 36 #[.val (.int p1), .val (.int (3 : Int32)), .val (.ref w_INT), .val (.ref w_INT)] [])) (fun t h => XS.astoreN X10.here hx rfl (hb hby at_35) rfl rfl (l' := #[.val (.int p1), .val (.int (3 : Int32)), .val (.ref w_INT), .val (.ref w_INT)]) rfl h) ?_
    refine own_by (f' := (mkF m 37 #[.val (.int p1), .val (.int (3 : Int32)), .val (.ref w_INT), .val (.ref w_INT)] [(.ref w_INT)])) (fun t h => XS.aloadN X10.here hx rfl (hb hby at_36) rfl rfl h) ?_
    obtain ⟨cq11, kq11, q11a, q11b, q11c⟩ := isOf hZ e10 E_INT
    obtain ⟨v11, _, ⟨T11, L11, k11, n11⟩, -, X11, ⟨Lc11, hQ11, l11, y11, z11⟩, st11⟩ := X10.virtualBack hx (y := (⟨"com/example/subscript/subscript/Type$Kind", "evaluatedAs", "()Lcom/example/subscript/subscript/Type$Kind;"⟩ : MethodName)) (z := (⟨"com/example/subscript/subscript/Type$Kind", "evaluatedAs", "()Lcom/example/subscript/subscript/Type$Kind;"⟩ : MethodName)) hown (mvT hZ (hw _ (List.mem_of_getElem? (i := 10) rfl))) (mvT hZ (hw _ (List.mem_of_getElem? (i := 11) rfl))) (notFace_of_selects (args := #[]) (mvT hZ (hw _ (List.mem_of_getElem? (i := 13) rfl)))) (mvT hZ (hw _ (List.mem_of_getElem? (i := 13) rfl))) (mvT hZ (hw _ (List.mem_of_getElem? (i := 12) rfl))) (by decide) (backOf (W := 0) (rm2 l Z a0 hw [] w_INT w_INT (2 : Int32) h0 n0 Z0 S_INT F_rank_INT F_rank_INT) hZ (hw _ (List.mem_of_getElem? (i := 14) rfl)) (hw _ (List.mem_of_getElem? (i := 6) rfl)) (by decide) (by decide)) q11a q11c (g := (mkF m 37 #[.val (.int p1), .val (.int (3 : Int32)), .val (.ref w_INT), .val (.ref w_INT)] [(.ref w_INT)])) rfl (by rw [hml]; rfl) (Steps.refl _) (argsL := []) (rest := []) (lenOf own_pd2 rfl) rfl (by show 2 * 0 + _ ≤ _; exact Nat.le_of_eq rfl) (hb hby at_37) (fun _ _ => ⟨rfl, e10, (by decide : 0 + 0 ≤ _), (by decide : 0 + 0 ≤ _)⟩)
    dsimp only [Pt.U, Pt.locs, Pt.cells, Pt.slots] at X11 l11 y11 z11 st11 hQ11
    subst l11 y11 z11
    obtain ⟨hv11, Nc11, e11⟩ := hQ11
    have N11 := Fr.app N10 Nc11
    obtain rfl : v11 = some (.ref w_INT) := hv11.trans (congrArg (fun z => some (Value.ref z)) ((if_neg (by decide)).trans (if_neg (by decide))))
    refine own_by (f' := (mkF m 40 #[.val (.int p1), .val (.int (3 : Int32)), .val (.ref w_INT), .val (.ref w_INT)] [(.ref w_INT)])) (fun t h => st11.trans h) ?_
    refine own_by (f' := (mkF m 41 #[.val (.int p1), .val (.int (3 : Int32)), .val (.ref w_INT), .val (.ref w_INT)] [(.ref w_INT), (.ref w_INT)])) (fun t h => XS.aloadN X11.here hx rfl (hb hby at_40) rfl rfl h) ?_
    refine own_by (f' := (mkF m 44 #[.val (.int p1), .val (.int (3 : Int32)), .val (.ref w_INT), .val (.ref w_INT)] [])) (fun t h => Jvm.RoadKit.acmp (g := (mkF m 41 #[.val (.int p1), .val (.int (3 : Int32)), .val (.ref w_INT), .val (.ref w_INT)] [(.ref w_INT), (.ref w_INT)])) X11 hx rfl rfl rfl (pc0 := 41) (pc' := 44) (same := true) rfl (hb hby at_41) rfl (decide_eq_true rfl) (by decide) (by decide) h) ?_
    refine own_by (f' := (mkF m 45 #[.val (.int p1), .val (.int (3 : Int32)), .val (.ref w_INT), .val (.ref w_INT)] [(.int (1 : Int32))])) (fun t h => XS.iconst X11.here hx rfl (hb hby at_44) h) ?_
    refine own_by (f' := (mkF m 49 #[.val (.int p1), .val (.int (3 : Int32)), .val (.ref w_INT), .val (.ref w_INT)] [(.int (1 : Int32))])) (fun t h => XS.goto X11.here hx rfl (pc0 := 45) (pc' := 49) rfl (hb hby at_45) (by decide) (by decide) h) ?_
    obtain ⟨fs, hr, hrun, hended, hW, hsame⟩ := X11.leave (v := some (.int (1 : Int32))) (fun h => by rw [Bd.returns] at h; cases h)
    refine own_mk ⟨_, _, retN X11 hx (t := .boolean) Bd.returns (by simp) (hb hby at_49) hr, hrun, hended, _, _, rfl, ?_, ⟨_, rfl⟩, hW, hsame.mono (by decide) (by decide)⟩
    show Q0 n0 _ T11.heap _
    rw [e11]
    exact ⟨rfl, N11⟩
  · refine own_by (f' := (mkF m 9 #[.val (.int p1), .val (.int (4 : Int32)), .unset, .unset] [(.int (4 : Int32))])) (fun t h => XS.iloadN X0.here hx rfl (hb hby at_8) rfl h) ?_
    obtain ⟨v12, _, ⟨T12, L12, k12, n12⟩, -, X12, ⟨Lc12, hQ12, l12, y12, z12⟩, st12⟩ := Jvm.LawKit.callS X0 hx (y := (⟨"com/example/subscript/subscript/KindEvaluatedAsPinLaw", "kindOf", "(I)Lcom/example/subscript/subscript/Type$Kind;"⟩ : MethodName)) hown (mvT hZ (hw _ (List.mem_of_getElem? (i := 1) rfl))) (mvT hZ (hw _ (List.mem_of_getElem? (i := 2) rfl))) (mvT hZ (hw _ (List.mem_of_getElem? (i := 3) rfl))) (mvT hZ (hw _ (List.mem_of_getElem? (i := 4) rfl))) (by decide) (backOf (W := 0) (rm1 l Z a0 hw [] (4 : Int32) w_BYTE w_SHORT w_CHAR w_INT w_LONG w_FLOAT w_DOUBLE w_BOOLEAN w_VOID w_CLASS w_PROGRAM_CLASS w_ARRAY w_NULL w_ERROR h0 n0 Z0 S_BYTE S_SHORT S_CHAR S_INT S_LONG S_FLOAT S_DOUBLE S_BOOLEAN S_VOID S_CLASS S_PROGRAM_CLASS S_ARRAY S_NULL S_ERROR) hZ (hw _ (List.mem_of_getElem? (i := 4) rfl)) (hw _ (List.mem_of_getElem? (i := 3) rfl)) (by decide) (by decide)) (g := (mkF m 9 #[.val (.int p1), .val (.int (4 : Int32)), .unset, .unset] [(.int (4 : Int32))])) rfl (by rw [hml]; rfl) (argsL := [(.int (4 : Int32))]) (rest := []) (lenOf own_pd1 rfl) rfl (by show 2 * 0 + _ ≤ _; exact Nat.le_of_eq rfl) (hb hby at_9) (fun _ _ => ⟨rfl, e0, (by decide : 0 + 0 ≤ _), (by decide : 0 + 0 ≤ _)⟩)
    dsimp only [Pt.U, Pt.locs, Pt.cells, Pt.slots] at X12 l12 y12 z12 st12 hQ12
    subst l12 y12 z12
    obtain ⟨hv12, Nc12, e12⟩ := hQ12
    have N12 := Fr.app N0 Nc12
    obtain rfl : v12 = some (.ref w_LONG) := hv12.trans (by simp)
    refine own_by (f' := (mkF m 12 #[.val (.int p1), .val (.int (4 : Int32)), .unset, .unset] [(.ref w_LONG)])) st12 ?_
    refine own_by (f' := (mkF m 13 #[.val (.int p1), .val (.int (4 : Int32)), .val (.ref w_LONG), .unset] [])) (fun t h => XS.astoreN X12.here hx rfl (hb hby at_12) rfl rfl (l' := #[.val (.int p1), .val (.int (4 : Int32)), .val (.ref w_LONG), .unset]) rfl h) ?_
    refine own_by (f' := (mkF m 14 #[.val (.int p1), .val (.int (4 : Int32)), .val (.ref w_LONG), .unset] [(.int (4 : Int32))])) (fun t h => XS.iloadN X12.here hx rfl (hb hby at_13) rfl h) ?_
    refine own_by (f' := (mkF m 17 #[.val (.int p1), .val (.int (4 : Int32)), .val (.ref w_LONG), .unset] [])) (fun t h => XS.ifNo X12.here hx rfl (hb hby at_14) rfl (by decide) h) ?_
    refine own_by (f' := (mkF m 18 #[.val (.int p1), .val (.int (4 : Int32)), .val (.ref w_LONG), .unset] [(.int (4 : Int32))])) (fun t h => XS.iloadN X12.here hx rfl (hb hby at_17) rfl h) ?_
    refine own_by (f' := (mkF m 19 #[.val (.int p1), .val (.int (4 : Int32)), .val (.ref w_LONG), .unset] [(.int (1 : Int32)), (.int (4 : Int32))])) (fun t h => XS.iconst X12.here hx rfl (hb hby at_18) h) ?_
    refine own_by (f' := (mkF m 22 #[.val (.int p1), .val (.int (4 : Int32)), .val (.ref w_LONG), .unset] [])) (fun t h => XS.icmpNo X12.here hx rfl (hb hby at_19) rfl (by decide) h) ?_
    refine own_by (f' := (mkF m 23 #[.val (.int p1), .val (.int (4 : Int32)), .val (.ref w_LONG), .unset] [(.int (4 : Int32))])) (fun t h => XS.iloadN X12.here hx rfl (hb hby at_22) rfl h) ?_
    refine own_by (f' := (mkF m 24 #[.val (.int p1), .val (.int (4 : Int32)), .val (.ref w_LONG), .unset] [(.int (2 : Int32)), (.int (4 : Int32))])) (fun t h => XS.iconst X12.here hx rfl (hb hby at_23) h) ?_
    refine own_by (f' := (mkF m 34 #[.val (.int p1), .val (.int (4 : Int32)), .val (.ref w_LONG), .unset] [])) (fun t h => XS.icmpYes X12.here hx rfl (pc0 := 24) (pc' := 34) rfl (hb hby at_24) rfl (by decide) (by decide) (by decide) h) ?_
    refine own_by (f' := (mkF m 35 #[.val (.int p1), .val (.int (4 : Int32)), .val (.ref w_LONG), .unset] [(.ref w_LONG)])) (fun t h => XS.aloadN X12.here hx rfl (hb hby at_34) rfl rfl h) ?_
    refine own_by (f' := (mkF m 36 #[.val (.int p1), .val (.int (4 : Int32)), .val (.ref w_LONG), .val (.ref w_LONG)] [])) (fun t h => XS.astoreN X12.here hx rfl (hb hby at_35) rfl rfl (l' := #[.val (.int p1), .val (.int (4 : Int32)), .val (.ref w_LONG), .val (.ref w_LONG)]) rfl h) ?_
    refine own_by (f' := (mkF m 37 #[.val (.int p1), .val (.int (4 : Int32)), .val (.ref w_LONG), .val (.ref w_LONG)] [(.ref w_LONG)])) (fun t h => XS.aloadN X12.here hx rfl (hb hby at_36) rfl rfl h) ?_
    obtain ⟨cq13, kq13, q13a, q13b, q13c⟩ := isOf hZ e12 E_LONG
    obtain ⟨v13, _, ⟨T13, L13, k13, n13⟩, -, X13, ⟨Lc13, hQ13, l13, y13, z13⟩, st13⟩ := X12.virtualBack hx (y := (⟨"com/example/subscript/subscript/Type$Kind", "evaluatedAs", "()Lcom/example/subscript/subscript/Type$Kind;"⟩ : MethodName)) (z := (⟨"com/example/subscript/subscript/Type$Kind", "evaluatedAs", "()Lcom/example/subscript/subscript/Type$Kind;"⟩ : MethodName)) hown (mvT hZ (hw _ (List.mem_of_getElem? (i := 10) rfl))) (mvT hZ (hw _ (List.mem_of_getElem? (i := 11) rfl))) (notFace_of_selects (args := #[]) (mvT hZ (hw _ (List.mem_of_getElem? (i := 13) rfl)))) (mvT hZ (hw _ (List.mem_of_getElem? (i := 13) rfl))) (mvT hZ (hw _ (List.mem_of_getElem? (i := 12) rfl))) (by decide) (backOf (W := 0) (rm2 l Z a0 hw [] w_LONG w_INT (3 : Int32) h0 n0 Z0 S_INT F_rank_LONG F_rank_INT) hZ (hw _ (List.mem_of_getElem? (i := 14) rfl)) (hw _ (List.mem_of_getElem? (i := 6) rfl)) (by decide) (by decide)) q13a q13c (g := (mkF m 37 #[.val (.int p1), .val (.int (4 : Int32)), .val (.ref w_LONG), .val (.ref w_LONG)] [(.ref w_LONG)])) rfl (by rw [hml]; rfl) (Steps.refl _) (argsL := []) (rest := []) (lenOf own_pd2 rfl) rfl (by show 2 * 0 + _ ≤ _; exact Nat.le_of_eq rfl) (hb hby at_37) (fun _ _ => ⟨rfl, e12, (by decide : 0 + 0 ≤ _), (by decide : 0 + 0 ≤ _)⟩)
    dsimp only [Pt.U, Pt.locs, Pt.cells, Pt.slots] at X13 l13 y13 z13 st13 hQ13
    subst l13 y13 z13
    obtain ⟨hv13, Nc13, e13⟩ := hQ13
    have N13 := Fr.app N12 Nc13
    obtain rfl : v13 = some (.ref w_LONG) := hv13.trans (congrArg (fun z => some (Value.ref z)) ((if_neg (by decide)).trans (if_neg (by decide))))
    refine own_by (f' := (mkF m 40 #[.val (.int p1), .val (.int (4 : Int32)), .val (.ref w_LONG), .val (.ref w_LONG)] [(.ref w_LONG)])) (fun t h => st13.trans h) ?_
    refine own_by (f' := (mkF m 41 #[.val (.int p1), .val (.int (4 : Int32)), .val (.ref w_LONG), .val (.ref w_LONG)] [(.ref w_LONG), (.ref w_LONG)])) (fun t h => XS.aloadN X13.here hx rfl (hb hby at_40) rfl rfl h) ?_
    refine own_by (f' := (mkF m 44 #[.val (.int p1), .val (.int (4 : Int32)), .val (.ref w_LONG), .val (.ref w_LONG)] [])) (fun t h => Jvm.RoadKit.acmp (g := (mkF m 41 #[.val (.int p1), .val (.int (4 : Int32)), .val (.ref w_LONG), .val (.ref w_LONG)] [(.ref w_LONG), (.ref w_LONG)])) X13 hx rfl rfl rfl (pc0 := 41) (pc' := 44) (same := true) rfl (hb hby at_41) rfl (decide_eq_true rfl) (by decide) (by decide) h) ?_
    refine own_by (f' := (mkF m 45 #[.val (.int p1), .val (.int (4 : Int32)), .val (.ref w_LONG), .val (.ref w_LONG)] [(.int (1 : Int32))])) (fun t h => XS.iconst X13.here hx rfl (hb hby at_44) h) ?_
    refine own_by (f' := (mkF m 49 #[.val (.int p1), .val (.int (4 : Int32)), .val (.ref w_LONG), .val (.ref w_LONG)] [(.int (1 : Int32))])) (fun t h => XS.goto X13.here hx rfl (pc0 := 45) (pc' := 49) rfl (hb hby at_45) (by decide) (by decide) h) ?_
    obtain ⟨fs, hr, hrun, hended, hW, hsame⟩ := X13.leave (v := some (.int (1 : Int32))) (fun h => by rw [Bd.returns] at h; cases h)
    refine own_mk ⟨_, _, retN X13 hx (t := .boolean) Bd.returns (by simp) (hb hby at_49) hr, hrun, hended, _, _, rfl, ?_, ⟨_, rfl⟩, hW, hsame.mono (by decide) (by decide)⟩
    show Q0 n0 _ T13.heap _
    rw [e13]
    exact ⟨rfl, N13⟩
  · refine own_by (f' := (mkF m 9 #[.val (.int p1), .val (.int (5 : Int32)), .unset, .unset] [(.int (5 : Int32))])) (fun t h => XS.iloadN X0.here hx rfl (hb hby at_8) rfl h) ?_
    obtain ⟨v14, _, ⟨T14, L14, k14, n14⟩, -, X14, ⟨Lc14, hQ14, l14, y14, z14⟩, st14⟩ := Jvm.LawKit.callS X0 hx (y := (⟨"com/example/subscript/subscript/KindEvaluatedAsPinLaw", "kindOf", "(I)Lcom/example/subscript/subscript/Type$Kind;"⟩ : MethodName)) hown (mvT hZ (hw _ (List.mem_of_getElem? (i := 1) rfl))) (mvT hZ (hw _ (List.mem_of_getElem? (i := 2) rfl))) (mvT hZ (hw _ (List.mem_of_getElem? (i := 3) rfl))) (mvT hZ (hw _ (List.mem_of_getElem? (i := 4) rfl))) (by decide) (backOf (W := 0) (rm1 l Z a0 hw [] (5 : Int32) w_BYTE w_SHORT w_CHAR w_INT w_LONG w_FLOAT w_DOUBLE w_BOOLEAN w_VOID w_CLASS w_PROGRAM_CLASS w_ARRAY w_NULL w_ERROR h0 n0 Z0 S_BYTE S_SHORT S_CHAR S_INT S_LONG S_FLOAT S_DOUBLE S_BOOLEAN S_VOID S_CLASS S_PROGRAM_CLASS S_ARRAY S_NULL S_ERROR) hZ (hw _ (List.mem_of_getElem? (i := 4) rfl)) (hw _ (List.mem_of_getElem? (i := 3) rfl)) (by decide) (by decide)) (g := (mkF m 9 #[.val (.int p1), .val (.int (5 : Int32)), .unset, .unset] [(.int (5 : Int32))])) rfl (by rw [hml]; rfl) (argsL := [(.int (5 : Int32))]) (rest := []) (lenOf own_pd1 rfl) rfl (by show 2 * 0 + _ ≤ _; exact Nat.le_of_eq rfl) (hb hby at_9) (fun _ _ => ⟨rfl, e0, (by decide : 0 + 0 ≤ _), (by decide : 0 + 0 ≤ _)⟩)
    dsimp only [Pt.U, Pt.locs, Pt.cells, Pt.slots] at X14 l14 y14 z14 st14 hQ14
    subst l14 y14 z14
    obtain ⟨hv14, Nc14, e14⟩ := hQ14
    have N14 := Fr.app N0 Nc14
    obtain rfl : v14 = some (.ref w_FLOAT) := hv14.trans (by simp)
    refine own_by (f' := (mkF m 12 #[.val (.int p1), .val (.int (5 : Int32)), .unset, .unset] [(.ref w_FLOAT)])) st14 ?_
    refine own_by (f' := (mkF m 13 #[.val (.int p1), .val (.int (5 : Int32)), .val (.ref w_FLOAT), .unset] [])) (fun t h => XS.astoreN X14.here hx rfl (hb hby at_12) rfl rfl (l' := #[.val (.int p1), .val (.int (5 : Int32)), .val (.ref w_FLOAT), .unset]) rfl h) ?_
    refine own_by (f' := (mkF m 14 #[.val (.int p1), .val (.int (5 : Int32)), .val (.ref w_FLOAT), .unset] [(.int (5 : Int32))])) (fun t h => XS.iloadN X14.here hx rfl (hb hby at_13) rfl h) ?_
    refine own_by (f' := (mkF m 17 #[.val (.int p1), .val (.int (5 : Int32)), .val (.ref w_FLOAT), .unset] [])) (fun t h => XS.ifNo X14.here hx rfl (hb hby at_14) rfl (by decide) h) ?_
    refine own_by (f' := (mkF m 18 #[.val (.int p1), .val (.int (5 : Int32)), .val (.ref w_FLOAT), .unset] [(.int (5 : Int32))])) (fun t h => XS.iloadN X14.here hx rfl (hb hby at_17) rfl h) ?_
    refine own_by (f' := (mkF m 19 #[.val (.int p1), .val (.int (5 : Int32)), .val (.ref w_FLOAT), .unset] [(.int (1 : Int32)), (.int (5 : Int32))])) (fun t h => XS.iconst X14.here hx rfl (hb hby at_18) h) ?_
    refine own_by (f' := (mkF m 22 #[.val (.int p1), .val (.int (5 : Int32)), .val (.ref w_FLOAT), .unset] [])) (fun t h => XS.icmpNo X14.here hx rfl (hb hby at_19) rfl (by decide) h) ?_
    refine own_by (f' := (mkF m 23 #[.val (.int p1), .val (.int (5 : Int32)), .val (.ref w_FLOAT), .unset] [(.int (5 : Int32))])) (fun t h => XS.iloadN X14.here hx rfl (hb hby at_22) rfl h) ?_
    refine own_by (f' := (mkF m 24 #[.val (.int p1), .val (.int (5 : Int32)), .val (.ref w_FLOAT), .unset] [(.int (2 : Int32)), (.int (5 : Int32))])) (fun t h => XS.iconst X14.here hx rfl (hb hby at_23) h) ?_
    refine own_by (f' := (mkF m 34 #[.val (.int p1), .val (.int (5 : Int32)), .val (.ref w_FLOAT), .unset] [])) (fun t h => XS.icmpYes X14.here hx rfl (pc0 := 24) (pc' := 34) rfl (hb hby at_24) rfl (by decide) (by decide) (by decide) h) ?_
    refine own_by (f' := (mkF m 35 #[.val (.int p1), .val (.int (5 : Int32)), .val (.ref w_FLOAT), .unset] [(.ref w_FLOAT)])) (fun t h => XS.aloadN X14.here hx rfl (hb hby at_34) rfl rfl h) ?_
    refine own_by (f' := (mkF m 36 #[.val (.int p1), .val (.int (5 : Int32)), .val (.ref w_FLOAT), .val (.ref w_FLOAT)] [])) (fun t h => XS.astoreN X14.here hx rfl (hb hby at_35) rfl rfl (l' := #[.val (.int p1), .val (.int (5 : Int32)), .val (.ref w_FLOAT), .val (.ref w_FLOAT)]) rfl h) ?_
    refine own_by (f' := (mkF m 37 #[.val (.int p1), .val (.int (5 : Int32)), .val (.ref w_FLOAT), .val (.ref w_FLOAT)] [(.ref w_FLOAT)])) (fun t h => XS.aloadN X14.here hx rfl (hb hby at_36) rfl rfl h) ?_
    obtain ⟨cq15, kq15, q15a, q15b, q15c⟩ := isOf hZ e14 E_FLOAT
    obtain ⟨v15, _, ⟨T15, L15, k15, n15⟩, -, X15, ⟨Lc15, hQ15, l15, y15, z15⟩, st15⟩ := X14.virtualBack hx (y := (⟨"com/example/subscript/subscript/Type$Kind", "evaluatedAs", "()Lcom/example/subscript/subscript/Type$Kind;"⟩ : MethodName)) (z := (⟨"com/example/subscript/subscript/Type$Kind", "evaluatedAs", "()Lcom/example/subscript/subscript/Type$Kind;"⟩ : MethodName)) hown (mvT hZ (hw _ (List.mem_of_getElem? (i := 10) rfl))) (mvT hZ (hw _ (List.mem_of_getElem? (i := 11) rfl))) (notFace_of_selects (args := #[]) (mvT hZ (hw _ (List.mem_of_getElem? (i := 13) rfl)))) (mvT hZ (hw _ (List.mem_of_getElem? (i := 13) rfl))) (mvT hZ (hw _ (List.mem_of_getElem? (i := 12) rfl))) (by decide) (backOf (W := 0) (rm2 l Z a0 hw [] w_FLOAT w_INT (4 : Int32) h0 n0 Z0 S_INT F_rank_FLOAT F_rank_INT) hZ (hw _ (List.mem_of_getElem? (i := 14) rfl)) (hw _ (List.mem_of_getElem? (i := 6) rfl)) (by decide) (by decide)) q15a q15c (g := (mkF m 37 #[.val (.int p1), .val (.int (5 : Int32)), .val (.ref w_FLOAT), .val (.ref w_FLOAT)] [(.ref w_FLOAT)])) rfl (by rw [hml]; rfl) (Steps.refl _) (argsL := []) (rest := []) (lenOf own_pd2 rfl) rfl (by show 2 * 0 + _ ≤ _; exact Nat.le_of_eq rfl) (hb hby at_37) (fun _ _ => ⟨rfl, e14, (by decide : 0 + 0 ≤ _), (by decide : 0 + 0 ≤ _)⟩)
    dsimp only [Pt.U, Pt.locs, Pt.cells, Pt.slots] at X15 l15 y15 z15 st15 hQ15
    subst l15 y15 z15
    obtain ⟨hv15, Nc15, e15⟩ := hQ15
    have N15 := Fr.app N14 Nc15
    obtain rfl : v15 = some (.ref w_FLOAT) := hv15.trans (congrArg (fun z => some (Value.ref z)) ((if_neg (by decide)).trans (if_neg (by decide))))
    refine own_by (f' := (mkF m 40 #[.val (.int p1), .val (.int (5 : Int32)), .val (.ref w_FLOAT), .val (.ref w_FLOAT)] [(.ref w_FLOAT)])) (fun t h => st15.trans h) ?_
    refine own_by (f' := (mkF m 41 #[.val (.int p1), .val (.int (5 : Int32)), .val (.ref w_FLOAT), .val (.ref w_FLOAT)] [(.ref w_FLOAT), (.ref w_FLOAT)])) (fun t h => XS.aloadN X15.here hx rfl (hb hby at_40) rfl rfl h) ?_
    refine own_by (f' := (mkF m 44 #[.val (.int p1), .val (.int (5 : Int32)), .val (.ref w_FLOAT), .val (.ref w_FLOAT)] [])) (fun t h => Jvm.RoadKit.acmp (g := (mkF m 41 #[.val (.int p1), .val (.int (5 : Int32)), .val (.ref w_FLOAT), .val (.ref w_FLOAT)] [(.ref w_FLOAT), (.ref w_FLOAT)])) X15 hx rfl rfl rfl (pc0 := 41) (pc' := 44) (same := true) rfl (hb hby at_41) rfl (decide_eq_true rfl) (by decide) (by decide) h) ?_
    refine own_by (f' := (mkF m 45 #[.val (.int p1), .val (.int (5 : Int32)), .val (.ref w_FLOAT), .val (.ref w_FLOAT)] [(.int (1 : Int32))])) (fun t h => XS.iconst X15.here hx rfl (hb hby at_44) h) ?_
    refine own_by (f' := (mkF m 49 #[.val (.int p1), .val (.int (5 : Int32)), .val (.ref w_FLOAT), .val (.ref w_FLOAT)] [(.int (1 : Int32))])) (fun t h => XS.goto X15.here hx rfl (pc0 := 45) (pc' := 49) rfl (hb hby at_45) (by decide) (by decide) h) ?_
    obtain ⟨fs, hr, hrun, hended, hW, hsame⟩ := X15.leave (v := some (.int (1 : Int32))) (fun h => by rw [Bd.returns] at h; cases h)
    refine own_mk ⟨_, _, retN X15 hx (t := .boolean) Bd.returns (by simp) (hb hby at_49) hr, hrun, hended, _, _, rfl, ?_, ⟨_, rfl⟩, hW, hsame.mono (by decide) (by decide)⟩
    show Q0 n0 _ T15.heap _
    rw [e15]
    exact ⟨rfl, N15⟩
  · refine own_by (f' := (mkF m 9 #[.val (.int p1), .val (.int (6 : Int32)), .unset, .unset] [(.int (6 : Int32))])) (fun t h => XS.iloadN X0.here hx rfl (hb hby at_8) rfl h) ?_
    obtain ⟨v16, _, ⟨T16, L16, k16, n16⟩, -, X16, ⟨Lc16, hQ16, l16, y16, z16⟩, st16⟩ := Jvm.LawKit.callS X0 hx (y := (⟨"com/example/subscript/subscript/KindEvaluatedAsPinLaw", "kindOf", "(I)Lcom/example/subscript/subscript/Type$Kind;"⟩ : MethodName)) hown (mvT hZ (hw _ (List.mem_of_getElem? (i := 1) rfl))) (mvT hZ (hw _ (List.mem_of_getElem? (i := 2) rfl))) (mvT hZ (hw _ (List.mem_of_getElem? (i := 3) rfl))) (mvT hZ (hw _ (List.mem_of_getElem? (i := 4) rfl))) (by decide) (backOf (W := 0) (rm1 l Z a0 hw [] (6 : Int32) w_BYTE w_SHORT w_CHAR w_INT w_LONG w_FLOAT w_DOUBLE w_BOOLEAN w_VOID w_CLASS w_PROGRAM_CLASS w_ARRAY w_NULL w_ERROR h0 n0 Z0 S_BYTE S_SHORT S_CHAR S_INT S_LONG S_FLOAT S_DOUBLE S_BOOLEAN S_VOID S_CLASS S_PROGRAM_CLASS S_ARRAY S_NULL S_ERROR) hZ (hw _ (List.mem_of_getElem? (i := 4) rfl)) (hw _ (List.mem_of_getElem? (i := 3) rfl)) (by decide) (by decide)) (g := (mkF m 9 #[.val (.int p1), .val (.int (6 : Int32)), .unset, .unset] [(.int (6 : Int32))])) rfl (by rw [hml]; rfl) (argsL := [(.int (6 : Int32))]) (rest := []) (lenOf own_pd1 rfl) rfl (by show 2 * 0 + _ ≤ _; exact Nat.le_of_eq rfl) (hb hby at_9) (fun _ _ => ⟨rfl, e0, (by decide : 0 + 0 ≤ _), (by decide : 0 + 0 ≤ _)⟩)
    dsimp only [Pt.U, Pt.locs, Pt.cells, Pt.slots] at X16 l16 y16 z16 st16 hQ16
    subst l16 y16 z16
    obtain ⟨hv16, Nc16, e16⟩ := hQ16
    have N16 := Fr.app N0 Nc16
    obtain rfl : v16 = some (.ref w_DOUBLE) := hv16.trans (by simp)
    refine own_by (f' := (mkF m 12 #[.val (.int p1), .val (.int (6 : Int32)), .unset, .unset] [(.ref w_DOUBLE)])) st16 ?_
    refine own_by (f' := (mkF m 13 #[.val (.int p1), .val (.int (6 : Int32)), .val (.ref w_DOUBLE), .unset] [])) (fun t h => XS.astoreN X16.here hx rfl (hb hby at_12) rfl rfl (l' := #[.val (.int p1), .val (.int (6 : Int32)), .val (.ref w_DOUBLE), .unset]) rfl h) ?_
    refine own_by (f' := (mkF m 14 #[.val (.int p1), .val (.int (6 : Int32)), .val (.ref w_DOUBLE), .unset] [(.int (6 : Int32))])) (fun t h => XS.iloadN X16.here hx rfl (hb hby at_13) rfl h) ?_
    refine own_by (f' := (mkF m 17 #[.val (.int p1), .val (.int (6 : Int32)), .val (.ref w_DOUBLE), .unset] [])) (fun t h => XS.ifNo X16.here hx rfl (hb hby at_14) rfl (by decide) h) ?_
    refine own_by (f' := (mkF m 18 #[.val (.int p1), .val (.int (6 : Int32)), .val (.ref w_DOUBLE), .unset] [(.int (6 : Int32))])) (fun t h => XS.iloadN X16.here hx rfl (hb hby at_17) rfl h) ?_
    refine own_by (f' := (mkF m 19 #[.val (.int p1), .val (.int (6 : Int32)), .val (.ref w_DOUBLE), .unset] [(.int (1 : Int32)), (.int (6 : Int32))])) (fun t h => XS.iconst X16.here hx rfl (hb hby at_18) h) ?_
    refine own_by (f' := (mkF m 22 #[.val (.int p1), .val (.int (6 : Int32)), .val (.ref w_DOUBLE), .unset] [])) (fun t h => XS.icmpNo X16.here hx rfl (hb hby at_19) rfl (by decide) h) ?_
    refine own_by (f' := (mkF m 23 #[.val (.int p1), .val (.int (6 : Int32)), .val (.ref w_DOUBLE), .unset] [(.int (6 : Int32))])) (fun t h => XS.iloadN X16.here hx rfl (hb hby at_22) rfl h) ?_
    refine own_by (f' := (mkF m 24 #[.val (.int p1), .val (.int (6 : Int32)), .val (.ref w_DOUBLE), .unset] [(.int (2 : Int32)), (.int (6 : Int32))])) (fun t h => XS.iconst X16.here hx rfl (hb hby at_23) h) ?_
    refine own_by (f' := (mkF m 34 #[.val (.int p1), .val (.int (6 : Int32)), .val (.ref w_DOUBLE), .unset] [])) (fun t h => XS.icmpYes X16.here hx rfl (pc0 := 24) (pc' := 34) rfl (hb hby at_24) rfl (by decide) (by decide) (by decide) h) ?_
    refine own_by (f' := (mkF m 35 #[.val (.int p1), .val (.int (6 : Int32)), .val (.ref w_DOUBLE), .unset] [(.ref w_DOUBLE)])) (fun t h => XS.aloadN X16.here hx rfl (hb hby at_34) rfl rfl h) ?_
    refine own_by (f' := (mkF m 36 #[.val (.int p1), .val (.int (6 : Int32)), .val (.ref w_DOUBLE), .val (.ref w_DOUBLE)] [])) (fun t h => XS.astoreN X16.here hx rfl (hb hby at_35) rfl rfl (l' := #[.val (.int p1), .val (.int (6 : Int32)), .val (.ref w_DOUBLE), .val (.ref w_DOUBLE)]) rfl h) ?_
    refine own_by (f' := (mkF m 37 #[.val (.int p1), .val (.int (6 : Int32)), .val (.ref w_DOUBLE), .val (.ref w_DOUBLE)] [(.ref w_DOUBLE)])) (fun t h => XS.aloadN X16.here hx rfl (hb hby at_36) rfl rfl h) ?_
    obtain ⟨cq17, kq17, q17a, q17b, q17c⟩ := isOf hZ e16 E_DOUBLE
    obtain ⟨v17, _, ⟨T17, L17, k17, n17⟩, -, X17, ⟨Lc17, hQ17, l17, y17, z17⟩, st17⟩ := X16.virtualBack hx (y := (⟨"com/example/subscript/subscript/Type$Kind", "evaluatedAs", "()Lcom/example/subscript/subscript/Type$Kind;"⟩ : MethodName)) (z := (⟨"com/example/subscript/subscript/Type$Kind", "evaluatedAs", "()Lcom/example/subscript/subscript/Type$Kind;"⟩ : MethodName)) hown (mvT hZ (hw _ (List.mem_of_getElem? (i := 10) rfl))) (mvT hZ (hw _ (List.mem_of_getElem? (i := 11) rfl))) (notFace_of_selects (args := #[]) (mvT hZ (hw _ (List.mem_of_getElem? (i := 13) rfl)))) (mvT hZ (hw _ (List.mem_of_getElem? (i := 13) rfl))) (mvT hZ (hw _ (List.mem_of_getElem? (i := 12) rfl))) (by decide) (backOf (W := 0) (rm2 l Z a0 hw [] w_DOUBLE w_INT (5 : Int32) h0 n0 Z0 S_INT F_rank_DOUBLE F_rank_INT) hZ (hw _ (List.mem_of_getElem? (i := 14) rfl)) (hw _ (List.mem_of_getElem? (i := 6) rfl)) (by decide) (by decide)) q17a q17c (g := (mkF m 37 #[.val (.int p1), .val (.int (6 : Int32)), .val (.ref w_DOUBLE), .val (.ref w_DOUBLE)] [(.ref w_DOUBLE)])) rfl (by rw [hml]; rfl) (Steps.refl _) (argsL := []) (rest := []) (lenOf own_pd2 rfl) rfl (by show 2 * 0 + _ ≤ _; exact Nat.le_of_eq rfl) (hb hby at_37) (fun _ _ => ⟨rfl, e16, (by decide : 0 + 0 ≤ _), (by decide : 0 + 0 ≤ _)⟩)
    dsimp only [Pt.U, Pt.locs, Pt.cells, Pt.slots] at X17 l17 y17 z17 st17 hQ17
    subst l17 y17 z17
    obtain ⟨hv17, Nc17, e17⟩ := hQ17
    have N17 := Fr.app N16 Nc17
    obtain rfl : v17 = some (.ref w_DOUBLE) := hv17.trans (congrArg (fun z => some (Value.ref z)) ((if_neg (by decide)).trans (if_neg (by decide))))
    refine own_by (f' := (mkF m 40 #[.val (.int p1), .val (.int (6 : Int32)), .val (.ref w_DOUBLE), .val (.ref w_DOUBLE)] [(.ref w_DOUBLE)])) (fun t h => st17.trans h) ?_
    refine own_by (f' := (mkF m 41 #[.val (.int p1), .val (.int (6 : Int32)), .val (.ref w_DOUBLE), .val (.ref w_DOUBLE)] [(.ref w_DOUBLE), (.ref w_DOUBLE)])) (fun t h => XS.aloadN X17.here hx rfl (hb hby at_40) rfl rfl h) ?_
    refine own_by (f' := (mkF m 44 #[.val (.int p1), .val (.int (6 : Int32)), .val (.ref w_DOUBLE), .val (.ref w_DOUBLE)] [])) (fun t h => Jvm.RoadKit.acmp (g := (mkF m 41 #[.val (.int p1), .val (.int (6 : Int32)), .val (.ref w_DOUBLE), .val (.ref w_DOUBLE)] [(.ref w_DOUBLE), (.ref w_DOUBLE)])) X17 hx rfl rfl rfl (pc0 := 41) (pc' := 44) (same := true) rfl (hb hby at_41) rfl (decide_eq_true rfl) (by decide) (by decide) h) ?_
    refine own_by (f' := (mkF m 45 #[.val (.int p1), .val (.int (6 : Int32)), .val (.ref w_DOUBLE), .val (.ref w_DOUBLE)] [(.int (1 : Int32))])) (fun t h => XS.iconst X17.here hx rfl (hb hby at_44) h) ?_
    refine own_by (f' := (mkF m 49 #[.val (.int p1), .val (.int (6 : Int32)), .val (.ref w_DOUBLE), .val (.ref w_DOUBLE)] [(.int (1 : Int32))])) (fun t h => XS.goto X17.here hx rfl (pc0 := 45) (pc' := 49) rfl (hb hby at_45) (by decide) (by decide) h) ?_
    obtain ⟨fs, hr, hrun, hended, hW, hsame⟩ := X17.leave (v := some (.int (1 : Int32))) (fun h => by rw [Bd.returns] at h; cases h)
    refine own_mk ⟨_, _, retN X17 hx (t := .boolean) Bd.returns (by simp) (hb hby at_49) hr, hrun, hended, _, _, rfl, ?_, ⟨_, rfl⟩, hW, hsame.mono (by decide) (by decide)⟩
    show Q0 n0 _ T17.heap _
    rw [e17]
    exact ⟨rfl, N17⟩
  · refine own_by (f' := (mkF m 9 #[.val (.int p1), .val (.int (7 : Int32)), .unset, .unset] [(.int (7 : Int32))])) (fun t h => XS.iloadN X0.here hx rfl (hb hby at_8) rfl h) ?_
    obtain ⟨v18, _, ⟨T18, L18, k18, n18⟩, -, X18, ⟨Lc18, hQ18, l18, y18, z18⟩, st18⟩ := Jvm.LawKit.callS X0 hx (y := (⟨"com/example/subscript/subscript/KindEvaluatedAsPinLaw", "kindOf", "(I)Lcom/example/subscript/subscript/Type$Kind;"⟩ : MethodName)) hown (mvT hZ (hw _ (List.mem_of_getElem? (i := 1) rfl))) (mvT hZ (hw _ (List.mem_of_getElem? (i := 2) rfl))) (mvT hZ (hw _ (List.mem_of_getElem? (i := 3) rfl))) (mvT hZ (hw _ (List.mem_of_getElem? (i := 4) rfl))) (by decide) (backOf (W := 0) (rm1 l Z a0 hw [] (7 : Int32) w_BYTE w_SHORT w_CHAR w_INT w_LONG w_FLOAT w_DOUBLE w_BOOLEAN w_VOID w_CLASS w_PROGRAM_CLASS w_ARRAY w_NULL w_ERROR h0 n0 Z0 S_BYTE S_SHORT S_CHAR S_INT S_LONG S_FLOAT S_DOUBLE S_BOOLEAN S_VOID S_CLASS S_PROGRAM_CLASS S_ARRAY S_NULL S_ERROR) hZ (hw _ (List.mem_of_getElem? (i := 4) rfl)) (hw _ (List.mem_of_getElem? (i := 3) rfl)) (by decide) (by decide)) (g := (mkF m 9 #[.val (.int p1), .val (.int (7 : Int32)), .unset, .unset] [(.int (7 : Int32))])) rfl (by rw [hml]; rfl) (argsL := [(.int (7 : Int32))]) (rest := []) (lenOf own_pd1 rfl) rfl (by show 2 * 0 + _ ≤ _; exact Nat.le_of_eq rfl) (hb hby at_9) (fun _ _ => ⟨rfl, e0, (by decide : 0 + 0 ≤ _), (by decide : 0 + 0 ≤ _)⟩)
    dsimp only [Pt.U, Pt.locs, Pt.cells, Pt.slots] at X18 l18 y18 z18 st18 hQ18
    subst l18 y18 z18
    obtain ⟨hv18, Nc18, e18⟩ := hQ18
    have N18 := Fr.app N0 Nc18
    obtain rfl : v18 = some (.ref w_BOOLEAN) := hv18.trans (by simp)
    refine own_by (f' := (mkF m 12 #[.val (.int p1), .val (.int (7 : Int32)), .unset, .unset] [(.ref w_BOOLEAN)])) st18 ?_
    refine own_by (f' := (mkF m 13 #[.val (.int p1), .val (.int (7 : Int32)), .val (.ref w_BOOLEAN), .unset] [])) (fun t h => XS.astoreN X18.here hx rfl (hb hby at_12) rfl rfl (l' := #[.val (.int p1), .val (.int (7 : Int32)), .val (.ref w_BOOLEAN), .unset]) rfl h) ?_
    refine own_by (f' := (mkF m 14 #[.val (.int p1), .val (.int (7 : Int32)), .val (.ref w_BOOLEAN), .unset] [(.int (7 : Int32))])) (fun t h => XS.iloadN X18.here hx rfl (hb hby at_13) rfl h) ?_
    refine own_by (f' := (mkF m 17 #[.val (.int p1), .val (.int (7 : Int32)), .val (.ref w_BOOLEAN), .unset] [])) (fun t h => XS.ifNo X18.here hx rfl (hb hby at_14) rfl (by decide) h) ?_
    refine own_by (f' := (mkF m 18 #[.val (.int p1), .val (.int (7 : Int32)), .val (.ref w_BOOLEAN), .unset] [(.int (7 : Int32))])) (fun t h => XS.iloadN X18.here hx rfl (hb hby at_17) rfl h) ?_
    refine own_by (f' := (mkF m 19 #[.val (.int p1), .val (.int (7 : Int32)), .val (.ref w_BOOLEAN), .unset] [(.int (1 : Int32)), (.int (7 : Int32))])) (fun t h => XS.iconst X18.here hx rfl (hb hby at_18) h) ?_
    refine own_by (f' := (mkF m 22 #[.val (.int p1), .val (.int (7 : Int32)), .val (.ref w_BOOLEAN), .unset] [])) (fun t h => XS.icmpNo X18.here hx rfl (hb hby at_19) rfl (by decide) h) ?_
    refine own_by (f' := (mkF m 23 #[.val (.int p1), .val (.int (7 : Int32)), .val (.ref w_BOOLEAN), .unset] [(.int (7 : Int32))])) (fun t h => XS.iloadN X18.here hx rfl (hb hby at_22) rfl h) ?_
    refine own_by (f' := (mkF m 24 #[.val (.int p1), .val (.int (7 : Int32)), .val (.ref w_BOOLEAN), .unset] [(.int (2 : Int32)), (.int (7 : Int32))])) (fun t h => XS.iconst X18.here hx rfl (hb hby at_23) h) ?_
    refine own_by (f' := (mkF m 34 #[.val (.int p1), .val (.int (7 : Int32)), .val (.ref w_BOOLEAN), .unset] [])) (fun t h => XS.icmpYes X18.here hx rfl (pc0 := 24) (pc' := 34) rfl (hb hby at_24) rfl (by decide) (by decide) (by decide) h) ?_
    refine own_by (f' := (mkF m 35 #[.val (.int p1), .val (.int (7 : Int32)), .val (.ref w_BOOLEAN), .unset] [(.ref w_BOOLEAN)])) (fun t h => XS.aloadN X18.here hx rfl (hb hby at_34) rfl rfl h) ?_
    refine own_by (f' := (mkF m 36 #[.val (.int p1), .val (.int (7 : Int32)), .val (.ref w_BOOLEAN), .val (.ref w_BOOLEAN)] [])) (fun t h => XS.astoreN X18.here hx rfl (hb hby at_35) rfl rfl (l' := #[.val (.int p1), .val (.int (7 : Int32)), .val (.ref w_BOOLEAN), .val (.ref w_BOOLEAN)]) rfl h) ?_
    refine own_by (f' := (mkF m 37 #[.val (.int p1), .val (.int (7 : Int32)), .val (.ref w_BOOLEAN), .val (.ref w_BOOLEAN)] [(.ref w_BOOLEAN)])) (fun t h => XS.aloadN X18.here hx rfl (hb hby at_36) rfl rfl h) ?_
    obtain ⟨cq19, kq19, q19a, q19b, q19c⟩ := isOf hZ e18 E_BOOLEAN
    obtain ⟨v19, _, ⟨T19, L19, k19, n19⟩, -, X19, ⟨Lc19, hQ19, l19, y19, z19⟩, st19⟩ := X18.virtualBack hx (y := (⟨"com/example/subscript/subscript/Type$Kind", "evaluatedAs", "()Lcom/example/subscript/subscript/Type$Kind;"⟩ : MethodName)) (z := (⟨"com/example/subscript/subscript/Type$Kind", "evaluatedAs", "()Lcom/example/subscript/subscript/Type$Kind;"⟩ : MethodName)) hown (mvT hZ (hw _ (List.mem_of_getElem? (i := 10) rfl))) (mvT hZ (hw _ (List.mem_of_getElem? (i := 11) rfl))) (notFace_of_selects (args := #[]) (mvT hZ (hw _ (List.mem_of_getElem? (i := 13) rfl)))) (mvT hZ (hw _ (List.mem_of_getElem? (i := 13) rfl))) (mvT hZ (hw _ (List.mem_of_getElem? (i := 12) rfl))) (by decide) (backOf (W := 0) (rm2 l Z a0 hw [] w_BOOLEAN w_INT (-1 : Int32) h0 n0 Z0 S_INT F_rank_BOOLEAN F_rank_INT) hZ (hw _ (List.mem_of_getElem? (i := 14) rfl)) (hw _ (List.mem_of_getElem? (i := 6) rfl)) (by decide) (by decide)) q19a q19c (g := (mkF m 37 #[.val (.int p1), .val (.int (7 : Int32)), .val (.ref w_BOOLEAN), .val (.ref w_BOOLEAN)] [(.ref w_BOOLEAN)])) rfl (by rw [hml]; rfl) (Steps.refl _) (argsL := []) (rest := []) (lenOf own_pd2 rfl) rfl (by show 2 * 0 + _ ≤ _; exact Nat.le_of_eq rfl) (hb hby at_37) (fun _ _ => ⟨rfl, e18, (by decide : 0 + 0 ≤ _), (by decide : 0 + 0 ≤ _)⟩)
    dsimp only [Pt.U, Pt.locs, Pt.cells, Pt.slots] at X19 l19 y19 z19 st19 hQ19
    subst l19 y19 z19
    obtain ⟨hv19, Nc19, e19⟩ := hQ19
    have N19 := Fr.app N18 Nc19
    obtain rfl : v19 = some (.ref w_BOOLEAN) := hv19.trans (congrArg (fun z => some (Value.ref z)) (if_pos (by decide)))
    refine own_by (f' := (mkF m 40 #[.val (.int p1), .val (.int (7 : Int32)), .val (.ref w_BOOLEAN), .val (.ref w_BOOLEAN)] [(.ref w_BOOLEAN)])) (fun t h => st19.trans h) ?_
    refine own_by (f' := (mkF m 41 #[.val (.int p1), .val (.int (7 : Int32)), .val (.ref w_BOOLEAN), .val (.ref w_BOOLEAN)] [(.ref w_BOOLEAN), (.ref w_BOOLEAN)])) (fun t h => XS.aloadN X19.here hx rfl (hb hby at_40) rfl rfl h) ?_
    refine own_by (f' := (mkF m 44 #[.val (.int p1), .val (.int (7 : Int32)), .val (.ref w_BOOLEAN), .val (.ref w_BOOLEAN)] [])) (fun t h => Jvm.RoadKit.acmp (g := (mkF m 41 #[.val (.int p1), .val (.int (7 : Int32)), .val (.ref w_BOOLEAN), .val (.ref w_BOOLEAN)] [(.ref w_BOOLEAN), (.ref w_BOOLEAN)])) X19 hx rfl rfl rfl (pc0 := 41) (pc' := 44) (same := true) rfl (hb hby at_41) rfl (decide_eq_true rfl) (by decide) (by decide) h) ?_
    refine own_by (f' := (mkF m 45 #[.val (.int p1), .val (.int (7 : Int32)), .val (.ref w_BOOLEAN), .val (.ref w_BOOLEAN)] [(.int (1 : Int32))])) (fun t h => XS.iconst X19.here hx rfl (hb hby at_44) h) ?_
    refine own_by (f' := (mkF m 49 #[.val (.int p1), .val (.int (7 : Int32)), .val (.ref w_BOOLEAN), .val (.ref w_BOOLEAN)] [(.int (1 : Int32))])) (fun t h => XS.goto X19.here hx rfl (pc0 := 45) (pc' := 49) rfl (hb hby at_45) (by decide) (by decide) h) ?_
    obtain ⟨fs, hr, hrun, hended, hW, hsame⟩ := X19.leave (v := some (.int (1 : Int32))) (fun h => by rw [Bd.returns] at h; cases h)
    refine own_mk ⟨_, _, retN X19 hx (t := .boolean) Bd.returns (by simp) (hb hby at_49) hr, hrun, hended, _, _, rfl, ?_, ⟨_, rfl⟩, hW, hsame.mono (by decide) (by decide)⟩
    show Q0 n0 _ T19.heap _
    rw [e19]
    exact ⟨rfl, N19⟩
  · refine own_by (f' := (mkF m 9 #[.val (.int p1), .val (.int (8 : Int32)), .unset, .unset] [(.int (8 : Int32))])) (fun t h => XS.iloadN X0.here hx rfl (hb hby at_8) rfl h) ?_
    obtain ⟨v20, _, ⟨T20, L20, k20, n20⟩, -, X20, ⟨Lc20, hQ20, l20, y20, z20⟩, st20⟩ := Jvm.LawKit.callS X0 hx (y := (⟨"com/example/subscript/subscript/KindEvaluatedAsPinLaw", "kindOf", "(I)Lcom/example/subscript/subscript/Type$Kind;"⟩ : MethodName)) hown (mvT hZ (hw _ (List.mem_of_getElem? (i := 1) rfl))) (mvT hZ (hw _ (List.mem_of_getElem? (i := 2) rfl))) (mvT hZ (hw _ (List.mem_of_getElem? (i := 3) rfl))) (mvT hZ (hw _ (List.mem_of_getElem? (i := 4) rfl))) (by decide) (backOf (W := 0) (rm1 l Z a0 hw [] (8 : Int32) w_BYTE w_SHORT w_CHAR w_INT w_LONG w_FLOAT w_DOUBLE w_BOOLEAN w_VOID w_CLASS w_PROGRAM_CLASS w_ARRAY w_NULL w_ERROR h0 n0 Z0 S_BYTE S_SHORT S_CHAR S_INT S_LONG S_FLOAT S_DOUBLE S_BOOLEAN S_VOID S_CLASS S_PROGRAM_CLASS S_ARRAY S_NULL S_ERROR) hZ (hw _ (List.mem_of_getElem? (i := 4) rfl)) (hw _ (List.mem_of_getElem? (i := 3) rfl)) (by decide) (by decide)) (g := (mkF m 9 #[.val (.int p1), .val (.int (8 : Int32)), .unset, .unset] [(.int (8 : Int32))])) rfl (by rw [hml]; rfl) (argsL := [(.int (8 : Int32))]) (rest := []) (lenOf own_pd1 rfl) rfl (by show 2 * 0 + _ ≤ _; exact Nat.le_of_eq rfl) (hb hby at_9) (fun _ _ => ⟨rfl, e0, (by decide : 0 + 0 ≤ _), (by decide : 0 + 0 ≤ _)⟩)
    dsimp only [Pt.U, Pt.locs, Pt.cells, Pt.slots] at X20 l20 y20 z20 st20 hQ20
    subst l20 y20 z20
    obtain ⟨hv20, Nc20, e20⟩ := hQ20
    have N20 := Fr.app N0 Nc20
    obtain rfl : v20 = some (.ref w_VOID) := hv20.trans (by simp)
    refine own_by (f' := (mkF m 12 #[.val (.int p1), .val (.int (8 : Int32)), .unset, .unset] [(.ref w_VOID)])) st20 ?_
    refine own_by (f' := (mkF m 13 #[.val (.int p1), .val (.int (8 : Int32)), .val (.ref w_VOID), .unset] [])) (fun t h => XS.astoreN X20.here hx rfl (hb hby at_12) rfl rfl (l' := #[.val (.int p1), .val (.int (8 : Int32)), .val (.ref w_VOID), .unset]) rfl h) ?_
    refine own_by (f' := (mkF m 14 #[.val (.int p1), .val (.int (8 : Int32)), .val (.ref w_VOID), .unset] [(.int (8 : Int32))])) (fun t h => XS.iloadN X20.here hx rfl (hb hby at_13) rfl h) ?_
    refine own_by (f' := (mkF m 17 #[.val (.int p1), .val (.int (8 : Int32)), .val (.ref w_VOID), .unset] [])) (fun t h => XS.ifNo X20.here hx rfl (hb hby at_14) rfl (by decide) h) ?_
    refine own_by (f' := (mkF m 18 #[.val (.int p1), .val (.int (8 : Int32)), .val (.ref w_VOID), .unset] [(.int (8 : Int32))])) (fun t h => XS.iloadN X20.here hx rfl (hb hby at_17) rfl h) ?_
    refine own_by (f' := (mkF m 19 #[.val (.int p1), .val (.int (8 : Int32)), .val (.ref w_VOID), .unset] [(.int (1 : Int32)), (.int (8 : Int32))])) (fun t h => XS.iconst X20.here hx rfl (hb hby at_18) h) ?_
    refine own_by (f' := (mkF m 22 #[.val (.int p1), .val (.int (8 : Int32)), .val (.ref w_VOID), .unset] [])) (fun t h => XS.icmpNo X20.here hx rfl (hb hby at_19) rfl (by decide) h) ?_
    refine own_by (f' := (mkF m 23 #[.val (.int p1), .val (.int (8 : Int32)), .val (.ref w_VOID), .unset] [(.int (8 : Int32))])) (fun t h => XS.iloadN X20.here hx rfl (hb hby at_22) rfl h) ?_
    refine own_by (f' := (mkF m 24 #[.val (.int p1), .val (.int (8 : Int32)), .val (.ref w_VOID), .unset] [(.int (2 : Int32)), (.int (8 : Int32))])) (fun t h => XS.iconst X20.here hx rfl (hb hby at_23) h) ?_
    refine own_by (f' := (mkF m 34 #[.val (.int p1), .val (.int (8 : Int32)), .val (.ref w_VOID), .unset] [])) (fun t h => XS.icmpYes X20.here hx rfl (pc0 := 24) (pc' := 34) rfl (hb hby at_24) rfl (by decide) (by decide) (by decide) h) ?_
    refine own_by (f' := (mkF m 35 #[.val (.int p1), .val (.int (8 : Int32)), .val (.ref w_VOID), .unset] [(.ref w_VOID)])) (fun t h => XS.aloadN X20.here hx rfl (hb hby at_34) rfl rfl h) ?_
    refine own_by (f' := (mkF m 36 #[.val (.int p1), .val (.int (8 : Int32)), .val (.ref w_VOID), .val (.ref w_VOID)] [])) (fun t h => XS.astoreN X20.here hx rfl (hb hby at_35) rfl rfl (l' := #[.val (.int p1), .val (.int (8 : Int32)), .val (.ref w_VOID), .val (.ref w_VOID)]) rfl h) ?_
    refine own_by (f' := (mkF m 37 #[.val (.int p1), .val (.int (8 : Int32)), .val (.ref w_VOID), .val (.ref w_VOID)] [(.ref w_VOID)])) (fun t h => XS.aloadN X20.here hx rfl (hb hby at_36) rfl rfl h) ?_
    obtain ⟨cq21, kq21, q21a, q21b, q21c⟩ := isOf hZ e20 E_VOID
    obtain ⟨v21, _, ⟨T21, L21, k21, n21⟩, -, X21, ⟨Lc21, hQ21, l21, y21, z21⟩, st21⟩ := X20.virtualBack hx (y := (⟨"com/example/subscript/subscript/Type$Kind", "evaluatedAs", "()Lcom/example/subscript/subscript/Type$Kind;"⟩ : MethodName)) (z := (⟨"com/example/subscript/subscript/Type$Kind", "evaluatedAs", "()Lcom/example/subscript/subscript/Type$Kind;"⟩ : MethodName)) hown (mvT hZ (hw _ (List.mem_of_getElem? (i := 10) rfl))) (mvT hZ (hw _ (List.mem_of_getElem? (i := 11) rfl))) (notFace_of_selects (args := #[]) (mvT hZ (hw _ (List.mem_of_getElem? (i := 13) rfl)))) (mvT hZ (hw _ (List.mem_of_getElem? (i := 13) rfl))) (mvT hZ (hw _ (List.mem_of_getElem? (i := 12) rfl))) (by decide) (backOf (W := 0) (rm2 l Z a0 hw [] w_VOID w_INT (-1 : Int32) h0 n0 Z0 S_INT F_rank_VOID F_rank_INT) hZ (hw _ (List.mem_of_getElem? (i := 14) rfl)) (hw _ (List.mem_of_getElem? (i := 6) rfl)) (by decide) (by decide)) q21a q21c (g := (mkF m 37 #[.val (.int p1), .val (.int (8 : Int32)), .val (.ref w_VOID), .val (.ref w_VOID)] [(.ref w_VOID)])) rfl (by rw [hml]; rfl) (Steps.refl _) (argsL := []) (rest := []) (lenOf own_pd2 rfl) rfl (by show 2 * 0 + _ ≤ _; exact Nat.le_of_eq rfl) (hb hby at_37) (fun _ _ => ⟨rfl, e20, (by decide : 0 + 0 ≤ _), (by decide : 0 + 0 ≤ _)⟩)
    dsimp only [Pt.U, Pt.locs, Pt.cells, Pt.slots] at X21 l21 y21 z21 st21 hQ21
    subst l21 y21 z21
    obtain ⟨hv21, Nc21, e21⟩ := hQ21
    have N21 := Fr.app N20 Nc21
    obtain rfl : v21 = some (.ref w_VOID) := hv21.trans (congrArg (fun z => some (Value.ref z)) (if_pos (by decide)))
    refine own_by (f' := (mkF m 40 #[.val (.int p1), .val (.int (8 : Int32)), .val (.ref w_VOID), .val (.ref w_VOID)] [(.ref w_VOID)])) (fun t h => st21.trans h) ?_
    refine own_by (f' := (mkF m 41 #[.val (.int p1), .val (.int (8 : Int32)), .val (.ref w_VOID), .val (.ref w_VOID)] [(.ref w_VOID), (.ref w_VOID)])) (fun t h => XS.aloadN X21.here hx rfl (hb hby at_40) rfl rfl h) ?_
    refine own_by (f' := (mkF m 44 #[.val (.int p1), .val (.int (8 : Int32)), .val (.ref w_VOID), .val (.ref w_VOID)] [])) (fun t h => Jvm.RoadKit.acmp (g := (mkF m 41 #[.val (.int p1), .val (.int (8 : Int32)), .val (.ref w_VOID), .val (.ref w_VOID)] [(.ref w_VOID), (.ref w_VOID)])) X21 hx rfl rfl rfl (pc0 := 41) (pc' := 44) (same := true) rfl (hb hby at_41) rfl (decide_eq_true rfl) (by decide) (by decide) h) ?_
    refine own_by (f' := (mkF m 45 #[.val (.int p1), .val (.int (8 : Int32)), .val (.ref w_VOID), .val (.ref w_VOID)] [(.int (1 : Int32))])) (fun t h => XS.iconst X21.here hx rfl (hb hby at_44) h) ?_
    refine own_by (f' := (mkF m 49 #[.val (.int p1), .val (.int (8 : Int32)), .val (.ref w_VOID), .val (.ref w_VOID)] [(.int (1 : Int32))])) (fun t h => XS.goto X21.here hx rfl (pc0 := 45) (pc' := 49) rfl (hb hby at_45) (by decide) (by decide) h) ?_
    obtain ⟨fs, hr, hrun, hended, hW, hsame⟩ := X21.leave (v := some (.int (1 : Int32))) (fun h => by rw [Bd.returns] at h; cases h)
    refine own_mk ⟨_, _, retN X21 hx (t := .boolean) Bd.returns (by simp) (hb hby at_49) hr, hrun, hended, _, _, rfl, ?_, ⟨_, rfl⟩, hW, hsame.mono (by decide) (by decide)⟩
    show Q0 n0 _ T21.heap _
    rw [e21]
    exact ⟨rfl, N21⟩
  · refine own_by (f' := (mkF m 9 #[.val (.int p1), .val (.int (9 : Int32)), .unset, .unset] [(.int (9 : Int32))])) (fun t h => XS.iloadN X0.here hx rfl (hb hby at_8) rfl h) ?_
    obtain ⟨v22, _, ⟨T22, L22, k22, n22⟩, -, X22, ⟨Lc22, hQ22, l22, y22, z22⟩, st22⟩ := Jvm.LawKit.callS X0 hx (y := (⟨"com/example/subscript/subscript/KindEvaluatedAsPinLaw", "kindOf", "(I)Lcom/example/subscript/subscript/Type$Kind;"⟩ : MethodName)) hown (mvT hZ (hw _ (List.mem_of_getElem? (i := 1) rfl))) (mvT hZ (hw _ (List.mem_of_getElem? (i := 2) rfl))) (mvT hZ (hw _ (List.mem_of_getElem? (i := 3) rfl))) (mvT hZ (hw _ (List.mem_of_getElem? (i := 4) rfl))) (by decide) (backOf (W := 0) (rm1 l Z a0 hw [] (9 : Int32) w_BYTE w_SHORT w_CHAR w_INT w_LONG w_FLOAT w_DOUBLE w_BOOLEAN w_VOID w_CLASS w_PROGRAM_CLASS w_ARRAY w_NULL w_ERROR h0 n0 Z0 S_BYTE S_SHORT S_CHAR S_INT S_LONG S_FLOAT S_DOUBLE S_BOOLEAN S_VOID S_CLASS S_PROGRAM_CLASS S_ARRAY S_NULL S_ERROR) hZ (hw _ (List.mem_of_getElem? (i := 4) rfl)) (hw _ (List.mem_of_getElem? (i := 3) rfl)) (by decide) (by decide)) (g := (mkF m 9 #[.val (.int p1), .val (.int (9 : Int32)), .unset, .unset] [(.int (9 : Int32))])) rfl (by rw [hml]; rfl) (argsL := [(.int (9 : Int32))]) (rest := []) (lenOf own_pd1 rfl) rfl (by show 2 * 0 + _ ≤ _; exact Nat.le_of_eq rfl) (hb hby at_9) (fun _ _ => ⟨rfl, e0, (by decide : 0 + 0 ≤ _), (by decide : 0 + 0 ≤ _)⟩)
    dsimp only [Pt.U, Pt.locs, Pt.cells, Pt.slots] at X22 l22 y22 z22 st22 hQ22
    subst l22 y22 z22
    obtain ⟨hv22, Nc22, e22⟩ := hQ22
    have N22 := Fr.app N0 Nc22
    obtain rfl : v22 = some (.ref w_CLASS) := hv22.trans (by simp)
    refine own_by (f' := (mkF m 12 #[.val (.int p1), .val (.int (9 : Int32)), .unset, .unset] [(.ref w_CLASS)])) st22 ?_
    refine own_by (f' := (mkF m 13 #[.val (.int p1), .val (.int (9 : Int32)), .val (.ref w_CLASS), .unset] [])) (fun t h => XS.astoreN X22.here hx rfl (hb hby at_12) rfl rfl (l' := #[.val (.int p1), .val (.int (9 : Int32)), .val (.ref w_CLASS), .unset]) rfl h) ?_
    refine own_by (f' := (mkF m 14 #[.val (.int p1), .val (.int (9 : Int32)), .val (.ref w_CLASS), .unset] [(.int (9 : Int32))])) (fun t h => XS.iloadN X22.here hx rfl (hb hby at_13) rfl h) ?_
    refine own_by (f' := (mkF m 17 #[.val (.int p1), .val (.int (9 : Int32)), .val (.ref w_CLASS), .unset] [])) (fun t h => XS.ifNo X22.here hx rfl (hb hby at_14) rfl (by decide) h) ?_
    refine own_by (f' := (mkF m 18 #[.val (.int p1), .val (.int (9 : Int32)), .val (.ref w_CLASS), .unset] [(.int (9 : Int32))])) (fun t h => XS.iloadN X22.here hx rfl (hb hby at_17) rfl h) ?_
    refine own_by (f' := (mkF m 19 #[.val (.int p1), .val (.int (9 : Int32)), .val (.ref w_CLASS), .unset] [(.int (1 : Int32)), (.int (9 : Int32))])) (fun t h => XS.iconst X22.here hx rfl (hb hby at_18) h) ?_
    refine own_by (f' := (mkF m 22 #[.val (.int p1), .val (.int (9 : Int32)), .val (.ref w_CLASS), .unset] [])) (fun t h => XS.icmpNo X22.here hx rfl (hb hby at_19) rfl (by decide) h) ?_
    refine own_by (f' := (mkF m 23 #[.val (.int p1), .val (.int (9 : Int32)), .val (.ref w_CLASS), .unset] [(.int (9 : Int32))])) (fun t h => XS.iloadN X22.here hx rfl (hb hby at_22) rfl h) ?_
    refine own_by (f' := (mkF m 24 #[.val (.int p1), .val (.int (9 : Int32)), .val (.ref w_CLASS), .unset] [(.int (2 : Int32)), (.int (9 : Int32))])) (fun t h => XS.iconst X22.here hx rfl (hb hby at_23) h) ?_
    refine own_by (f' := (mkF m 34 #[.val (.int p1), .val (.int (9 : Int32)), .val (.ref w_CLASS), .unset] [])) (fun t h => XS.icmpYes X22.here hx rfl (pc0 := 24) (pc' := 34) rfl (hb hby at_24) rfl (by decide) (by decide) (by decide) h) ?_
    refine own_by (f' := (mkF m 35 #[.val (.int p1), .val (.int (9 : Int32)), .val (.ref w_CLASS), .unset] [(.ref w_CLASS)])) (fun t h => XS.aloadN X22.here hx rfl (hb hby at_34) rfl rfl h) ?_
    refine own_by (f' := (mkF m 36 #[.val (.int p1), .val (.int (9 : Int32)), .val (.ref w_CLASS), .val (.ref w_CLASS)] [])) (fun t h => XS.astoreN X22.here hx rfl (hb hby at_35) rfl rfl (l' := #[.val (.int p1), .val (.int (9 : Int32)), .val (.ref w_CLASS), .val (.ref w_CLASS)]) rfl h) ?_
    refine own_by (f' := (mkF m 37 #[.val (.int p1), .val (.int (9 : Int32)), .val (.ref w_CLASS), .val (.ref w_CLASS)] [(.ref w_CLASS)])) (fun t h => XS.aloadN X22.here hx rfl (hb hby at_36) rfl rfl h) ?_
    obtain ⟨cq23, kq23, q23a, q23b, q23c⟩ := isOf hZ e22 E_CLASS
    obtain ⟨v23, _, ⟨T23, L23, k23, n23⟩, -, X23, ⟨Lc23, hQ23, l23, y23, z23⟩, st23⟩ := X22.virtualBack hx (y := (⟨"com/example/subscript/subscript/Type$Kind", "evaluatedAs", "()Lcom/example/subscript/subscript/Type$Kind;"⟩ : MethodName)) (z := (⟨"com/example/subscript/subscript/Type$Kind", "evaluatedAs", "()Lcom/example/subscript/subscript/Type$Kind;"⟩ : MethodName)) hown (mvT hZ (hw _ (List.mem_of_getElem? (i := 10) rfl))) (mvT hZ (hw _ (List.mem_of_getElem? (i := 11) rfl))) (notFace_of_selects (args := #[]) (mvT hZ (hw _ (List.mem_of_getElem? (i := 13) rfl)))) (mvT hZ (hw _ (List.mem_of_getElem? (i := 13) rfl))) (mvT hZ (hw _ (List.mem_of_getElem? (i := 12) rfl))) (by decide) (backOf (W := 0) (rm2 l Z a0 hw [] w_CLASS w_INT (-1 : Int32) h0 n0 Z0 S_INT F_rank_CLASS F_rank_INT) hZ (hw _ (List.mem_of_getElem? (i := 14) rfl)) (hw _ (List.mem_of_getElem? (i := 6) rfl)) (by decide) (by decide)) q23a q23c (g := (mkF m 37 #[.val (.int p1), .val (.int (9 : Int32)), .val (.ref w_CLASS), .val (.ref w_CLASS)] [(.ref w_CLASS)])) rfl (by rw [hml]; rfl) (Steps.refl _) (argsL := []) (rest := []) (lenOf own_pd2 rfl) rfl (by show 2 * 0 + _ ≤ _; exact Nat.le_of_eq rfl) (hb hby at_37) (fun _ _ => ⟨rfl, e22, (by decide : 0 + 0 ≤ _), (by decide : 0 + 0 ≤ _)⟩)
    dsimp only [Pt.U, Pt.locs, Pt.cells, Pt.slots] at X23 l23 y23 z23 st23 hQ23
    subst l23 y23 z23
    obtain ⟨hv23, Nc23, e23⟩ := hQ23
    have N23 := Fr.app N22 Nc23
    obtain rfl : v23 = some (.ref w_CLASS) := hv23.trans (congrArg (fun z => some (Value.ref z)) (if_pos (by decide)))
    refine own_by (f' := (mkF m 40 #[.val (.int p1), .val (.int (9 : Int32)), .val (.ref w_CLASS), .val (.ref w_CLASS)] [(.ref w_CLASS)])) (fun t h => st23.trans h) ?_
    refine own_by (f' := (mkF m 41 #[.val (.int p1), .val (.int (9 : Int32)), .val (.ref w_CLASS), .val (.ref w_CLASS)] [(.ref w_CLASS), (.ref w_CLASS)])) (fun t h => XS.aloadN X23.here hx rfl (hb hby at_40) rfl rfl h) ?_
    refine own_by (f' := (mkF m 44 #[.val (.int p1), .val (.int (9 : Int32)), .val (.ref w_CLASS), .val (.ref w_CLASS)] [])) (fun t h => Jvm.RoadKit.acmp (g := (mkF m 41 #[.val (.int p1), .val (.int (9 : Int32)), .val (.ref w_CLASS), .val (.ref w_CLASS)] [(.ref w_CLASS), (.ref w_CLASS)])) X23 hx rfl rfl rfl (pc0 := 41) (pc' := 44) (same := true) rfl (hb hby at_41) rfl (decide_eq_true rfl) (by decide) (by decide) h) ?_
    refine own_by (f' := (mkF m 45 #[.val (.int p1), .val (.int (9 : Int32)), .val (.ref w_CLASS), .val (.ref w_CLASS)] [(.int (1 : Int32))])) (fun t h => XS.iconst X23.here hx rfl (hb hby at_44) h) ?_
    refine own_by (f' := (mkF m 49 #[.val (.int p1), .val (.int (9 : Int32)), .val (.ref w_CLASS), .val (.ref w_CLASS)] [(.int (1 : Int32))])) (fun t h => XS.goto X23.here hx rfl (pc0 := 45) (pc' := 49) rfl (hb hby at_45) (by decide) (by decide) h) ?_
    obtain ⟨fs, hr, hrun, hended, hW, hsame⟩ := X23.leave (v := some (.int (1 : Int32))) (fun h => by rw [Bd.returns] at h; cases h)
    refine own_mk ⟨_, _, retN X23 hx (t := .boolean) Bd.returns (by simp) (hb hby at_49) hr, hrun, hended, _, _, rfl, ?_, ⟨_, rfl⟩, hW, hsame.mono (by decide) (by decide)⟩
    show Q0 n0 _ T23.heap _
    rw [e23]
    exact ⟨rfl, N23⟩
  · refine own_by (f' := (mkF m 9 #[.val (.int p1), .val (.int (10 : Int32)), .unset, .unset] [(.int (10 : Int32))])) (fun t h => XS.iloadN X0.here hx rfl (hb hby at_8) rfl h) ?_
    obtain ⟨v24, _, ⟨T24, L24, k24, n24⟩, -, X24, ⟨Lc24, hQ24, l24, y24, z24⟩, st24⟩ := Jvm.LawKit.callS X0 hx (y := (⟨"com/example/subscript/subscript/KindEvaluatedAsPinLaw", "kindOf", "(I)Lcom/example/subscript/subscript/Type$Kind;"⟩ : MethodName)) hown (mvT hZ (hw _ (List.mem_of_getElem? (i := 1) rfl))) (mvT hZ (hw _ (List.mem_of_getElem? (i := 2) rfl))) (mvT hZ (hw _ (List.mem_of_getElem? (i := 3) rfl))) (mvT hZ (hw _ (List.mem_of_getElem? (i := 4) rfl))) (by decide) (backOf (W := 0) (rm1 l Z a0 hw [] (10 : Int32) w_BYTE w_SHORT w_CHAR w_INT w_LONG w_FLOAT w_DOUBLE w_BOOLEAN w_VOID w_CLASS w_PROGRAM_CLASS w_ARRAY w_NULL w_ERROR h0 n0 Z0 S_BYTE S_SHORT S_CHAR S_INT S_LONG S_FLOAT S_DOUBLE S_BOOLEAN S_VOID S_CLASS S_PROGRAM_CLASS S_ARRAY S_NULL S_ERROR) hZ (hw _ (List.mem_of_getElem? (i := 4) rfl)) (hw _ (List.mem_of_getElem? (i := 3) rfl)) (by decide) (by decide)) (g := (mkF m 9 #[.val (.int p1), .val (.int (10 : Int32)), .unset, .unset] [(.int (10 : Int32))])) rfl (by rw [hml]; rfl) (argsL := [(.int (10 : Int32))]) (rest := []) (lenOf own_pd1 rfl) rfl (by show 2 * 0 + _ ≤ _; exact Nat.le_of_eq rfl) (hb hby at_9) (fun _ _ => ⟨rfl, e0, (by decide : 0 + 0 ≤ _), (by decide : 0 + 0 ≤ _)⟩)
    dsimp only [Pt.U, Pt.locs, Pt.cells, Pt.slots] at X24 l24 y24 z24 st24 hQ24
    subst l24 y24 z24
    obtain ⟨hv24, Nc24, e24⟩ := hQ24
    have N24 := Fr.app N0 Nc24
    obtain rfl : v24 = some (.ref w_PROGRAM_CLASS) := hv24.trans (by simp)
    refine own_by (f' := (mkF m 12 #[.val (.int p1), .val (.int (10 : Int32)), .unset, .unset] [(.ref w_PROGRAM_CLASS)])) st24 ?_
    refine own_by (f' := (mkF m 13 #[.val (.int p1), .val (.int (10 : Int32)), .val (.ref w_PROGRAM_CLASS), .unset] [])) (fun t h => XS.astoreN X24.here hx rfl (hb hby at_12) rfl rfl (l' := #[.val (.int p1), .val (.int (10 : Int32)), .val (.ref w_PROGRAM_CLASS), .unset]) rfl h) ?_
    refine own_by (f' := (mkF m 14 #[.val (.int p1), .val (.int (10 : Int32)), .val (.ref w_PROGRAM_CLASS), .unset] [(.int (10 : Int32))])) (fun t h => XS.iloadN X24.here hx rfl (hb hby at_13) rfl h) ?_
    refine own_by (f' := (mkF m 17 #[.val (.int p1), .val (.int (10 : Int32)), .val (.ref w_PROGRAM_CLASS), .unset] [])) (fun t h => XS.ifNo X24.here hx rfl (hb hby at_14) rfl (by decide) h) ?_
    refine own_by (f' := (mkF m 18 #[.val (.int p1), .val (.int (10 : Int32)), .val (.ref w_PROGRAM_CLASS), .unset] [(.int (10 : Int32))])) (fun t h => XS.iloadN X24.here hx rfl (hb hby at_17) rfl h) ?_
    refine own_by (f' := (mkF m 19 #[.val (.int p1), .val (.int (10 : Int32)), .val (.ref w_PROGRAM_CLASS), .unset] [(.int (1 : Int32)), (.int (10 : Int32))])) (fun t h => XS.iconst X24.here hx rfl (hb hby at_18) h) ?_
    refine own_by (f' := (mkF m 22 #[.val (.int p1), .val (.int (10 : Int32)), .val (.ref w_PROGRAM_CLASS), .unset] [])) (fun t h => XS.icmpNo X24.here hx rfl (hb hby at_19) rfl (by decide) h) ?_
    refine own_by (f' := (mkF m 23 #[.val (.int p1), .val (.int (10 : Int32)), .val (.ref w_PROGRAM_CLASS), .unset] [(.int (10 : Int32))])) (fun t h => XS.iloadN X24.here hx rfl (hb hby at_22) rfl h) ?_
    refine own_by (f' := (mkF m 24 #[.val (.int p1), .val (.int (10 : Int32)), .val (.ref w_PROGRAM_CLASS), .unset] [(.int (2 : Int32)), (.int (10 : Int32))])) (fun t h => XS.iconst X24.here hx rfl (hb hby at_23) h) ?_
    refine own_by (f' := (mkF m 34 #[.val (.int p1), .val (.int (10 : Int32)), .val (.ref w_PROGRAM_CLASS), .unset] [])) (fun t h => XS.icmpYes X24.here hx rfl (pc0 := 24) (pc' := 34) rfl (hb hby at_24) rfl (by decide) (by decide) (by decide) h) ?_
    refine own_by (f' := (mkF m 35 #[.val (.int p1), .val (.int (10 : Int32)), .val (.ref w_PROGRAM_CLASS), .unset] [(.ref w_PROGRAM_CLASS)])) (fun t h => XS.aloadN X24.here hx rfl (hb hby at_34) rfl rfl h) ?_
    refine own_by (f' := (mkF m 36 #[.val (.int p1), .val (.int (10 : Int32)), .val (.ref w_PROGRAM_CLASS), .val (.ref w_PROGRAM_CLASS)] [])) (fun t h => XS.astoreN X24.here hx rfl (hb hby at_35) rfl rfl (l' := #[.val (.int p1), .val (.int (10 : Int32)), .val (.ref w_PROGRAM_CLASS), .val (.ref w_PROGRAM_CLASS)]) rfl h) ?_
    refine own_by (f' := (mkF m 37 #[.val (.int p1), .val (.int (10 : Int32)), .val (.ref w_PROGRAM_CLASS), .val (.ref w_PROGRAM_CLASS)] [(.ref w_PROGRAM_CLASS)])) (fun t h => XS.aloadN X24.here hx rfl (hb hby at_36) rfl rfl h) ?_
    obtain ⟨cq25, kq25, q25a, q25b, q25c⟩ := isOf hZ e24 E_PROGRAM_CLASS
    obtain ⟨v25, _, ⟨T25, L25, k25, n25⟩, -, X25, ⟨Lc25, hQ25, l25, y25, z25⟩, st25⟩ := X24.virtualBack hx (y := (⟨"com/example/subscript/subscript/Type$Kind", "evaluatedAs", "()Lcom/example/subscript/subscript/Type$Kind;"⟩ : MethodName)) (z := (⟨"com/example/subscript/subscript/Type$Kind", "evaluatedAs", "()Lcom/example/subscript/subscript/Type$Kind;"⟩ : MethodName)) hown (mvT hZ (hw _ (List.mem_of_getElem? (i := 10) rfl))) (mvT hZ (hw _ (List.mem_of_getElem? (i := 11) rfl))) (notFace_of_selects (args := #[]) (mvT hZ (hw _ (List.mem_of_getElem? (i := 13) rfl)))) (mvT hZ (hw _ (List.mem_of_getElem? (i := 13) rfl))) (mvT hZ (hw _ (List.mem_of_getElem? (i := 12) rfl))) (by decide) (backOf (W := 0) (rm2 l Z a0 hw [] w_PROGRAM_CLASS w_INT (-1 : Int32) h0 n0 Z0 S_INT F_rank_PROGRAM_CLASS F_rank_INT) hZ (hw _ (List.mem_of_getElem? (i := 14) rfl)) (hw _ (List.mem_of_getElem? (i := 6) rfl)) (by decide) (by decide)) q25a q25c (g := (mkF m 37 #[.val (.int p1), .val (.int (10 : Int32)), .val (.ref w_PROGRAM_CLASS), .val (.ref w_PROGRAM_CLASS)] [(.ref w_PROGRAM_CLASS)])) rfl (by rw [hml]; rfl) (Steps.refl _) (argsL := []) (rest := []) (lenOf own_pd2 rfl) rfl (by show 2 * 0 + _ ≤ _; exact Nat.le_of_eq rfl) (hb hby at_37) (fun _ _ => ⟨rfl, e24, (by decide : 0 + 0 ≤ _), (by decide : 0 + 0 ≤ _)⟩)
    dsimp only [Pt.U, Pt.locs, Pt.cells, Pt.slots] at X25 l25 y25 z25 st25 hQ25
    subst l25 y25 z25
    obtain ⟨hv25, Nc25, e25⟩ := hQ25
    have N25 := Fr.app N24 Nc25
    obtain rfl : v25 = some (.ref w_PROGRAM_CLASS) := hv25.trans (congrArg (fun z => some (Value.ref z)) (if_pos (by decide)))
    refine own_by (f' := (mkF m 40 #[.val (.int p1), .val (.int (10 : Int32)), .val (.ref w_PROGRAM_CLASS), .val (.ref w_PROGRAM_CLASS)] [(.ref w_PROGRAM_CLASS)])) (fun t h => st25.trans h) ?_
    refine own_by (f' := (mkF m 41 #[.val (.int p1), .val (.int (10 : Int32)), .val (.ref w_PROGRAM_CLASS), .val (.ref w_PROGRAM_CLASS)] [(.ref w_PROGRAM_CLASS), (.ref w_PROGRAM_CLASS)])) (fun t h => XS.aloadN X25.here hx rfl (hb hby at_40) rfl rfl h) ?_
    refine own_by (f' := (mkF m 44 #[.val (.int p1), .val (.int (10 : Int32)), .val (.ref w_PROGRAM_CLASS), .val (.ref w_PROGRAM_CLASS)] [])) (fun t h => Jvm.RoadKit.acmp (g := (mkF m 41 #[.val (.int p1), .val (.int (10 : Int32)), .val (.ref w_PROGRAM_CLASS), .val (.ref w_PROGRAM_CLASS)] [(.ref w_PROGRAM_CLASS), (.ref w_PROGRAM_CLASS)])) X25 hx rfl rfl rfl (pc0 := 41) (pc' := 44) (same := true) rfl (hb hby at_41) rfl (decide_eq_true rfl) (by decide) (by decide) h) ?_
    refine own_by (f' := (mkF m 45 #[.val (.int p1), .val (.int (10 : Int32)), .val (.ref w_PROGRAM_CLASS), .val (.ref w_PROGRAM_CLASS)] [(.int (1 : Int32))])) (fun t h => XS.iconst X25.here hx rfl (hb hby at_44) h) ?_
    refine own_by (f' := (mkF m 49 #[.val (.int p1), .val (.int (10 : Int32)), .val (.ref w_PROGRAM_CLASS), .val (.ref w_PROGRAM_CLASS)] [(.int (1 : Int32))])) (fun t h => XS.goto X25.here hx rfl (pc0 := 45) (pc' := 49) rfl (hb hby at_45) (by decide) (by decide) h) ?_
    obtain ⟨fs, hr, hrun, hended, hW, hsame⟩ := X25.leave (v := some (.int (1 : Int32))) (fun h => by rw [Bd.returns] at h; cases h)
    refine own_mk ⟨_, _, retN X25 hx (t := .boolean) Bd.returns (by simp) (hb hby at_49) hr, hrun, hended, _, _, rfl, ?_, ⟨_, rfl⟩, hW, hsame.mono (by decide) (by decide)⟩
    show Q0 n0 _ T25.heap _
    rw [e25]
    exact ⟨rfl, N25⟩
  · refine own_by (f' := (mkF m 9 #[.val (.int p1), .val (.int (11 : Int32)), .unset, .unset] [(.int (11 : Int32))])) (fun t h => XS.iloadN X0.here hx rfl (hb hby at_8) rfl h) ?_
    obtain ⟨v26, _, ⟨T26, L26, k26, n26⟩, -, X26, ⟨Lc26, hQ26, l26, y26, z26⟩, st26⟩ := Jvm.LawKit.callS X0 hx (y := (⟨"com/example/subscript/subscript/KindEvaluatedAsPinLaw", "kindOf", "(I)Lcom/example/subscript/subscript/Type$Kind;"⟩ : MethodName)) hown (mvT hZ (hw _ (List.mem_of_getElem? (i := 1) rfl))) (mvT hZ (hw _ (List.mem_of_getElem? (i := 2) rfl))) (mvT hZ (hw _ (List.mem_of_getElem? (i := 3) rfl))) (mvT hZ (hw _ (List.mem_of_getElem? (i := 4) rfl))) (by decide) (backOf (W := 0) (rm1 l Z a0 hw [] (11 : Int32) w_BYTE w_SHORT w_CHAR w_INT w_LONG w_FLOAT w_DOUBLE w_BOOLEAN w_VOID w_CLASS w_PROGRAM_CLASS w_ARRAY w_NULL w_ERROR h0 n0 Z0 S_BYTE S_SHORT S_CHAR S_INT S_LONG S_FLOAT S_DOUBLE S_BOOLEAN S_VOID S_CLASS S_PROGRAM_CLASS S_ARRAY S_NULL S_ERROR) hZ (hw _ (List.mem_of_getElem? (i := 4) rfl)) (hw _ (List.mem_of_getElem? (i := 3) rfl)) (by decide) (by decide)) (g := (mkF m 9 #[.val (.int p1), .val (.int (11 : Int32)), .unset, .unset] [(.int (11 : Int32))])) rfl (by rw [hml]; rfl) (argsL := [(.int (11 : Int32))]) (rest := []) (lenOf own_pd1 rfl) rfl (by show 2 * 0 + _ ≤ _; exact Nat.le_of_eq rfl) (hb hby at_9) (fun _ _ => ⟨rfl, e0, (by decide : 0 + 0 ≤ _), (by decide : 0 + 0 ≤ _)⟩)
    dsimp only [Pt.U, Pt.locs, Pt.cells, Pt.slots] at X26 l26 y26 z26 st26 hQ26
    subst l26 y26 z26
    obtain ⟨hv26, Nc26, e26⟩ := hQ26
    have N26 := Fr.app N0 Nc26
    obtain rfl : v26 = some (.ref w_ARRAY) := hv26.trans (by simp)
    refine own_by (f' := (mkF m 12 #[.val (.int p1), .val (.int (11 : Int32)), .unset, .unset] [(.ref w_ARRAY)])) st26 ?_
    refine own_by (f' := (mkF m 13 #[.val (.int p1), .val (.int (11 : Int32)), .val (.ref w_ARRAY), .unset] [])) (fun t h => XS.astoreN X26.here hx rfl (hb hby at_12) rfl rfl (l' := #[.val (.int p1), .val (.int (11 : Int32)), .val (.ref w_ARRAY), .unset]) rfl h) ?_
    refine own_by (f' := (mkF m 14 #[.val (.int p1), .val (.int (11 : Int32)), .val (.ref w_ARRAY), .unset] [(.int (11 : Int32))])) (fun t h => XS.iloadN X26.here hx rfl (hb hby at_13) rfl h) ?_
    refine own_by (f' := (mkF m 17 #[.val (.int p1), .val (.int (11 : Int32)), .val (.ref w_ARRAY), .unset] [])) (fun t h => XS.ifNo X26.here hx rfl (hb hby at_14) rfl (by decide) h) ?_
    refine own_by (f' := (mkF m 18 #[.val (.int p1), .val (.int (11 : Int32)), .val (.ref w_ARRAY), .unset] [(.int (11 : Int32))])) (fun t h => XS.iloadN X26.here hx rfl (hb hby at_17) rfl h) ?_
    refine own_by (f' := (mkF m 19 #[.val (.int p1), .val (.int (11 : Int32)), .val (.ref w_ARRAY), .unset] [(.int (1 : Int32)), (.int (11 : Int32))])) (fun t h => XS.iconst X26.here hx rfl (hb hby at_18) h) ?_
    refine own_by (f' := (mkF m 22 #[.val (.int p1), .val (.int (11 : Int32)), .val (.ref w_ARRAY), .unset] [])) (fun t h => XS.icmpNo X26.here hx rfl (hb hby at_19) rfl (by decide) h) ?_
    refine own_by (f' := (mkF m 23 #[.val (.int p1), .val (.int (11 : Int32)), .val (.ref w_ARRAY), .unset] [(.int (11 : Int32))])) (fun t h => XS.iloadN X26.here hx rfl (hb hby at_22) rfl h) ?_
    refine own_by (f' := (mkF m 24 #[.val (.int p1), .val (.int (11 : Int32)), .val (.ref w_ARRAY), .unset] [(.int (2 : Int32)), (.int (11 : Int32))])) (fun t h => XS.iconst X26.here hx rfl (hb hby at_23) h) ?_
    refine own_by (f' := (mkF m 34 #[.val (.int p1), .val (.int (11 : Int32)), .val (.ref w_ARRAY), .unset] [])) (fun t h => XS.icmpYes X26.here hx rfl (pc0 := 24) (pc' := 34) rfl (hb hby at_24) rfl (by decide) (by decide) (by decide) h) ?_
    refine own_by (f' := (mkF m 35 #[.val (.int p1), .val (.int (11 : Int32)), .val (.ref w_ARRAY), .unset] [(.ref w_ARRAY)])) (fun t h => XS.aloadN X26.here hx rfl (hb hby at_34) rfl rfl h) ?_
    refine own_by (f' := (mkF m 36 #[.val (.int p1), .val (.int (11 : Int32)), .val (.ref w_ARRAY), .val (.ref w_ARRAY)] [])) (fun t h => XS.astoreN X26.here hx rfl (hb hby at_35) rfl rfl (l' := #[.val (.int p1), .val (.int (11 : Int32)), .val (.ref w_ARRAY), .val (.ref w_ARRAY)]) rfl h) ?_
    refine own_by (f' := (mkF m 37 #[.val (.int p1), .val (.int (11 : Int32)), .val (.ref w_ARRAY), .val (.ref w_ARRAY)] [(.ref w_ARRAY)])) (fun t h => XS.aloadN X26.here hx rfl (hb hby at_36) rfl rfl h) ?_
    obtain ⟨cq27, kq27, q27a, q27b, q27c⟩ := isOf hZ e26 E_ARRAY
    obtain ⟨v27, _, ⟨T27, L27, k27, n27⟩, -, X27, ⟨Lc27, hQ27, l27, y27, z27⟩, st27⟩ := X26.virtualBack hx (y := (⟨"com/example/subscript/subscript/Type$Kind", "evaluatedAs", "()Lcom/example/subscript/subscript/Type$Kind;"⟩ : MethodName)) (z := (⟨"com/example/subscript/subscript/Type$Kind", "evaluatedAs", "()Lcom/example/subscript/subscript/Type$Kind;"⟩ : MethodName)) hown (mvT hZ (hw _ (List.mem_of_getElem? (i := 10) rfl))) (mvT hZ (hw _ (List.mem_of_getElem? (i := 11) rfl))) (notFace_of_selects (args := #[]) (mvT hZ (hw _ (List.mem_of_getElem? (i := 13) rfl)))) (mvT hZ (hw _ (List.mem_of_getElem? (i := 13) rfl))) (mvT hZ (hw _ (List.mem_of_getElem? (i := 12) rfl))) (by decide) (backOf (W := 0) (rm2 l Z a0 hw [] w_ARRAY w_INT (-1 : Int32) h0 n0 Z0 S_INT F_rank_ARRAY F_rank_INT) hZ (hw _ (List.mem_of_getElem? (i := 14) rfl)) (hw _ (List.mem_of_getElem? (i := 6) rfl)) (by decide) (by decide)) q27a q27c (g := (mkF m 37 #[.val (.int p1), .val (.int (11 : Int32)), .val (.ref w_ARRAY), .val (.ref w_ARRAY)] [(.ref w_ARRAY)])) rfl (by rw [hml]; rfl) (Steps.refl _) (argsL := []) (rest := []) (lenOf own_pd2 rfl) rfl (by show 2 * 0 + _ ≤ _; exact Nat.le_of_eq rfl) (hb hby at_37) (fun _ _ => ⟨rfl, e26, (by decide : 0 + 0 ≤ _), (by decide : 0 + 0 ≤ _)⟩)
    dsimp only [Pt.U, Pt.locs, Pt.cells, Pt.slots] at X27 l27 y27 z27 st27 hQ27
    subst l27 y27 z27
    obtain ⟨hv27, Nc27, e27⟩ := hQ27
    have N27 := Fr.app N26 Nc27
    obtain rfl : v27 = some (.ref w_ARRAY) := hv27.trans (congrArg (fun z => some (Value.ref z)) (if_pos (by decide)))
    refine own_by (f' := (mkF m 40 #[.val (.int p1), .val (.int (11 : Int32)), .val (.ref w_ARRAY), .val (.ref w_ARRAY)] [(.ref w_ARRAY)])) (fun t h => st27.trans h) ?_
    refine own_by (f' := (mkF m 41 #[.val (.int p1), .val (.int (11 : Int32)), .val (.ref w_ARRAY), .val (.ref w_ARRAY)] [(.ref w_ARRAY), (.ref w_ARRAY)])) (fun t h => XS.aloadN X27.here hx rfl (hb hby at_40) rfl rfl h) ?_
    refine own_by (f' := (mkF m 44 #[.val (.int p1), .val (.int (11 : Int32)), .val (.ref w_ARRAY), .val (.ref w_ARRAY)] [])) (fun t h => Jvm.RoadKit.acmp (g := (mkF m 41 #[.val (.int p1), .val (.int (11 : Int32)), .val (.ref w_ARRAY), .val (.ref w_ARRAY)] [(.ref w_ARRAY), (.ref w_ARRAY)])) X27 hx rfl rfl rfl (pc0 := 41) (pc' := 44) (same := true) rfl (hb hby at_41) rfl (decide_eq_true rfl) (by decide) (by decide) h) ?_
    refine own_by (f' := (mkF m 45 #[.val (.int p1), .val (.int (11 : Int32)), .val (.ref w_ARRAY), .val (.ref w_ARRAY)] [(.int (1 : Int32))])) (fun t h => XS.iconst X27.here hx rfl (hb hby at_44) h) ?_
    refine own_by (f' := (mkF m 49 #[.val (.int p1), .val (.int (11 : Int32)), .val (.ref w_ARRAY), .val (.ref w_ARRAY)] [(.int (1 : Int32))])) (fun t h => XS.goto X27.here hx rfl (pc0 := 45) (pc' := 49) rfl (hb hby at_45) (by decide) (by decide) h) ?_
    obtain ⟨fs, hr, hrun, hended, hW, hsame⟩ := X27.leave (v := some (.int (1 : Int32))) (fun h => by rw [Bd.returns] at h; cases h)
    refine own_mk ⟨_, _, retN X27 hx (t := .boolean) Bd.returns (by simp) (hb hby at_49) hr, hrun, hended, _, _, rfl, ?_, ⟨_, rfl⟩, hW, hsame.mono (by decide) (by decide)⟩
    show Q0 n0 _ T27.heap _
    rw [e27]
    exact ⟨rfl, N27⟩
  · refine own_by (f' := (mkF m 9 #[.val (.int p1), .val (.int (12 : Int32)), .unset, .unset] [(.int (12 : Int32))])) (fun t h => XS.iloadN X0.here hx rfl (hb hby at_8) rfl h) ?_
    obtain ⟨v28, _, ⟨T28, L28, k28, n28⟩, -, X28, ⟨Lc28, hQ28, l28, y28, z28⟩, st28⟩ := Jvm.LawKit.callS X0 hx (y := (⟨"com/example/subscript/subscript/KindEvaluatedAsPinLaw", "kindOf", "(I)Lcom/example/subscript/subscript/Type$Kind;"⟩ : MethodName)) hown (mvT hZ (hw _ (List.mem_of_getElem? (i := 1) rfl))) (mvT hZ (hw _ (List.mem_of_getElem? (i := 2) rfl))) (mvT hZ (hw _ (List.mem_of_getElem? (i := 3) rfl))) (mvT hZ (hw _ (List.mem_of_getElem? (i := 4) rfl))) (by decide) (backOf (W := 0) (rm1 l Z a0 hw [] (12 : Int32) w_BYTE w_SHORT w_CHAR w_INT w_LONG w_FLOAT w_DOUBLE w_BOOLEAN w_VOID w_CLASS w_PROGRAM_CLASS w_ARRAY w_NULL w_ERROR h0 n0 Z0 S_BYTE S_SHORT S_CHAR S_INT S_LONG S_FLOAT S_DOUBLE S_BOOLEAN S_VOID S_CLASS S_PROGRAM_CLASS S_ARRAY S_NULL S_ERROR) hZ (hw _ (List.mem_of_getElem? (i := 4) rfl)) (hw _ (List.mem_of_getElem? (i := 3) rfl)) (by decide) (by decide)) (g := (mkF m 9 #[.val (.int p1), .val (.int (12 : Int32)), .unset, .unset] [(.int (12 : Int32))])) rfl (by rw [hml]; rfl) (argsL := [(.int (12 : Int32))]) (rest := []) (lenOf own_pd1 rfl) rfl (by show 2 * 0 + _ ≤ _; exact Nat.le_of_eq rfl) (hb hby at_9) (fun _ _ => ⟨rfl, e0, (by decide : 0 + 0 ≤ _), (by decide : 0 + 0 ≤ _)⟩)
    dsimp only [Pt.U, Pt.locs, Pt.cells, Pt.slots] at X28 l28 y28 z28 st28 hQ28
    subst l28 y28 z28
    obtain ⟨hv28, Nc28, e28⟩ := hQ28
    have N28 := Fr.app N0 Nc28
    obtain rfl : v28 = some (.ref w_NULL) := hv28.trans (by simp)
    refine own_by (f' := (mkF m 12 #[.val (.int p1), .val (.int (12 : Int32)), .unset, .unset] [(.ref w_NULL)])) st28 ?_
    refine own_by (f' := (mkF m 13 #[.val (.int p1), .val (.int (12 : Int32)), .val (.ref w_NULL), .unset] [])) (fun t h => XS.astoreN X28.here hx rfl (hb hby at_12) rfl rfl (l' := #[.val (.int p1), .val (.int (12 : Int32)), .val (.ref w_NULL), .unset]) rfl h) ?_
    refine own_by (f' := (mkF m 14 #[.val (.int p1), .val (.int (12 : Int32)), .val (.ref w_NULL), .unset] [(.int (12 : Int32))])) (fun t h => XS.iloadN X28.here hx rfl (hb hby at_13) rfl h) ?_
    refine own_by (f' := (mkF m 17 #[.val (.int p1), .val (.int (12 : Int32)), .val (.ref w_NULL), .unset] [])) (fun t h => XS.ifNo X28.here hx rfl (hb hby at_14) rfl (by decide) h) ?_
    refine own_by (f' := (mkF m 18 #[.val (.int p1), .val (.int (12 : Int32)), .val (.ref w_NULL), .unset] [(.int (12 : Int32))])) (fun t h => XS.iloadN X28.here hx rfl (hb hby at_17) rfl h) ?_
    refine own_by (f' := (mkF m 19 #[.val (.int p1), .val (.int (12 : Int32)), .val (.ref w_NULL), .unset] [(.int (1 : Int32)), (.int (12 : Int32))])) (fun t h => XS.iconst X28.here hx rfl (hb hby at_18) h) ?_
    refine own_by (f' := (mkF m 22 #[.val (.int p1), .val (.int (12 : Int32)), .val (.ref w_NULL), .unset] [])) (fun t h => XS.icmpNo X28.here hx rfl (hb hby at_19) rfl (by decide) h) ?_
    refine own_by (f' := (mkF m 23 #[.val (.int p1), .val (.int (12 : Int32)), .val (.ref w_NULL), .unset] [(.int (12 : Int32))])) (fun t h => XS.iloadN X28.here hx rfl (hb hby at_22) rfl h) ?_
    refine own_by (f' := (mkF m 24 #[.val (.int p1), .val (.int (12 : Int32)), .val (.ref w_NULL), .unset] [(.int (2 : Int32)), (.int (12 : Int32))])) (fun t h => XS.iconst X28.here hx rfl (hb hby at_23) h) ?_
    refine own_by (f' := (mkF m 34 #[.val (.int p1), .val (.int (12 : Int32)), .val (.ref w_NULL), .unset] [])) (fun t h => XS.icmpYes X28.here hx rfl (pc0 := 24) (pc' := 34) rfl (hb hby at_24) rfl (by decide) (by decide) (by decide) h) ?_
    refine own_by (f' := (mkF m 35 #[.val (.int p1), .val (.int (12 : Int32)), .val (.ref w_NULL), .unset] [(.ref w_NULL)])) (fun t h => XS.aloadN X28.here hx rfl (hb hby at_34) rfl rfl h) ?_
    refine own_by (f' := (mkF m 36 #[.val (.int p1), .val (.int (12 : Int32)), .val (.ref w_NULL), .val (.ref w_NULL)] [])) (fun t h => XS.astoreN X28.here hx rfl (hb hby at_35) rfl rfl (l' := #[.val (.int p1), .val (.int (12 : Int32)), .val (.ref w_NULL), .val (.ref w_NULL)]) rfl h) ?_
    refine own_by (f' := (mkF m 37 #[.val (.int p1), .val (.int (12 : Int32)), .val (.ref w_NULL), .val (.ref w_NULL)] [(.ref w_NULL)])) (fun t h => XS.aloadN X28.here hx rfl (hb hby at_36) rfl rfl h) ?_
    obtain ⟨cq29, kq29, q29a, q29b, q29c⟩ := isOf hZ e28 E_NULL
    obtain ⟨v29, _, ⟨T29, L29, k29, n29⟩, -, X29, ⟨Lc29, hQ29, l29, y29, z29⟩, st29⟩ := X28.virtualBack hx (y := (⟨"com/example/subscript/subscript/Type$Kind", "evaluatedAs", "()Lcom/example/subscript/subscript/Type$Kind;"⟩ : MethodName)) (z := (⟨"com/example/subscript/subscript/Type$Kind", "evaluatedAs", "()Lcom/example/subscript/subscript/Type$Kind;"⟩ : MethodName)) hown (mvT hZ (hw _ (List.mem_of_getElem? (i := 10) rfl))) (mvT hZ (hw _ (List.mem_of_getElem? (i := 11) rfl))) (notFace_of_selects (args := #[]) (mvT hZ (hw _ (List.mem_of_getElem? (i := 13) rfl)))) (mvT hZ (hw _ (List.mem_of_getElem? (i := 13) rfl))) (mvT hZ (hw _ (List.mem_of_getElem? (i := 12) rfl))) (by decide) (backOf (W := 0) (rm2 l Z a0 hw [] w_NULL w_INT (-1 : Int32) h0 n0 Z0 S_INT F_rank_NULL F_rank_INT) hZ (hw _ (List.mem_of_getElem? (i := 14) rfl)) (hw _ (List.mem_of_getElem? (i := 6) rfl)) (by decide) (by decide)) q29a q29c (g := (mkF m 37 #[.val (.int p1), .val (.int (12 : Int32)), .val (.ref w_NULL), .val (.ref w_NULL)] [(.ref w_NULL)])) rfl (by rw [hml]; rfl) (Steps.refl _) (argsL := []) (rest := []) (lenOf own_pd2 rfl) rfl (by show 2 * 0 + _ ≤ _; exact Nat.le_of_eq rfl) (hb hby at_37) (fun _ _ => ⟨rfl, e28, (by decide : 0 + 0 ≤ _), (by decide : 0 + 0 ≤ _)⟩)
    dsimp only [Pt.U, Pt.locs, Pt.cells, Pt.slots] at X29 l29 y29 z29 st29 hQ29
    subst l29 y29 z29
    obtain ⟨hv29, Nc29, e29⟩ := hQ29
    have N29 := Fr.app N28 Nc29
    obtain rfl : v29 = some (.ref w_NULL) := hv29.trans (congrArg (fun z => some (Value.ref z)) (if_pos (by decide)))
    refine own_by (f' := (mkF m 40 #[.val (.int p1), .val (.int (12 : Int32)), .val (.ref w_NULL), .val (.ref w_NULL)] [(.ref w_NULL)])) (fun t h => st29.trans h) ?_
    refine own_by (f' := (mkF m 41 #[.val (.int p1), .val (.int (12 : Int32)), .val (.ref w_NULL), .val (.ref w_NULL)] [(.ref w_NULL), (.ref w_NULL)])) (fun t h => XS.aloadN X29.here hx rfl (hb hby at_40) rfl rfl h) ?_
    refine own_by (f' := (mkF m 44 #[.val (.int p1), .val (.int (12 : Int32)), .val (.ref w_NULL), .val (.ref w_NULL)] [])) (fun t h => Jvm.RoadKit.acmp (g := (mkF m 41 #[.val (.int p1), .val (.int (12 : Int32)), .val (.ref w_NULL), .val (.ref w_NULL)] [(.ref w_NULL), (.ref w_NULL)])) X29 hx rfl rfl rfl (pc0 := 41) (pc' := 44) (same := true) rfl (hb hby at_41) rfl (decide_eq_true rfl) (by decide) (by decide) h) ?_
    refine own_by (f' := (mkF m 45 #[.val (.int p1), .val (.int (12 : Int32)), .val (.ref w_NULL), .val (.ref w_NULL)] [(.int (1 : Int32))])) (fun t h => XS.iconst X29.here hx rfl (hb hby at_44) h) ?_
    refine own_by (f' := (mkF m 49 #[.val (.int p1), .val (.int (12 : Int32)), .val (.ref w_NULL), .val (.ref w_NULL)] [(.int (1 : Int32))])) (fun t h => XS.goto X29.here hx rfl (pc0 := 45) (pc' := 49) rfl (hb hby at_45) (by decide) (by decide) h) ?_
    obtain ⟨fs, hr, hrun, hended, hW, hsame⟩ := X29.leave (v := some (.int (1 : Int32))) (fun h => by rw [Bd.returns] at h; cases h)
    refine own_mk ⟨_, _, retN X29 hx (t := .boolean) Bd.returns (by simp) (hb hby at_49) hr, hrun, hended, _, _, rfl, ?_, ⟨_, rfl⟩, hW, hsame.mono (by decide) (by decide)⟩
    show Q0 n0 _ T29.heap _
    rw [e29]
    exact ⟨rfl, N29⟩
  · refine own_by (f' := (mkF m 9 #[.val (.int p1), .val (.int (13 : Int32)), .unset, .unset] [(.int (13 : Int32))])) (fun t h => XS.iloadN X0.here hx rfl (hb hby at_8) rfl h) ?_
    obtain ⟨v30, _, ⟨T30, L30, k30, n30⟩, -, X30, ⟨Lc30, hQ30, l30, y30, z30⟩, st30⟩ := Jvm.LawKit.callS X0 hx (y := (⟨"com/example/subscript/subscript/KindEvaluatedAsPinLaw", "kindOf", "(I)Lcom/example/subscript/subscript/Type$Kind;"⟩ : MethodName)) hown (mvT hZ (hw _ (List.mem_of_getElem? (i := 1) rfl))) (mvT hZ (hw _ (List.mem_of_getElem? (i := 2) rfl))) (mvT hZ (hw _ (List.mem_of_getElem? (i := 3) rfl))) (mvT hZ (hw _ (List.mem_of_getElem? (i := 4) rfl))) (by decide) (backOf (W := 0) (rm1 l Z a0 hw [] (13 : Int32) w_BYTE w_SHORT w_CHAR w_INT w_LONG w_FLOAT w_DOUBLE w_BOOLEAN w_VOID w_CLASS w_PROGRAM_CLASS w_ARRAY w_NULL w_ERROR h0 n0 Z0 S_BYTE S_SHORT S_CHAR S_INT S_LONG S_FLOAT S_DOUBLE S_BOOLEAN S_VOID S_CLASS S_PROGRAM_CLASS S_ARRAY S_NULL S_ERROR) hZ (hw _ (List.mem_of_getElem? (i := 4) rfl)) (hw _ (List.mem_of_getElem? (i := 3) rfl)) (by decide) (by decide)) (g := (mkF m 9 #[.val (.int p1), .val (.int (13 : Int32)), .unset, .unset] [(.int (13 : Int32))])) rfl (by rw [hml]; rfl) (argsL := [(.int (13 : Int32))]) (rest := []) (lenOf own_pd1 rfl) rfl (by show 2 * 0 + _ ≤ _; exact Nat.le_of_eq rfl) (hb hby at_9) (fun _ _ => ⟨rfl, e0, (by decide : 0 + 0 ≤ _), (by decide : 0 + 0 ≤ _)⟩)
    dsimp only [Pt.U, Pt.locs, Pt.cells, Pt.slots] at X30 l30 y30 z30 st30 hQ30
    subst l30 y30 z30
    obtain ⟨hv30, Nc30, e30⟩ := hQ30
    have N30 := Fr.app N0 Nc30
    obtain rfl : v30 = some (.ref w_ERROR) := hv30.trans (by simp)
    refine own_by (f' := (mkF m 12 #[.val (.int p1), .val (.int (13 : Int32)), .unset, .unset] [(.ref w_ERROR)])) st30 ?_
    refine own_by (f' := (mkF m 13 #[.val (.int p1), .val (.int (13 : Int32)), .val (.ref w_ERROR), .unset] [])) (fun t h => XS.astoreN X30.here hx rfl (hb hby at_12) rfl rfl (l' := #[.val (.int p1), .val (.int (13 : Int32)), .val (.ref w_ERROR), .unset]) rfl h) ?_
    refine own_by (f' := (mkF m 14 #[.val (.int p1), .val (.int (13 : Int32)), .val (.ref w_ERROR), .unset] [(.int (13 : Int32))])) (fun t h => XS.iloadN X30.here hx rfl (hb hby at_13) rfl h) ?_
    refine own_by (f' := (mkF m 17 #[.val (.int p1), .val (.int (13 : Int32)), .val (.ref w_ERROR), .unset] [])) (fun t h => XS.ifNo X30.here hx rfl (hb hby at_14) rfl (by decide) h) ?_
    refine own_by (f' := (mkF m 18 #[.val (.int p1), .val (.int (13 : Int32)), .val (.ref w_ERROR), .unset] [(.int (13 : Int32))])) (fun t h => XS.iloadN X30.here hx rfl (hb hby at_17) rfl h) ?_
    refine own_by (f' := (mkF m 19 #[.val (.int p1), .val (.int (13 : Int32)), .val (.ref w_ERROR), .unset] [(.int (1 : Int32)), (.int (13 : Int32))])) (fun t h => XS.iconst X30.here hx rfl (hb hby at_18) h) ?_
    refine own_by (f' := (mkF m 22 #[.val (.int p1), .val (.int (13 : Int32)), .val (.ref w_ERROR), .unset] [])) (fun t h => XS.icmpNo X30.here hx rfl (hb hby at_19) rfl (by decide) h) ?_
    refine own_by (f' := (mkF m 23 #[.val (.int p1), .val (.int (13 : Int32)), .val (.ref w_ERROR), .unset] [(.int (13 : Int32))])) (fun t h => XS.iloadN X30.here hx rfl (hb hby at_22) rfl h) ?_
    refine own_by (f' := (mkF m 24 #[.val (.int p1), .val (.int (13 : Int32)), .val (.ref w_ERROR), .unset] [(.int (2 : Int32)), (.int (13 : Int32))])) (fun t h => XS.iconst X30.here hx rfl (hb hby at_23) h) ?_
    refine own_by (f' := (mkF m 34 #[.val (.int p1), .val (.int (13 : Int32)), .val (.ref w_ERROR), .unset] [])) (fun t h => XS.icmpYes X30.here hx rfl (pc0 := 24) (pc' := 34) rfl (hb hby at_24) rfl (by decide) (by decide) (by decide) h) ?_
    refine own_by (f' := (mkF m 35 #[.val (.int p1), .val (.int (13 : Int32)), .val (.ref w_ERROR), .unset] [(.ref w_ERROR)])) (fun t h => XS.aloadN X30.here hx rfl (hb hby at_34) rfl rfl h) ?_
    refine own_by (f' := (mkF m 36 #[.val (.int p1), .val (.int (13 : Int32)), .val (.ref w_ERROR), .val (.ref w_ERROR)] [])) (fun t h => XS.astoreN X30.here hx rfl (hb hby at_35) rfl rfl (l' := #[.val (.int p1), .val (.int (13 : Int32)), .val (.ref w_ERROR), .val (.ref w_ERROR)]) rfl h) ?_
    refine own_by (f' := (mkF m 37 #[.val (.int p1), .val (.int (13 : Int32)), .val (.ref w_ERROR), .val (.ref w_ERROR)] [(.ref w_ERROR)])) (fun t h => XS.aloadN X30.here hx rfl (hb hby at_36) rfl rfl h) ?_
    obtain ⟨cq31, kq31, q31a, q31b, q31c⟩ := isOf hZ e30 E_ERROR
    obtain ⟨v31, _, ⟨T31, L31, k31, n31⟩, -, X31, ⟨Lc31, hQ31, l31, y31, z31⟩, st31⟩ := X30.virtualBack hx (y := (⟨"com/example/subscript/subscript/Type$Kind", "evaluatedAs", "()Lcom/example/subscript/subscript/Type$Kind;"⟩ : MethodName)) (z := (⟨"com/example/subscript/subscript/Type$Kind", "evaluatedAs", "()Lcom/example/subscript/subscript/Type$Kind;"⟩ : MethodName)) hown (mvT hZ (hw _ (List.mem_of_getElem? (i := 10) rfl))) (mvT hZ (hw _ (List.mem_of_getElem? (i := 11) rfl))) (notFace_of_selects (args := #[]) (mvT hZ (hw _ (List.mem_of_getElem? (i := 13) rfl)))) (mvT hZ (hw _ (List.mem_of_getElem? (i := 13) rfl))) (mvT hZ (hw _ (List.mem_of_getElem? (i := 12) rfl))) (by decide) (backOf (W := 0) (rm2 l Z a0 hw [] w_ERROR w_INT (-1 : Int32) h0 n0 Z0 S_INT F_rank_ERROR F_rank_INT) hZ (hw _ (List.mem_of_getElem? (i := 14) rfl)) (hw _ (List.mem_of_getElem? (i := 6) rfl)) (by decide) (by decide)) q31a q31c (g := (mkF m 37 #[.val (.int p1), .val (.int (13 : Int32)), .val (.ref w_ERROR), .val (.ref w_ERROR)] [(.ref w_ERROR)])) rfl (by rw [hml]; rfl) (Steps.refl _) (argsL := []) (rest := []) (lenOf own_pd2 rfl) rfl (by show 2 * 0 + _ ≤ _; exact Nat.le_of_eq rfl) (hb hby at_37) (fun _ _ => ⟨rfl, e30, (by decide : 0 + 0 ≤ _), (by decide : 0 + 0 ≤ _)⟩)
    dsimp only [Pt.U, Pt.locs, Pt.cells, Pt.slots] at X31 l31 y31 z31 st31 hQ31
    subst l31 y31 z31
    obtain ⟨hv31, Nc31, e31⟩ := hQ31
    have N31 := Fr.app N30 Nc31
    obtain rfl : v31 = some (.ref w_ERROR) := hv31.trans (congrArg (fun z => some (Value.ref z)) (if_pos (by decide)))
    refine own_by (f' := (mkF m 40 #[.val (.int p1), .val (.int (13 : Int32)), .val (.ref w_ERROR), .val (.ref w_ERROR)] [(.ref w_ERROR)])) (fun t h => st31.trans h) ?_
    refine own_by (f' := (mkF m 41 #[.val (.int p1), .val (.int (13 : Int32)), .val (.ref w_ERROR), .val (.ref w_ERROR)] [(.ref w_ERROR), (.ref w_ERROR)])) (fun t h => XS.aloadN X31.here hx rfl (hb hby at_40) rfl rfl h) ?_
    refine own_by (f' := (mkF m 44 #[.val (.int p1), .val (.int (13 : Int32)), .val (.ref w_ERROR), .val (.ref w_ERROR)] [])) (fun t h => Jvm.RoadKit.acmp (g := (mkF m 41 #[.val (.int p1), .val (.int (13 : Int32)), .val (.ref w_ERROR), .val (.ref w_ERROR)] [(.ref w_ERROR), (.ref w_ERROR)])) X31 hx rfl rfl rfl (pc0 := 41) (pc' := 44) (same := true) rfl (hb hby at_41) rfl (decide_eq_true rfl) (by decide) (by decide) h) ?_
    refine own_by (f' := (mkF m 45 #[.val (.int p1), .val (.int (13 : Int32)), .val (.ref w_ERROR), .val (.ref w_ERROR)] [(.int (1 : Int32))])) (fun t h => XS.iconst X31.here hx rfl (hb hby at_44) h) ?_
    refine own_by (f' := (mkF m 49 #[.val (.int p1), .val (.int (13 : Int32)), .val (.ref w_ERROR), .val (.ref w_ERROR)] [(.int (1 : Int32))])) (fun t h => XS.goto X31.here hx rfl (pc0 := 45) (pc' := 49) rfl (hb hby at_45) (by decide) (by decide) h) ?_
    obtain ⟨fs, hr, hrun, hended, hW, hsame⟩ := X31.leave (v := some (.int (1 : Int32))) (fun h => by rw [Bd.returns] at h; cases h)
    refine own_mk ⟨_, _, retN X31 hx (t := .boolean) Bd.returns (by simp) (hb hby at_49) hr, hrun, hended, _, _, rfl, ?_, ⟨_, rfl⟩, hW, hsame.mono (by decide) (by decide)⟩
    show Q0 n0 _ T31.heap _
    rw [e31]
    exact ⟨rfl, N31⟩
set_option maxRecDepth 65536 in
set_option maxHeartbeats 40000000 in
theorem comes_1 {Post : Tables → Env → Array Value → State → Outcome → State → Prop} (hpost : ∀ tb e args s v u, (limb_1_1.after args s (.returned v) u = true ∧ limb_1_2.after args s (.returned v) u = true ∧ True) → FrameEnd s (.returned v) u (Jvm.fieldLocs frame_1_writes args s ++ Jvm.arrayLocs frame_1_arrays args s ++ Jvm.staticLocs frame_1_statics s) 0 0 → Post tb e args s (.returned v) u) :
    ArmFor flags0 classFile x code maxLocals ret World_1 tables_1 room_1 Calls_1 rest_1 Pre_1 Post := by
  intro l hfl _ _ p e ha hc hk s m args below hf hA hF happ hP
  obtain ⟨hcalls, hrest, hpre⟩ := hP
  obtain ⟨-, -, -, hnamed, -, -, -, hat⟩ := (Spec.applies_iff hf).mp happ
  obtain ⟨hg, hn⟩ := and_e (Cond.before_iff.mp (show (Jvm.Cond.and given_1 narrow_1).before args s = true from hpre))
  obtain ⟨hcount, hg⟩ := and_e hg
  have hk0 := hg
  obtain ⟨w0, rfl⟩ : ∃ w0 : Value, args = #[w0] := by
    have hs : args.size = 1 := by simpa [Cond.value, given_1] using hcount
    obtain ⟨L⟩ := args
    match L, hs with
    | [w0], _ => exact ⟨w0, rfl⟩
  have hw := fun d (hd : d ∈ tables_1) => atoms_spec (ws := Jvm.Cond.code x code maxLocals ret :: tables_1) hat d (List.mem_cons_of_mem _ hd)
  obtain ⟨i0, ei0⟩ := is_v hk0
  obtain rfl : w0 = (.int i0) := Option.some.inj ei0
  obtain ⟨hn0, hn⟩ := and_e hn
  obtain ⟨hn1, hn⟩ := and_e hn
  obtain ⟨hn2, hn⟩ := and_e hn
  obtain ⟨hn3, hn⟩ := and_e hn
  obtain ⟨hn4, hn⟩ := and_e hn
  obtain ⟨hn5, hn⟩ := and_e hn
  obtain ⟨hn6, hn⟩ := and_e hn
  obtain ⟨hn7, hn⟩ := and_e hn
  obtain ⟨hn8, hn⟩ := and_e hn
  obtain ⟨hn9, hn⟩ := and_e hn
  obtain ⟨hn10, hn⟩ := and_e hn
  obtain ⟨hn11, hn⟩ := and_e hn
  obtain ⟨hn12, hn⟩ := and_e hn
  obtain ⟨hn13, hn⟩ := and_e hn
  obtain ⟨hn14, hn⟩ := and_e hn
  obtain ⟨hn15, hn⟩ := and_e hn
  obtain ⟨hn16, hn⟩ := and_e hn
  obtain ⟨hn17, hn⟩ := and_e hn
  obtain ⟨hn18, hn⟩ := and_e hn
  obtain ⟨hn19, hn⟩ := and_e hn
  obtain ⟨hn20, hn⟩ := and_e hn
  obtain ⟨hn21, hn⟩ := and_e hn
  obtain ⟨hn22, hn⟩ := and_e hn
  obtain ⟨hn23, hn⟩ := and_e hn
  obtain ⟨hn24, hn⟩ := and_e hn
  obtain ⟨hn25, hn⟩ := and_e hn
  obtain ⟨hn26, hn⟩ := and_e hn
  have hn27 := hn
  obtain ⟨w_BYTE, ev_BYTE⟩ := exa_v hn0
  have E_BYTE := Exa.start ev_BYTE hn0
  have S_BYTE := Sta.start ev_BYTE (Or.inr ⟨(hw _ (List.mem_of_getElem? (i := 6) rfl)), (hw _ (List.mem_of_getElem? (i := 7) rfl))⟩)
  obtain ⟨w_INT, ev_INT⟩ := exa_v hn1
  have E_INT := Exa.start ev_INT hn1
  have S_INT := Sta.start ev_INT (Or.inr ⟨(hw _ (List.mem_of_getElem? (i := 6) rfl)), (hw _ (List.mem_of_getElem? (i := 9) rfl))⟩)
  obtain ⟨w_NULL, ev_NULL⟩ := exa_v hn4
  have E_NULL := Exa.start ev_NULL hn4
  have S_NULL := Sta.start ev_NULL (Or.inr ⟨(hw _ (List.mem_of_getElem? (i := 6) rfl)), (hw _ (List.mem_of_getElem? (i := 19) rfl))⟩)
  obtain ⟨w_ERROR, ev_ERROR⟩ := exa_v hn6
  have E_ERROR := Exa.start ev_ERROR hn6
  have S_ERROR := Sta.start ev_ERROR (Or.inr ⟨(hw _ (List.mem_of_getElem? (i := 6) rfl)), (hw _ (List.mem_of_getElem? (i := 21) rfl))⟩)
  obtain ⟨w_LONG, ev_LONG⟩ := exa_v hn8
  have E_LONG := Exa.start ev_LONG hn8
  have S_LONG := Sta.start ev_LONG (Or.inr ⟨(hw _ (List.mem_of_getElem? (i := 6) rfl)), (hw _ (List.mem_of_getElem? (i := 23) rfl))⟩)
  obtain ⟨w_BOOLEAN, ev_BOOLEAN⟩ := exa_v hn10
  have E_BOOLEAN := Exa.start ev_BOOLEAN hn10
  have S_BOOLEAN := Sta.start ev_BOOLEAN (Or.inr ⟨(hw _ (List.mem_of_getElem? (i := 6) rfl)), (hw _ (List.mem_of_getElem? (i := 25) rfl))⟩)
  obtain ⟨w_CHAR, ev_CHAR⟩ := exa_v hn12
  have E_CHAR := Exa.start ev_CHAR hn12
  have S_CHAR := Sta.start ev_CHAR (Or.inr ⟨(hw _ (List.mem_of_getElem? (i := 6) rfl)), (hw _ (List.mem_of_getElem? (i := 27) rfl))⟩)
  obtain ⟨w_ARRAY, ev_ARRAY⟩ := exa_v hn14
  have E_ARRAY := Exa.start ev_ARRAY hn14
  have S_ARRAY := Sta.start ev_ARRAY (Or.inr ⟨(hw _ (List.mem_of_getElem? (i := 6) rfl)), (hw _ (List.mem_of_getElem? (i := 29) rfl))⟩)
  obtain ⟨w_PROGRAM_CLASS, ev_PROGRAM_CLASS⟩ := exa_v hn16
  have E_PROGRAM_CLASS := Exa.start ev_PROGRAM_CLASS hn16
  have S_PROGRAM_CLASS := Sta.start ev_PROGRAM_CLASS (Or.inr ⟨(hw _ (List.mem_of_getElem? (i := 6) rfl)), (hw _ (List.mem_of_getElem? (i := 31) rfl))⟩)
  obtain ⟨w_VOID, ev_VOID⟩ := exa_v hn18
  have E_VOID := Exa.start ev_VOID hn18
  have S_VOID := Sta.start ev_VOID (Or.inr ⟨(hw _ (List.mem_of_getElem? (i := 6) rfl)), (hw _ (List.mem_of_getElem? (i := 33) rfl))⟩)
  obtain ⟨w_SHORT, ev_SHORT⟩ := exa_v hn20
  have E_SHORT := Exa.start ev_SHORT hn20
  have S_SHORT := Sta.start ev_SHORT (Or.inr ⟨(hw _ (List.mem_of_getElem? (i := 6) rfl)), (hw _ (List.mem_of_getElem? (i := 35) rfl))⟩)
  obtain ⟨w_CLASS, ev_CLASS⟩ := exa_v hn22
  have E_CLASS := Exa.start ev_CLASS hn22
  have S_CLASS := Sta.start ev_CLASS (Or.inr ⟨(hw _ (List.mem_of_getElem? (i := 6) rfl)), (hw _ (List.mem_of_getElem? (i := 37) rfl))⟩)
  obtain ⟨w_FLOAT, ev_FLOAT⟩ := exa_v hn24
  have E_FLOAT := Exa.start ev_FLOAT hn24
  have S_FLOAT := Sta.start ev_FLOAT (Or.inr ⟨(hw _ (List.mem_of_getElem? (i := 6) rfl)), (hw _ (List.mem_of_getElem? (i := 39) rfl))⟩)
  obtain ⟨w_DOUBLE, ev_DOUBLE⟩ := exa_v hn26
  have E_DOUBLE := Exa.start ev_DOUBLE hn26
  have S_DOUBLE := Sta.start ev_DOUBLE (Or.inr ⟨(hw _ (List.mem_of_getElem? (i := 6) rfl)), (hw _ (List.mem_of_getElem? (i := 41) rfl))⟩)
  have F_rank_BYTE := own_fld ev_BYTE hn2
  have F_rank_INT := own_fld ev_INT hn3
  have F_rank_NULL := own_fld ev_NULL hn5
  have F_rank_ERROR := own_fld ev_ERROR hn7
  have F_rank_LONG := own_fld ev_LONG hn9
  have F_rank_BOOLEAN := own_fld ev_BOOLEAN hn11
  have F_rank_CHAR := own_fld ev_CHAR hn13
  have F_rank_ARRAY := own_fld ev_ARRAY hn15
  have F_rank_PROGRAM_CLASS := own_fld ev_PROGRAM_CLASS hn17
  have F_rank_VOID := own_fld ev_VOID hn19
  have F_rank_SHORT := own_fld ev_SHORT hn21
  have F_rank_CLASS := own_fld ev_CLASS hn23
  have F_rank_FLOAT := own_fld ev_FLOAT hn25
  have F_rank_DOUBLE := own_fld ev_DOUBLE hn27
  obtain ⟨n, o, h1, h2, h3, _, L, rfl, ⟨rfl, N⟩, hq⟩ := rm0 l s _ hw tables_1 i0 w_BYTE w_SHORT w_CHAR w_INT w_LONG w_FLOAT w_DOUBLE w_BOOLEAN w_VOID w_CLASS w_PROGRAM_CLASS w_ARRAY w_NULL w_ERROR s.heap s.heap.size (Nat.le_refl _) S_BYTE S_SHORT S_CHAR S_INT S_LONG S_FLOAT S_DOUBLE S_BOOLEAN S_VOID S_CLASS S_PROGRAM_CLASS S_ARRAY S_NULL S_ERROR E_BYTE E_SHORT E_CHAR E_INT E_LONG E_FLOAT E_DOUBLE E_BOOLEAN E_VOID E_CLASS E_PROGRAM_CLASS E_ARRAY E_NULL E_ERROR F_rank_BYTE F_rank_SHORT F_rank_CHAR F_rank_INT F_rank_LONG F_rank_FLOAT F_rank_DOUBLE F_rank_BOOLEAN F_rank_VOID F_rank_CLASS F_rank_PROGRAM_CLASS F_rank_ARRAY F_rank_NULL F_rank_ERROR p e ha hc hk s m _ below hf ((Spec.applies_iff_loose hf).mp happ).1 ⟨rfl, State.Warmed39.refl s, rfl⟩ trivial
  refine ⟨n, _, h1, h2, h3, hpost _ _ _ _ _ _ ⟨Cond.after_iff.mpr rfl, Cond.after_iff.mpr (eq_i res_at (Term.int_eval (1)) rfl), trivial⟩ ⟨hq.1, hq.2.1, (hq.2.2.sift fun y hy => Or.inr (N y hy)).mono (by decide) (by decide)⟩⟩
theorem main_1_1 : Claimed_1_1 := comes_1 fun _ _ _ _ _ _ h hF => ⟨h.1, hF⟩
theorem main_1_2 : Claimed_1_2 := comes_1 fun _ _ _ _ _ _ h hF => ⟨h.2.1, hF⟩
end Jvm.Pilot.@@N@@
namespace Jvm.Pilot.@@N@@
open Jvm Jvm.ClassFile Sem Op Lib Jvm.Free Jvm.Stand Jvm.Pilot.@@N@@.Jvm.D
/-! MADE BY PROGRAM (witnessworld.py) out of the Statement's table words and the real class files: 12 classes; the members and pool entries that the words name. The judged class is class 1, her method 2. -/
namespace start1
open Jvm.ClassFile
def u (s : String) : CpInfo := .utf8 (stringToUtf16 s)
/-- a pool by its gaps: so many unusable entries, then the entry; so many at the end -/
def gap : Nat → List CpInfo → List CpInfo
  | 0, r => r
  | n + 1, r => .unusable :: gap n r
def poolList (es : List (Nat × CpInfo)) (last : Nat) : List CpInfo := es.foldr (fun e r => gap e.1 (e.2 :: r)) (gap last [])
def pool (es : List (Nat × CpInfo)) (last : Nat) : Array CpInfo := ⟨poolList es last⟩
def fileOf (pool : Array CpInfo) (this : Nat) (attrs : Array Attribute := #[]) (ms : Array MethodInfo := #[]) (fl : Nat := 33) (sup : Nat := 0) (ifs : Array Nat := #[]) (fds : Array FieldInfo := #[]) : ClassFile where
  minorVersion := 0
  majorVersion := 65
  constantPool := pool
  accessFlags := fl
  thisClass := this
  superClass := sup
  interfaces := ifs
  fields := fds
  methods := ms
  attributes := attrs
def plain (name : String) (sup : Option ClassId) : Class where
  name := name
  kind := .ordinary
  loader := none
  accessFlags := 33
  super := sup
  interfaces := #[]
  cf := none
  fields := #[]
  methods := #[]
  instanceTypes := #[]
  staticTypes := #[]
  resolved := #[]
  callSites := []
  init := .initialized
  statics := none
  mirror := none

def pool0 : Array CpInfo := pool [(5, u "<init>"), (0, u "()V"), (1, .class_ 10), (1, u "java/lang/Object")] 113

def k0m0 : Method := { name := "<init>", desc := "()V", sig := { parameters := [], returnType := none }, accessFlags := 1, code := none }
/-- java/lang/Object -/
def k0 : Class := { plain "java/lang/Object" none with
  accessFlags := 33
  interfaces := #[]
  cf := some (fileOf pool0 8 #[] #[{ accessFlags := 1, nameIndex := 5, descriptorIndex := 6, attributes := #[] }] 33 0 #[] #[])
  fields := #[]
  methods := #[k0m0]
  instanceTypes := #[]
  staticTypes := #[]
  resolved := Array.replicate 124 none
  statics := none }

def pool1 : Array CpInfo := pool [(2, .class_ 4), (1, u "java/lang/Object"), (0, u "<init>"), (0, u "()V"), (0, .fieldref 8 9), (0, .class_ 10), (0, .nameAndType 11 12), (0, u "com/example/subscript/subscript/Type$Kind"), (0, u "BYTE"), (0, u "Lcom/example/subscript/subscript/Type$Kind;"), (0, .fieldref 8 14), (0, .nameAndType 15 12), (0, u "SHORT"), (0, .fieldref 8 17), (0, .nameAndType 18 12), (0, u "CHAR"), (0, .fieldref 8 20), (0, .nameAndType 21 12), (0, u "INT"), (0, .fieldref 8 23), (0, .nameAndType 24 12), (0, u "LONG"), (0, .fieldref 8 26), (0, .nameAndType 27 12), (0, u "FLOAT"), (0, .fieldref 8 29), (0, .nameAndType 30 12), (0, u "DOUBLE"), (0, .fieldref 8 32), (0, .nameAndType 33 12), (0, u "BOOLEAN"), (0, .fieldref 8 35), (0, .nameAndType 36 12), (0, u "VOID"), (0, .fieldref 8 38), (0, .nameAndType 39 12), (0, u "CLASS"), (0, .fieldref 8 41), (0, .nameAndType 42 12), (0, u "PROGRAM_CLASS"), (0, .fieldref 8 44), (0, .nameAndType 45 12), (0, u "ARRAY"), (0, .fieldref 8 47), (0, .nameAndType 48 12), (0, u "NULL"), (0, .fieldref 8 50), (0, .nameAndType 51 12), (0, u "ERROR"), (0, .integer 2147483647), (0, .methodref 54 55), (0, .class_ 56), (0, .nameAndType 57 58), (0, u "com/example/subscript/subscript/KindEvaluatedAsPinLaw"), (0, u "kindOf"), (0, u "(I)Lcom/example/subscript/subscript/Type$Kind;"), (0, .methodref 8 60), (0, .nameAndType 61 62), (0, u "evaluatedAs"), (0, u "()Lcom/example/subscript/subscript/Type$Kind;"), (3, u "law"), (0, u "(I)Z")] 6

def k1m0 : Method := { name := "<init>", desc := "()V", sig := { parameters := [], returnType := none }, accessFlags := 2, code := none }
def k1c1 : Code := { maxStack := 2, maxLocals := 1, code := method_2_code, exceptionTable := #[], attributes := #[] }
def k1m1 : Method := { name := "kindOf", desc := "(I)Lcom/example/subscript/subscript/Type$Kind;", sig := { parameters := [.int], returnType := some (.object "com/example/subscript/subscript/Type$Kind") }, accessFlags := 10, code := some k1c1 }
def k1c2 : Code := { maxStack := 2, maxLocals := 4, code := code, exceptionTable := #[], attributes := #[] }
def k1m2 : Method := { name := "law", desc := "(I)Z", sig := { parameters := [.int], returnType := some .boolean }, accessFlags := 9, code := some k1c2 }
/-- com/example/subscript/subscript/KindEvaluatedAsPinLaw -/
def k1 : Class := { plain "com/example/subscript/subscript/KindEvaluatedAsPinLaw" (some 0) with
  accessFlags := 49
  interfaces := #[]
  cf := some (fileOf pool1 54 #[] #[{ accessFlags := 2, nameIndex := 5, descriptorIndex := 6, attributes := #[] }, { accessFlags := 10, nameIndex := 57, descriptorIndex := 58, attributes := #[] }, { accessFlags := 9, nameIndex := 66, descriptorIndex := 67, attributes := #[] }] 49 2 #[] #[])
  fields := #[]
  methods := #[k1m0, k1m1, k1m2]
  instanceTypes := #[]
  staticTypes := #[]
  resolved := Array.replicate 74 none
  statics := none }

def pool2 : Array CpInfo := pool [(1, .class_ 2), (0, u "java/lang/constant/Constable"), (0, .class_ 4), (0, u "java/lang/Object")] 6

/-- java/lang/constant/Constable -/
def k2 : Class := { plain "java/lang/constant/Constable" (some 0) with
  accessFlags := 1537
  interfaces := #[]
  cf := some (fileOf pool2 1 #[] #[] 1537 3 #[] #[])
  fields := #[]
  methods := #[]
  instanceTypes := #[]
  staticTypes := #[]
  resolved := Array.replicate 11 none
  statics := none }

def pool3 : Array CpInfo := pool [(1, .class_ 2), (0, u "java/lang/Comparable"), (0, .class_ 4), (0, u "java/lang/Object")] 7

/-- java/lang/Comparable -/
def k3 : Class := { plain "java/lang/Comparable" (some 0) with
  accessFlags := 1537
  interfaces := #[]
  cf := some (fileOf pool3 1 #[] #[] 1537 3 #[] #[])
  fields := #[]
  methods := #[]
  instanceTypes := #[]
  staticTypes := #[]
  resolved := Array.replicate 12 none
  statics := none }

def pool4 : Array CpInfo := pool [(1, .class_ 2), (0, u "java/io/Serializable"), (0, .class_ 4), (0, u "java/lang/Object")] 2

/-- java/io/Serializable -/
def k4 : Class := { plain "java/io/Serializable" (some 0) with
  accessFlags := 1537
  interfaces := #[]
  cf := some (fileOf pool4 1 #[] #[] 1537 3 #[] #[])
  fields := #[]
  methods := #[]
  instanceTypes := #[]
  staticTypes := #[]
  resolved := Array.replicate 7 none
  statics := none }

def pool5 : Array CpInfo := pool [(2, .class_ 4), (1, u "java/lang/Enum"), (0, u "name"), (0, u "Ljava/lang/String;"), (2, u "ordinal"), (0, u "I"), (1, .class_ 14), (1, u "java/lang/Object"), (4, u "hash"), (86, .class_ 108), (1, u "java/lang/Enum$EnumDesc"), (2, .class_ 112), (0, u "java/lang/constant/Constable"), (0, .class_ 114), (0, u "java/lang/Comparable"), (0, .class_ 116), (0, u "java/io/Serializable")] 87

/-- java/lang/Enum -/
def k5 : Class := { plain "java/lang/Enum" (some 0) with
  accessFlags := 1057
  interfaces := #[2, 3, 4]
  cf := some (fileOf pool5 2 #[.nestMembers #[106]] #[] 1057 12 #[111, 113, 115] #[{ accessFlags := 18, nameIndex := 5, descriptorIndex := 6, attributes := #[] }, { accessFlags := 18, nameIndex := 9, descriptorIndex := 10, attributes := #[] }, { accessFlags := 2, nameIndex := 19, descriptorIndex := 10, attributes := #[] }])
  fields := #[{ name := "name", type := (.object "java/lang/String"), accessFlags := 18, slot := 0, constantValue := 0 }, { name := "ordinal", type := .int, accessFlags := 18, slot := 1, constantValue := 0 }, { name := "hash", type := .int, accessFlags := 2, slot := 2, constantValue := 0 }]
  methods := #[]
  instanceTypes := #[(.object "java/lang/String"), .int, .int]
  staticTypes := #[]
  resolved := Array.replicate 204 none
  statics := none }

def pool6 : Array CpInfo := pool [(1, .class_ 2), (0, u "com/example/subscript/subscript/Type$Kind"), (2, u "BYTE"), (0, u "Lcom/example/subscript/subscript/Type$Kind;"), (2, u "SHORT"), (2, u "CHAR"), (0, .fieldref 1 14), (0, .nameAndType 15 6), (0, u "INT"), (2, u "LONG"), (2, u "FLOAT"), (2, u "DOUBLE"), (2, u "BOOLEAN"), (2, u "VOID"), (2, u "CLASS"), (2, u "PROGRAM_CLASS"), (2, u "ARRAY"), (2, u "NULL"), (2, u "ERROR"), (2, u "$VALUES"), (0, u "[Lcom/example/subscript/subscript/Type$Kind;"), (6, .class_ 58), (1, u "java/lang/Enum"), (6, .fieldref 1 66), (0, .nameAndType 67 68), (0, u "rank"), (0, u "I"), (28, u "evaluatedAs"), (0, u "()Lcom/example/subscript/subscript/Type$Kind;"), (9, .class_ 109), (0, u "com/example/subscript/subscript/Type")] 2

def k6c0 : Code := { maxStack := 2, maxLocals := 1, code := prog_193_method_4_code, exceptionTable := #[], attributes := #[] }
def k6m0 : Method := { name := "evaluatedAs", desc := "()Lcom/example/subscript/subscript/Type$Kind;", sig := { parameters := [], returnType := some (.object "com/example/subscript/subscript/Type$Kind") }, accessFlags := 0, code := some k6c0 }
/-- com/example/subscript/subscript/Type$Kind -/
def k6 : Class := { plain "com/example/subscript/subscript/Type$Kind" (some 5) with
  accessFlags := 16432
  interfaces := #[]
  cf := some (fileOf pool6 1 #[.nestHost 108] #[{ accessFlags := 0, nameIndex := 97, descriptorIndex := 98, attributes := #[] }] 16432 56 #[] #[{ accessFlags := 16409, nameIndex := 5, descriptorIndex := 6, attributes := #[] }, { accessFlags := 16409, nameIndex := 9, descriptorIndex := 6, attributes := #[] }, { accessFlags := 16409, nameIndex := 12, descriptorIndex := 6, attributes := #[] }, { accessFlags := 16409, nameIndex := 15, descriptorIndex := 6, attributes := #[] }, { accessFlags := 16409, nameIndex := 18, descriptorIndex := 6, attributes := #[] }, { accessFlags := 16409, nameIndex := 21, descriptorIndex := 6, attributes := #[] }, { accessFlags := 16409, nameIndex := 24, descriptorIndex := 6, attributes := #[] }, { accessFlags := 16409, nameIndex := 27, descriptorIndex := 6, attributes := #[] }, { accessFlags := 16409, nameIndex := 30, descriptorIndex := 6, attributes := #[] }, { accessFlags := 16409, nameIndex := 33, descriptorIndex := 6, attributes := #[] }, { accessFlags := 16409, nameIndex := 36, descriptorIndex := 6, attributes := #[] }, { accessFlags := 16409, nameIndex := 39, descriptorIndex := 6, attributes := #[] }, { accessFlags := 16409, nameIndex := 42, descriptorIndex := 6, attributes := #[] }, { accessFlags := 16409, nameIndex := 45, descriptorIndex := 6, attributes := #[] }, { accessFlags := 16, nameIndex := 67, descriptorIndex := 68, attributes := #[] }, { accessFlags := 4122, nameIndex := 48, descriptorIndex := 49, attributes := #[] }])
  fields := #[{ name := "BYTE", type := (.object "com/example/subscript/subscript/Type$Kind"), accessFlags := 16409, slot := 0, constantValue := 0 }, { name := "SHORT", type := (.object "com/example/subscript/subscript/Type$Kind"), accessFlags := 16409, slot := 1, constantValue := 0 }, { name := "CHAR", type := (.object "com/example/subscript/subscript/Type$Kind"), accessFlags := 16409, slot := 2, constantValue := 0 }, { name := "INT", type := (.object "com/example/subscript/subscript/Type$Kind"), accessFlags := 16409, slot := 3, constantValue := 0 }, { name := "LONG", type := (.object "com/example/subscript/subscript/Type$Kind"), accessFlags := 16409, slot := 4, constantValue := 0 }, { name := "FLOAT", type := (.object "com/example/subscript/subscript/Type$Kind"), accessFlags := 16409, slot := 5, constantValue := 0 }, { name := "DOUBLE", type := (.object "com/example/subscript/subscript/Type$Kind"), accessFlags := 16409, slot := 6, constantValue := 0 }, { name := "BOOLEAN", type := (.object "com/example/subscript/subscript/Type$Kind"), accessFlags := 16409, slot := 7, constantValue := 0 }, { name := "VOID", type := (.object "com/example/subscript/subscript/Type$Kind"), accessFlags := 16409, slot := 8, constantValue := 0 }, { name := "CLASS", type := (.object "com/example/subscript/subscript/Type$Kind"), accessFlags := 16409, slot := 9, constantValue := 0 }, { name := "PROGRAM_CLASS", type := (.object "com/example/subscript/subscript/Type$Kind"), accessFlags := 16409, slot := 10, constantValue := 0 }, { name := "ARRAY", type := (.object "com/example/subscript/subscript/Type$Kind"), accessFlags := 16409, slot := 11, constantValue := 0 }, { name := "NULL", type := (.object "com/example/subscript/subscript/Type$Kind"), accessFlags := 16409, slot := 12, constantValue := 0 }, { name := "ERROR", type := (.object "com/example/subscript/subscript/Type$Kind"), accessFlags := 16409, slot := 13, constantValue := 0 }, { name := "rank", type := .int, accessFlags := 16, slot := 3, constantValue := 0 }, { name := "$VALUES", type := (.array (.object "com/example/subscript/subscript/Type$Kind")), accessFlags := 4122, slot := 14, constantValue := 0 }]
  methods := #[k6m0]
  instanceTypes := #[(.object "java/lang/String"), .int, .int, .int]
  staticTypes := #[(.object "com/example/subscript/subscript/Type$Kind"), (.object "com/example/subscript/subscript/Type$Kind"), (.object "com/example/subscript/subscript/Type$Kind"), (.object "com/example/subscript/subscript/Type$Kind"), (.object "com/example/subscript/subscript/Type$Kind"), (.object "com/example/subscript/subscript/Type$Kind"), (.object "com/example/subscript/subscript/Type$Kind"), (.object "com/example/subscript/subscript/Type$Kind"), (.object "com/example/subscript/subscript/Type$Kind"), (.object "com/example/subscript/subscript/Type$Kind"), (.object "com/example/subscript/subscript/Type$Kind"), (.object "com/example/subscript/subscript/Type$Kind"), (.object "com/example/subscript/subscript/Type$Kind"), (.object "com/example/subscript/subscript/Type$Kind"), (.array (.object "com/example/subscript/subscript/Type$Kind"))]
  resolved := Array.replicate 112 none
  statics := some 0 }

def pool7 : Array CpInfo := pool [(1, u "java/lang/Cloneable"), (0, .class_ 1), (0, u "java/lang/Object"), (0, .class_ 3)] 3

/-- java/lang/Cloneable -/
def k7 : Class := { plain "java/lang/Cloneable" (some 0) with
  accessFlags := 1537
  interfaces := #[]
  cf := some (fileOf pool7 2 #[] #[] 1537 4 #[] #[])
  fields := #[]
  methods := #[]
  instanceTypes := #[]
  staticTypes := #[]
  resolved := Array.replicate 8 none
  statics := none }

/-- the primitive byte -/
def k8 : Class := { plain "byte" none with kind := .primitive 'B', accessFlags := 0x411 }
/-- [B -/
def k9 : Class := { plain "[B" (some 0) with kind := .array 8 .byte, interfaces := #[7, 4], accessFlags := 1041 }

/-- the primitive int -/
def k10 : Class := { plain "int" none with kind := .primitive 'I', accessFlags := 0x411 }
/-- [I -/
def k11 : Class := { plain "[I" (some 0) with kind := .array 10 .int, interfaces := #[7, 4], accessFlags := 1041 }

def heap : Heap := #[{ cls := 6, slots := #[.ref 1, .ref 2, .ref 3, .ref 4, .ref 5, .ref 6, .ref 7, .ref 8, .ref 9, .ref 10, .ref 11, .ref 12, .ref 13, .ref 14, .null], vm := .statics 6 },
  { cls := 6, slots := #[.null, .int 0, .int 0, .int 0], vm := .none },
  { cls := 6, slots := #[.null, .int 1, .int 0, .int 1], vm := .none },
  { cls := 6, slots := #[.null, .int 2, .int 0, .int 1], vm := .none },
  { cls := 6, slots := #[.null, .int 3, .int 0, .int 2], vm := .none },
  { cls := 6, slots := #[.null, .int 4, .int 0, .int 3], vm := .none },
  { cls := 6, slots := #[.null, .int 5, .int 0, .int 4], vm := .none },
  { cls := 6, slots := #[.null, .int 6, .int 0, .int 5], vm := .none },
  { cls := 6, slots := #[.null, .int 7, .int 0, .int (-1)], vm := .none },
  { cls := 6, slots := #[.null, .int 8, .int 0, .int (-1)], vm := .none },
  { cls := 6, slots := #[.null, .int 9, .int 0, .int (-1)], vm := .none },
  { cls := 6, slots := #[.null, .int 10, .int 0, .int (-1)], vm := .none },
  { cls := 6, slots := #[.null, .int 11, .int 0, .int (-1)], vm := .none },
  { cls := 6, slots := #[.null, .int 12, .int 0, .int (-1)], vm := .none },
  { cls := 6, slots := #[.null, .int 13, .int 0, .int (-1)], vm := .none }]
def classes : Array Class := #[k0, k1, k2, k3, k4, k5, k6, k7, k8, k9, k10, k11]
def interned : List (Array UInt16 × Addr) := []
def slotsUsed : Nat := 71
def theMethod : MethodId := ⟨1, 2⟩
def args0 : Array Value := #[.int 5]
def aboutOver (below : List Frame) : State where
  vm := { classes := classes, interned := interned.toArray }
  heap := heap
  slotsUsed := slotsUsed
  threads := #[{ frames := .invoking theMethod args0 :: below }]
def below0 : List Frame := [.native { method := ⟨0, 0⟩, args := #[] }]
def about1 : State := aboutOver below0
def p0 : Program := .bare "" "" ""
def e0 : Env := launch0.env 0 0 0
theorem w_frames : about1.frames = Frame.invoking theMethod args0 :: below0 := rfl
set_option maxRecDepth 65536 in
theorem w_args : argsFit about1.vm theMethod args0 = true := by decide +kernel
set_option maxRecDepth 65536 in
theorem w_heap : heapFits about1 = true := by decide +kernel
set_option maxRecDepth 65536 in
theorem w_runnable : about1.curStatus? = some .runnable := by decide +kernel
set_option maxRecDepth 65536 in
theorem w_alone : about1.alone = true := by decide +kernel
set_option maxRecDepth 65536 in
theorem w_named : about1.methodNamed? x = some theMethod := by decide +kernel
set_option maxRecDepth 65536 in
theorem w_hears : about1.hears theMethod below0 = true := by decide +kernel
set_option maxRecDepth 65536 in
theorem w_ripe : about1.ripe theMethod args0 below0 = true := by decide +kernel
theorem w_running : about1.status = .running := rfl
set_option maxRecDepth 65536 in
theorem w_room : about1.hasRoom e0.platform room_1 = true :=
  launch0.hasRoom_least _ room_1 (by decide +kernel) (by decide +kernel) (by decide +kernel) (by decide +kernel) (by decide +kernel) (by decide +kernel)
theorem allAtoms_all (ts : List Jvm.Cond) (a : Array Jvm.Value) (st : Jvm.State) : (allAtoms ts).before a st = ts.all (fun c => c.before a st) := by
  induction ts with
  | nil => rfl
  | cons c t ih =>
    show (Jvm.Cond.and c (allAtoms t)).before a st = _
    rw [Jvm.Cond.before_and, ih, List.all_cons]
def words1 : List Jvm.Cond := Jvm.Cond.code x code maxLocals ret :: tables_1
/-- a 'code' word, met by the world's own term for the bytes: nothing is compared byte by byte -/
theorem code_word {y : MethodName} {bytes : ByteArray} {mx : Nat} {rt : Option FieldType} {a : Array Value} {s : State} {m : MethodId} {meth : Method} {c : Code} (h1 : s.methodNamed? y = some m) (h2 : s.vm.method? m = some meth) (h3 : meth.code = some c) (h4 : c.code = bytes)
    (h5 : (c.maxLocals == mx && c.exceptionTable.isEmpty && decide (c.maxStack ≤ mostOperands) && decide (meth.sig.returnType = rt) && !meth.locks && decide (parseMethodDescriptor y.desc = some meth.sig)) = true) : (Jvm.Cond.code y bytes mx rt).before a s = true := by
  simp only [Bool.and_eq_true, beq_iff_eq, Bool.not_eq_true', decide_eq_true_eq] at h5
  obtain ⟨⟨⟨⟨⟨g1, g2⟩, g3⟩, g4⟩, g5⟩, g6⟩ := h5
  simp [Cond.before, Cond.holds, Cond.value, h1, h2, h3, h4, g1, g2, g3, g4, g5, g6]
def isCode : Jvm.Cond → Bool
  | .code _ _ _ _ => true
  | _ => false
theorem all_split {L : List Jvm.Cond} {P : Jvm.Cond → Bool} (h1 : L.all (fun c => isCode c || P c) = true) (h2 : ∀ c ∈ L.filter isCode, P c = true) : L.all P = true := by
  refine List.all_eq_true.mpr fun c hc => ?_
  have h := List.all_eq_true.mp h1 c hc
  rcases Bool.eq_false_or_eq_true (isCode c) with hi | hi
  · exact h2 c (List.mem_filter.mpr ⟨hc, hi⟩)
  · simpa [hi] using h
set_option maxRecDepth 65536 in
theorem w_c0 : (Jvm.Cond.code x code maxLocals ret).before args0 about1 = true := code_word (m := ⟨1, 2⟩) (meth := k1m2) (c := k1c2) (by decide +kernel) rfl rfl rfl (by decide +kernel)
set_option maxRecDepth 65536 in
theorem w_c1 : (Jvm.Cond.code ({ cls := "com/example/subscript/subscript/KindEvaluatedAsPinLaw", name := "kindOf", desc := "(I)Lcom/example/subscript/subscript/Type$Kind;" } : Jvm.MethodName) method_2_code (1 : Nat) (Option.some (Jvm.ClassFile.FieldType.object "com/example/subscript/subscript/Type$Kind"))).before args0 about1 = true := code_word (m := ⟨1, 1⟩) (meth := k1m1) (c := k1c1) (by decide +kernel) rfl rfl rfl (by decide +kernel)
set_option maxRecDepth 65536 in
theorem w_c2 : (Jvm.Cond.code ({ cls := "com/example/subscript/subscript/Type$Kind", name := "evaluatedAs", desc := "()Lcom/example/subscript/subscript/Type$Kind;" } : Jvm.MethodName) prog_193_method_4_code (1 : Nat) (Option.some (Jvm.ClassFile.FieldType.object "com/example/subscript/subscript/Type$Kind"))).before args0 about1 = true := code_word (m := ⟨6, 0⟩) (meth := k6m0) (c := k6c0) (by decide +kernel) rfl rfl rfl (by decide +kernel)
def codes1 : List Jvm.Cond := [Jvm.Cond.code x code maxLocals ret, Jvm.Cond.code ({ cls := "com/example/subscript/subscript/KindEvaluatedAsPinLaw", name := "kindOf", desc := "(I)Lcom/example/subscript/subscript/Type$Kind;" } : Jvm.MethodName) method_2_code (1 : Nat) (Option.some (Jvm.ClassFile.FieldType.object "com/example/subscript/subscript/Type$Kind")), Jvm.Cond.code ({ cls := "com/example/subscript/subscript/Type$Kind", name := "evaluatedAs", desc := "()Lcom/example/subscript/subscript/Type$Kind;" } : Jvm.MethodName) prog_193_method_4_code (1 : Nat) (Option.some (Jvm.ClassFile.FieldType.object "com/example/subscript/subscript/Type$Kind"))]
set_option maxRecDepth 65536 in
theorem codes_eq : words1.filter isCode = codes1 := rfl
theorem w_codes : ∀ c ∈ words1.filter isCode, c.before args0 about1 = true := by
  rw [codes_eq]
  intro c hc
  simp only [codes1, List.mem_cons, List.not_mem_nil, or_false] at hc
  rcases hc with rfl | rfl | rfl
  · exact w_c0
  · exact w_c1
  · exact w_c2
set_option maxRecDepth 65536 in
theorem w_t1 : (words1.take 24).all (fun c => isCode c || c.before args0 about1) = true := by decide +kernel
set_option maxRecDepth 65536 in
theorem w_t2 : (words1.drop 24).all (fun c => isCode c || c.before args0 about1) = true := by decide +kernel
theorem w_tables : (allAtoms (Jvm.Cond.code x code maxLocals ret :: tables_1)).before args0 about1 = true := by
  rw [allAtoms_all]
  show words1.all (fun c => c.before args0 about1) = true
  refine all_split ?_ w_codes
  rw [← List.take_append_drop 24 words1, List.all_append, w_t1, w_t2]
  rfl
set_option maxRecDepth 65536 in
theorem w_case : (Jvm.Cond.and given_1 narrow_1).before args0 about1 = true := by decide +kernel
theorem w_applies : (headSpec (Jvm.Cond.code x code maxLocals ret :: tables_1) room_1).applies x e0.platform about1 = true :=
  (Spec.applies_iff w_frames).mpr ⟨w_running, w_runnable, w_alone, w_named, w_hears, w_ripe, w_room, w_tables⟩
theorem atStart : AtStart classFile x code maxLocals ret World_1 tables_1 room_1 Calls_1 rest_1 Pre_1 launch0 p0 e0 about1 theMethod args0 below0 :=
  ⟨lists_1, trivial, launch0.admits_env _ _ _, launch0.least_env, fairChoices_fair.cas, fairChoices_fair.clock, w_frames, w_args, w_heap, w_applies, trivial, trivial, w_case⟩
end start1
theorem witness_1 : WitnessClaimed_1 := ⟨start1.p0, start1.e0, start1.about1, start1.theMethod, start1.args0, start1.below0, start1.atStart⟩
end Jvm.Pilot.@@N@@
