import JvmDerived
import JvmDerived.Pilot.@@N@@Statement
import JvmDerived.Pilot.@@N@@Code
set_option linter.unusedVariables false
set_option linter.unusedSimpArgs false
namespace Jvm.Pilot.@@N@@
open Jvm Jvm.ClassFile Sem Op Lib Jvm.Free Jvm.Stand Jvm.LawKit Jvm.RoadKit Bundle Jvm.Pilot.@@N@@.Jvm.D

/-- the run that stands at the frame f over T ends as Q says -/
def own_Go (p : Program) (e : Env) (below : List Frame) (s : State) (Q : Option Value → Heap → List Loc → Prop) (rc rs : Nat) (T : State) (f : JFrame) : Prop :=
  ∃ s₂ o, Steps p.tables e below (T.setTop f) s₂ ∧ s₂.status = .running ∧ Ended s₂ below o ∧ ∃ v L, o = .returned v ∧ Q v s₂.heap L ∧ FrameEnd s o s₂ L rc rs
theorem own_by {p : Program} {e : Env} {below : List Frame} {s : State} {Q : Option Value → Heap → List Loc → Prop} {rc rs : Nat} {T T' : State} {f f' : JFrame} (k : ∀ t, Steps p.tables e below (T'.setTop f') t → Steps p.tables e below (T.setTop f) t) (h : own_Go p e below s Q rc rs T' f') : own_Go p e below s Q rc rs T f := by
  obtain ⟨s₂, o, st, r⟩ := h
  exact ⟨s₂, o, k _ st, r⟩
theorem own_mk {p : Program} {e : Env} {below : List Frame} {s : State} {Q : Option Value → Heap → List Loc → Prop} {rc rs : Nat} {T : State} {f : JFrame} (h : ∃ s₂ o, Steps p.tables e below (T.setTop f) s₂ ∧ s₂.status = .running ∧ Ended s₂ below o ∧ ∃ v L, o = .returned v ∧ Q v s₂.heap L ∧ FrameEnd s o s₂ L rc rs) : own_Go p e below s Q rc rs T f := h
theorem own_open {p : Program} {e : Env} {below : List Frame} {s : State} {Q : Option Value → Heap → List Loc → Prop} {rc rs : Nat} {T : State} {f f0 : JFrame} (k : ∀ t, Steps p.tables e below (T.setTop f) t → Steps p.tables e below (T.setTop f0) t) (h : own_Go p e below s Q rc rs T f) : ∃ s₂ o, Steps p.tables e below (T.setTop f0) s₂ ∧ s₂.status = .running ∧ Ended s₂ below o ∧ ∃ v L, o = .returned v ∧ Q v s₂.heap L ∧ FrameEnd s o s₂ L rc rs := by
  obtain ⟨s₂, o, st, r⟩ := h
  exact ⟨s₂, o, k _ st, r⟩
theorem own_eqI {args : Array Value} {s : State} {a : Term} {k : Int32} (h : (Cond.eq a (.int k)).value args s none s [] = some true) : a.eval args s none [] s = some (.int k) := by
  obtain ⟨x, y, h1, h2, -, K⟩ := cmp_v (Or.inl h)
  have e : y = .int k := (Option.some.inj h2).symm
  subst e
  obtain ⟨z, rfl⟩ := K
  have q : z = k := by simpa [Cond.value, h1, h2] using h
  rw [h1, q]
theorem own_extt {h h' h'' : Heap} (E : Ext h h') (E' : Ext h' h'') : Ext h h'' := ⟨Nat.le_trans E.1 E'.1, fun a c q => E'.2 a c (E.2 a c q)⟩
theorem own_extw {h h' h'' : Heap} {a : Addr} {sl : Nat} {v : Value} (E : Ext h h') (W : Wr h' h'' a sl v) (g : h.size ≤ a) : Ext h h'' := by
  refine ⟨Nat.le_trans E.1 (Nat.le_of_eq W.size.symm), fun b c q => ?_⟩
  have ne : b ≠ a := Nat.ne_of_lt (Nat.lt_of_lt_of_le (Array.getElem?_eq_some_iff.mp q).1 g)
  obtain ⟨cell, -, -, -, rfl⟩ := W
  rw [Array.getElem?_setIfInBounds_ne (Ne.symm ne)]
  exact E.2 b c q
theorem own_eqL {args : Array Value} {s : State} {a : Term} {k : Int64} (h : (Cond.eq a (.long k)).value args s none s [] = some true) : a.eval args s none [] s = some (.long k) := by
  obtain ⟨x, y, h1, h2, -, K⟩ := cmp_v (Or.inl h)
  have e : y = .long k := (Option.some.inj h2).symm
  subst e
  obtain ⟨z, rfl⟩ := K
  have q : z = k := by simpa [Cond.value, h1, h2] using h
  rw [h1, q]
theorem own_eqR {args : Array Value} {s : State} {a b : Term} {r : Addr} (h : (Cond.eq a b).value args s none s [] = some true) (hb : b.eval args s none [] s = some (.ref r)) : a.eval args s none [] s = some (.ref r) := by
  obtain ⟨x, y, h1, h2, -, K⟩ := cmp_v (Or.inl h)
  cases hb.symm.trans h2
  rcases ref_cases K.2 with rfl | ⟨q, rfl⟩
  · simp [Cond.value, h1, h2] at h
  · have e : q = r := by simpa [Cond.value, h1, h2] using h
    rw [h1, e]
theorem own_cmp0 {x y : Int64} (h : x = y) : XT.cmpL x y = 0 := by subst h; unfold XT.cmpL; rw [if_neg (by simp), if_pos rfl]
theorem own_cmp1 {x y : Int64} (h : ¬ x = y) : ¬ XT.cmpL x y = 0 := by
  unfold XT.cmpL
  by_cases q : y < x
  · rw [if_pos q]; decide
  · rw [if_neg q, if_neg h]; decide
theorem own_fldL {args : Array Value} {s : State} {t : Term} {C n d : String} {x : Addr} {k : Int64} (ev : t.eval args s none [] s = some (.ref x)) (h : (Cond.eq (.field t C n d) (.long k)).value args s none s [] = some true) : Fld s s.heap x C n d (.long k) := Fld.start ((fld_at ev).symm.trans (own_eqL h))
theorem own_fld {args : Array Value} {s : State} {t : Term} {C n d : String} {x : Addr} {k : Int32} (ev : t.eval args s none [] s = some (.ref x)) (h : (Cond.eq (.field t C n d) (.int k)).value args s none s [] = some true) : Fld s s.heap x C n d (.int k) := Fld.start ((fld_at ev).symm.trans (own_eqI h))

def own_f (k : Int32) (w_EMPTY w_BOUNDED w_FIXED w_NAMED w_STRUCT w_UNION w_ENUM w_SEQUENCE w_ALIAS w_VALUE : Addr) : Addr :=
  if k = 18 ∨ k = 27 then w_BOUNDED else if k = 28 then w_FIXED else if k = 14 ∨ (¬ k < 31 ∧ ¬ 35 < k) then w_NAMED else if k = 15 ∨ k = 22 then w_STRUCT else if k = 16 then w_UNION else if k = 17 then w_ENUM else if k = 19 ∨ k = 20 then w_SEQUENCE else if k = 21 ∨ k = 30 then w_ALIAS else if k = 29 ∨ k = 36 then w_VALUE else w_EMPTY
theorem own_in (k : Int32) (h : ¬ (k.toInt < 14 ∨ k.toInt > 36)) : k = 14 ∨ k = 15 ∨ k = 16 ∨ k = 17 ∨ k = 18 ∨ k = 19 ∨ k = 20 ∨ k = 21 ∨ k = 22 ∨ k = 23 ∨ k = 24 ∨ k = 25 ∨ k = 26 ∨ k = 27 ∨ k = 28 ∨ k = 29 ∨ k = 30 ∨ k = 31 ∨ k = 32 ∨ k = 33 ∨ k = 34 ∨ k = 35 ∨ k = 36 := by
  simp only [← Int32.toInt_inj, Int32.reduceToInt]
  omega
theorem own_out (k : Int32) (h : k.toInt < 14 ∨ k.toInt > 36) (w_EMPTY w_BOUNDED w_FIXED w_NAMED w_STRUCT w_UNION w_ENUM w_SEQUENCE w_ALIAS w_VALUE : Addr) : own_f k w_EMPTY w_BOUNDED w_FIXED w_NAMED w_STRUCT w_UNION w_ENUM w_SEQUENCE w_ALIAS w_VALUE = w_EMPTY := by
  have n : ∀ j : Int32, 14 ≤ j.toInt → j.toInt ≤ 36 → ¬ k = j := fun j h1 h2 e => by subst e; omega
  have q : ¬ (¬ k < 31 ∧ ¬ 35 < k) := by simp only [Int32.lt_iff_toInt_lt, Int32.reduceToInt]; omega
  unfold own_f
  rw [if_neg (fun z => z.elim (n 18 (by decide) (by decide)) (n 27 (by decide) (by decide))), if_neg (n 28 (by decide) (by decide)), if_neg (fun z => z.elim (n 14 (by decide) (by decide)) q), if_neg (fun z => z.elim (n 15 (by decide) (by decide)) (n 22 (by decide) (by decide))), if_neg (n 16 (by decide) (by decide)), if_neg (n 17 (by decide) (by decide)), if_neg (fun z => z.elim (n 19 (by decide) (by decide)) (n 20 (by decide) (by decide))), if_neg (fun z => z.elim (n 21 (by decide) (by decide)) (n 30 (by decide) (by decide))), if_neg (fun z => z.elim (n 29 (by decide) (by decide)) (n 36 (by decide) (by decide)))]
theorem own_all {P : Addr → Prop} (k : Int32) {w_EMPTY w_BOUNDED w_FIXED w_NAMED w_STRUCT w_UNION w_ENUM w_SEQUENCE w_ALIAS w_VALUE : Addr} (h_EMPTY : P w_EMPTY) (h_BOUNDED : P w_BOUNDED) (h_FIXED : P w_FIXED) (h_NAMED : P w_NAMED) (h_STRUCT : P w_STRUCT) (h_UNION : P w_UNION) (h_ENUM : P w_ENUM) (h_SEQUENCE : P w_SEQUENCE) (h_ALIAS : P w_ALIAS) (h_VALUE : P w_VALUE) : P (own_f k w_EMPTY w_BOUNDED w_FIXED w_NAMED w_STRUCT w_UNION w_ENUM w_SEQUENCE w_ALIAS w_VALUE) := by
  unfold own_f
  repeat' split
  all_goals assumption
theorem own_no (k : Int32) (w_EMPTY w_BOUNDED w_FIXED w_NAMED w_STRUCT w_UNION w_ENUM w_SEQUENCE w_ALIAS w_VALUE : Addr) (ne_EMPTY_STRUCT : ¬ (w_EMPTY = w_STRUCT)) (ne_EMPTY_UNION : ¬ (w_EMPTY = w_UNION)) (ne_EMPTY_ENUM : ¬ (w_EMPTY = w_ENUM)) (ne_EMPTY_VALUE : ¬ (w_EMPTY = w_VALUE)) (ne_BOUNDED_STRUCT : ¬ (w_BOUNDED = w_STRUCT)) (ne_BOUNDED_UNION : ¬ (w_BOUNDED = w_UNION)) (ne_BOUNDED_ENUM : ¬ (w_BOUNDED = w_ENUM)) (ne_BOUNDED_VALUE : ¬ (w_BOUNDED = w_VALUE)) (ne_FIXED_STRUCT : ¬ (w_FIXED = w_STRUCT)) (ne_FIXED_UNION : ¬ (w_FIXED = w_UNION)) (ne_FIXED_ENUM : ¬ (w_FIXED = w_ENUM)) (ne_FIXED_VALUE : ¬ (w_FIXED = w_VALUE)) (ne_NAMED_STRUCT : ¬ (w_NAMED = w_STRUCT)) (ne_NAMED_UNION : ¬ (w_NAMED = w_UNION)) (ne_NAMED_ENUM : ¬ (w_NAMED = w_ENUM)) (ne_NAMED_VALUE : ¬ (w_NAMED = w_VALUE)) (ne_SEQUENCE_STRUCT : ¬ (w_SEQUENCE = w_STRUCT)) (ne_SEQUENCE_UNION : ¬ (w_SEQUENCE = w_UNION)) (ne_SEQUENCE_ENUM : ¬ (w_SEQUENCE = w_ENUM)) (ne_SEQUENCE_VALUE : ¬ (w_SEQUENCE = w_VALUE)) (ne_ALIAS_STRUCT : ¬ (w_ALIAS = w_STRUCT)) (ne_ALIAS_UNION : ¬ (w_ALIAS = w_UNION)) (ne_ALIAS_ENUM : ¬ (w_ALIAS = w_ENUM)) (ne_ALIAS_VALUE : ¬ (w_ALIAS = w_VALUE)) (h1 : ¬ k = 15) (h2 : ¬ k = 22) (h3 : ¬ k = 16) (h4 : ¬ k = 17) (h5 : ¬ k = 29) (h6 : ¬ k = 36) : ¬ (own_f k w_EMPTY w_BOUNDED w_FIXED w_NAMED w_STRUCT w_UNION w_ENUM w_SEQUENCE w_ALIAS w_VALUE = w_STRUCT ∨ own_f k w_EMPTY w_BOUNDED w_FIXED w_NAMED w_STRUCT w_UNION w_ENUM w_SEQUENCE w_ALIAS w_VALUE = w_UNION ∨ own_f k w_EMPTY w_BOUNDED w_FIXED w_NAMED w_STRUCT w_UNION w_ENUM w_SEQUENCE w_ALIAS w_VALUE = w_ENUM ∨ own_f k w_EMPTY w_BOUNDED w_FIXED w_NAMED w_STRUCT w_UNION w_ENUM w_SEQUENCE w_ALIAS w_VALUE = w_VALUE) := by
  unfold own_f
  rw [if_neg (fun z : k = 15 ∨ k = 22 => z.elim h1 h2), if_neg h3, if_neg h4, if_neg (fun z : k = 29 ∨ k = 36 => z.elim h5 h6)]
  repeat' split
  all_goals simp [*]
theorem d1_0 : decode prog_124_method_4_code 0 = .ok (.iload_n 0, 1) := by decide +kernel
theorem d1_1 : decode prog_124_method_4_code 1 = .ok (.tableswitch 161 14 36 #[119, 125, 131, 137, 107, 143, 143, 149, 125, 161, 161, 161, 161, 107, 113, 155, 149, 119, 119, 119, 119, 119, 155], 107) := by decide +kernel
theorem d1_108 : decode prog_124_method_4_code 108 = .ok (.getstatic 9, 3) := by decide +kernel
theorem d1_111 : decode prog_124_method_4_code 111 = .ok (.goto 54, 3) := by decide +kernel
theorem d1_114 : decode prog_124_method_4_code 114 = .ok (.getstatic 12, 3) := by decide +kernel
theorem d1_117 : decode prog_124_method_4_code 117 = .ok (.goto 48, 3) := by decide +kernel
theorem d1_120 : decode prog_124_method_4_code 120 = .ok (.getstatic 15, 3) := by decide +kernel
theorem d1_123 : decode prog_124_method_4_code 123 = .ok (.goto 42, 3) := by decide +kernel
theorem d1_126 : decode prog_124_method_4_code 126 = .ok (.getstatic 18, 3) := by decide +kernel
theorem d1_129 : decode prog_124_method_4_code 129 = .ok (.goto 36, 3) := by decide +kernel
theorem d1_132 : decode prog_124_method_4_code 132 = .ok (.getstatic 21, 3) := by decide +kernel
theorem d1_135 : decode prog_124_method_4_code 135 = .ok (.goto 30, 3) := by decide +kernel
theorem d1_138 : decode prog_124_method_4_code 138 = .ok (.getstatic 24, 3) := by decide +kernel
theorem d1_141 : decode prog_124_method_4_code 141 = .ok (.goto 24, 3) := by decide +kernel
theorem d1_144 : decode prog_124_method_4_code 144 = .ok (.getstatic 27, 3) := by decide +kernel
theorem d1_147 : decode prog_124_method_4_code 147 = .ok (.goto 18, 3) := by decide +kernel
theorem d1_150 : decode prog_124_method_4_code 150 = .ok (.getstatic 30, 3) := by decide +kernel
theorem d1_153 : decode prog_124_method_4_code 153 = .ok (.goto 12, 3) := by decide +kernel
theorem d1_156 : decode prog_124_method_4_code 156 = .ok (.getstatic 33, 3) := by decide +kernel
theorem d1_159 : decode prog_124_method_4_code 159 = .ok (.goto 6, 3) := by decide +kernel
theorem d1_162 : decode prog_124_method_4_code 162 = .ok (.getstatic 5, 3) := by decide +kernel
theorem d1_165 : decode prog_124_method_4_code 165 = .ok (.areturn, 1) := by decide +kernel
theorem own_pn1 : plainName "com/example/orbweave/orbweave/orb/TypeCodeShape" = true := by first | (simp [plainName, overriddenIn]; done) | decide +kernel
theorem own_ef1 (m : MethodId) (x0 : Int32) : entryFrame m #[(.int x0)] 1 = mkF m 0 #[.val (.int x0)] [] := by first | (simp [entryFrame, mkF, argsToLocals, Value.category, maxLocals]; done) | rfl
theorem own_pd1 : parseMethodDescriptor "(I)Lcom/example/orbweave/orbweave/orb/TypeCodeShape;" = some ⟨[.int], some (.object "com/example/orbweave/orbweave/orb/TypeCodeShape")⟩ := by decide +kernel
def Q1 (p1 : Int32) (w_EMPTY w_BOUNDED w_FIXED w_NAMED w_STRUCT w_UNION w_ENUM w_SEQUENCE w_ALIAS w_VALUE : Addr) (h0 : Heap) (n0 : Nat) (v : Option Value) (h : Heap) (L : List Loc) : Prop := v = some (.ref (own_f p1 w_EMPTY w_BOUNDED w_FIXED w_NAMED w_STRUCT w_UNION w_ENUM w_SEQUENCE w_ALIAS w_VALUE)) ∧ Fr n0 L ∧ h = h0
set_option maxRecDepth 65536 in
set_option maxHeartbeats 40000000 in
theorem rm1 (l : Launch) (Z : State) (a0 : Array Value) (hw : ∀ d ∈ tables_1, d.before a0 Z = true) (ws : List Jvm.Cond) (p1 : Int32) (w_EMPTY w_BOUNDED w_FIXED w_NAMED w_STRUCT w_UNION w_ENUM w_SEQUENCE w_ALIAS w_VALUE : Addr) (h0 : Heap) (n0 : Nat) (Z0 : n0 ≤ h0.size) (S_EMPTY : Sta Z h0 "com/example/orbweave/orbweave/orb/TypeCodeShape" "EMPTY" "Lcom/example/orbweave/orbweave/orb/TypeCodeShape;" (.ref w_EMPTY)) (S_BOUNDED : Sta Z h0 "com/example/orbweave/orbweave/orb/TypeCodeShape" "BOUNDED" "Lcom/example/orbweave/orbweave/orb/TypeCodeShape;" (.ref w_BOUNDED)) (S_FIXED : Sta Z h0 "com/example/orbweave/orbweave/orb/TypeCodeShape" "FIXED" "Lcom/example/orbweave/orbweave/orb/TypeCodeShape;" (.ref w_FIXED)) (S_NAMED : Sta Z h0 "com/example/orbweave/orbweave/orb/TypeCodeShape" "NAMED" "Lcom/example/orbweave/orbweave/orb/TypeCodeShape;" (.ref w_NAMED)) (S_STRUCT : Sta Z h0 "com/example/orbweave/orbweave/orb/TypeCodeShape" "STRUCT" "Lcom/example/orbweave/orbweave/orb/TypeCodeShape;" (.ref w_STRUCT)) (S_UNION : Sta Z h0 "com/example/orbweave/orbweave/orb/TypeCodeShape" "UNION" "Lcom/example/orbweave/orbweave/orb/TypeCodeShape;" (.ref w_UNION)) (S_ENUM : Sta Z h0 "com/example/orbweave/orbweave/orb/TypeCodeShape" "ENUM" "Lcom/example/orbweave/orbweave/orb/TypeCodeShape;" (.ref w_ENUM)) (S_SEQUENCE : Sta Z h0 "com/example/orbweave/orbweave/orb/TypeCodeShape" "SEQUENCE" "Lcom/example/orbweave/orbweave/orb/TypeCodeShape;" (.ref w_SEQUENCE)) (S_ALIAS : Sta Z h0 "com/example/orbweave/orbweave/orb/TypeCodeShape" "ALIAS" "Lcom/example/orbweave/orbweave/orb/TypeCodeShape;" (.ref w_ALIAS)) (S_VALUE : Sta Z h0 "com/example/orbweave/orbweave/orb/TypeCodeShape" "VALUE" "Lcom/example/orbweave/orbweave/orb/TypeCodeShape;" (.ref w_VALUE)) :
    MetFree l (⟨"com/example/orbweave/orbweave/orb/TypeCodeShape", "of", "(I)Lcom/example/orbweave/orbweave/orb/TypeCodeShape;"⟩ : MethodName) (head1 (Jvm.Cond.code (⟨"com/example/orbweave/orbweave/orb/TypeCodeShape", "of", "(I)Lcom/example/orbweave/orbweave/orb/TypeCodeShape;"⟩ : MethodName) prog_124_method_4_code 1 (Option.some (Jvm.ClassFile.FieldType.object "com/example/orbweave/orbweave/orb/TypeCodeShape")) :: ws) ({ frames := 0, cells := 0, slots := 0, locals := 0 } : Room)) (fun a U => a = #[(.int p1)] ∧ Z.Warmed39 U.vm ∧ U.heap = h0) (fun _ _ _ _ _ => True) (fun _ U o U' => ∃ v L, o = .returned v ∧ Q1 p1 w_EMPTY w_BOUNDED w_FIXED w_NAMED w_STRUCT w_UNION w_ENUM w_SEQUENCE w_ALIAS w_VALUE h0 n0 v U'.heap L ∧ FrameEnd U o U' L ({ frames := 0, cells := 0, slots := 0, locals := 0 } : Room).cells ({ frames := 0, cells := 0, slots := 0, locals := 0 } : Room).slots) := by
  refine MetFree.of_bodySF (plainFor_of_name own_pn1) hisR ?_
  intro p e s m args below meth c s₁ Bd hml0 hP hK
  obtain ⟨rfl, hZ, hh⟩ := hP
  have hx := Bd.exec
  have hby := Bd.bytes
  have hml : c.maxLocals = 1 := hml0
  have hown : s.vm.findClass "com/example/orbweave/orbweave/orb/TypeCodeShape" = some m.cls := findClass_of_methodNamed Bd.named
  have hnm := (name_of_methodNamed Bd.named Bd.method).1
  have X0 : Stand p l e ({ frames := 0, cells := 0, slots := 0, locals := 0 } : Room) s m #[(.int p1)] below meth c s₁ [] 0 0 := Stand.of_body Bd
  have e0 : s₁.heap = h0 := by rw [← hh, Bd.state]; rfl
  have N0 := Fr.nil n0
  refine own_open (f := (mkF m 0 #[.val (.int p1)] [])) (fun t k => castTop (own_ef1 m p1) k) ?_
  refine own_by (f' := (mkF m 1 #[.val (.int p1)] [(.int p1)])) (fun t h => XS.iloadN X0.here hx rfl (hb hby d1_0) rfl h) ?_
  by_cases hin : p1.toInt < 14 ∨ p1.toInt > 36
  · refine own_by (f' := (mkF m 162 #[.val (.int p1)] [])) (fun t h => XS.tswOut X0.here hx rfl (pc0 := 1) (pc' := 162) rfl (hb hby d1_1) rfl hin (by decide) (by decide) h) ?_
    obtain ⟨T1, X1, e1, st1⟩ := getS2 X0 hx hZ hown (host := "") (Or.inl (hw _ (List.mem_of_getElem? (i := 5) rfl))) Via.refl e0 S_EMPTY (g := (mkF m 162 #[.val (.int p1)] [])) rfl (hb hby d1_162)
    refine own_by (f' := (mkF m 165 #[.val (.int p1)] [(.ref w_EMPTY)])) st1 ?_
    obtain ⟨fs, hr, hrun, hended, hW, hsame⟩ := X1.leave (v := some (.ref w_EMPTY)) (fun h => by rw [Bd.returns] at h; cases h)
    refine own_mk ⟨_, _, retOut X1 hx Bd.returns rfl (Or.inr (Or.inr (Or.inr (Or.inr ⟨rfl, rfl, rfl⟩)))) (hb hby d1_165) hr, hrun, hended, _, _, rfl, ?_, ⟨_, rfl⟩, hW, hsame.mono (by decide) (by decide)⟩
    show Q1 p1 w_EMPTY w_BOUNDED w_FIXED w_NAMED w_STRUCT w_UNION w_ENUM w_SEQUENCE w_ALIAS w_VALUE h0 n0 _ T1.heap _
    rw [e1]
    exact ⟨by rw [own_out p1 hin], N0, rfl⟩
  · rcases own_in p1 hin with hk | hk | hk | hk | hk | hk | hk | hk | hk | hk | hk | hk | hk | hk | hk | hk | hk | hk | hk | hk | hk | hk | hk
    · refine own_by (f' := (mkF m 120 #[.val (.int p1)] [])) (fun t h => XS.tswIn X0.here hx rfl (o := 119) (pc0 := 1) (pc' := 120) rfl (hb hby d1_1) rfl hin (by rw [hk]; rfl) (by decide) (by decide) h) ?_
      obtain ⟨T2, X2, e2, st2⟩ := getS2 X0 hx hZ hown (host := "") (Or.inl (hw _ (List.mem_of_getElem? (i := 20) rfl))) Via.refl e0 S_NAMED (g := (mkF m 120 #[.val (.int p1)] [])) rfl (hb hby d1_120)
      refine own_by (f' := (mkF m 123 #[.val (.int p1)] [(.ref w_NAMED)])) st2 ?_
      refine own_by (f' := (mkF m 165 #[.val (.int p1)] [(.ref w_NAMED)])) (fun t h => XS.goto X2.here hx rfl (pc0 := 123) (pc' := 165) rfl (hb hby d1_123) (by decide) (by decide) h) ?_
      obtain ⟨fs, hr, hrun, hended, hW, hsame⟩ := X2.leave (v := some (.ref w_NAMED)) (fun h => by rw [Bd.returns] at h; cases h)
      refine own_mk ⟨_, _, retOut X2 hx Bd.returns rfl (Or.inr (Or.inr (Or.inr (Or.inr ⟨rfl, rfl, rfl⟩)))) (hb hby d1_165) hr, hrun, hended, _, _, rfl, ?_, ⟨_, rfl⟩, hW, hsame.mono (by decide) (by decide)⟩
      show Q1 p1 w_EMPTY w_BOUNDED w_FIXED w_NAMED w_STRUCT w_UNION w_ENUM w_SEQUENCE w_ALIAS w_VALUE h0 n0 _ T2.heap _
      rw [e2]
      exact ⟨by rw [hk]; rfl, N0, rfl⟩
    · refine own_by (f' := (mkF m 126 #[.val (.int p1)] [])) (fun t h => XS.tswIn X0.here hx rfl (o := 125) (pc0 := 1) (pc' := 126) rfl (hb hby d1_1) rfl hin (by rw [hk]; rfl) (by decide) (by decide) h) ?_
      obtain ⟨T3, X3, e3, st3⟩ := getS2 X0 hx hZ hown (host := "") (Or.inl (hw _ (List.mem_of_getElem? (i := 12) rfl))) Via.refl e0 S_STRUCT (g := (mkF m 126 #[.val (.int p1)] [])) rfl (hb hby d1_126)
      refine own_by (f' := (mkF m 129 #[.val (.int p1)] [(.ref w_STRUCT)])) st3 ?_
      refine own_by (f' := (mkF m 165 #[.val (.int p1)] [(.ref w_STRUCT)])) (fun t h => XS.goto X3.here hx rfl (pc0 := 129) (pc' := 165) rfl (hb hby d1_129) (by decide) (by decide) h) ?_
      obtain ⟨fs, hr, hrun, hended, hW, hsame⟩ := X3.leave (v := some (.ref w_STRUCT)) (fun h => by rw [Bd.returns] at h; cases h)
      refine own_mk ⟨_, _, retOut X3 hx Bd.returns rfl (Or.inr (Or.inr (Or.inr (Or.inr ⟨rfl, rfl, rfl⟩)))) (hb hby d1_165) hr, hrun, hended, _, _, rfl, ?_, ⟨_, rfl⟩, hW, hsame.mono (by decide) (by decide)⟩
      show Q1 p1 w_EMPTY w_BOUNDED w_FIXED w_NAMED w_STRUCT w_UNION w_ENUM w_SEQUENCE w_ALIAS w_VALUE h0 n0 _ T3.heap _
      rw [e3]
      exact ⟨by rw [hk]; rfl, N0, rfl⟩
    · refine own_by (f' := (mkF m 132 #[.val (.int p1)] [])) (fun t h => XS.tswIn X0.here hx rfl (o := 131) (pc0 := 1) (pc' := 132) rfl (hb hby d1_1) rfl hin (by rw [hk]; rfl) (by decide) (by decide) h) ?_
      obtain ⟨T4, X4, e4, st4⟩ := getS2 X0 hx hZ hown (host := "") (Or.inl (hw _ (List.mem_of_getElem? (i := 14) rfl))) Via.refl e0 S_UNION (g := (mkF m 132 #[.val (.int p1)] [])) rfl (hb hby d1_132)
      refine own_by (f' := (mkF m 135 #[.val (.int p1)] [(.ref w_UNION)])) st4 ?_
      refine own_by (f' := (mkF m 165 #[.val (.int p1)] [(.ref w_UNION)])) (fun t h => XS.goto X4.here hx rfl (pc0 := 135) (pc' := 165) rfl (hb hby d1_135) (by decide) (by decide) h) ?_
      obtain ⟨fs, hr, hrun, hended, hW, hsame⟩ := X4.leave (v := some (.ref w_UNION)) (fun h => by rw [Bd.returns] at h; cases h)
      refine own_mk ⟨_, _, retOut X4 hx Bd.returns rfl (Or.inr (Or.inr (Or.inr (Or.inr ⟨rfl, rfl, rfl⟩)))) (hb hby d1_165) hr, hrun, hended, _, _, rfl, ?_, ⟨_, rfl⟩, hW, hsame.mono (by decide) (by decide)⟩
      show Q1 p1 w_EMPTY w_BOUNDED w_FIXED w_NAMED w_STRUCT w_UNION w_ENUM w_SEQUENCE w_ALIAS w_VALUE h0 n0 _ T4.heap _
      rw [e4]
      exact ⟨by rw [hk]; rfl, N0, rfl⟩
    · refine own_by (f' := (mkF m 138 #[.val (.int p1)] [])) (fun t h => XS.tswIn X0.here hx rfl (o := 137) (pc0 := 1) (pc' := 138) rfl (hb hby d1_1) rfl hin (by rw [hk]; rfl) (by decide) (by decide) h) ?_
      obtain ⟨T5, X5, e5, st5⟩ := getS2 X0 hx hZ hown (host := "") (Or.inl (hw _ (List.mem_of_getElem? (i := 16) rfl))) Via.refl e0 S_ENUM (g := (mkF m 138 #[.val (.int p1)] [])) rfl (hb hby d1_138)
      refine own_by (f' := (mkF m 141 #[.val (.int p1)] [(.ref w_ENUM)])) st5 ?_
      refine own_by (f' := (mkF m 165 #[.val (.int p1)] [(.ref w_ENUM)])) (fun t h => XS.goto X5.here hx rfl (pc0 := 141) (pc' := 165) rfl (hb hby d1_141) (by decide) (by decide) h) ?_
      obtain ⟨fs, hr, hrun, hended, hW, hsame⟩ := X5.leave (v := some (.ref w_ENUM)) (fun h => by rw [Bd.returns] at h; cases h)
      refine own_mk ⟨_, _, retOut X5 hx Bd.returns rfl (Or.inr (Or.inr (Or.inr (Or.inr ⟨rfl, rfl, rfl⟩)))) (hb hby d1_165) hr, hrun, hended, _, _, rfl, ?_, ⟨_, rfl⟩, hW, hsame.mono (by decide) (by decide)⟩
      show Q1 p1 w_EMPTY w_BOUNDED w_FIXED w_NAMED w_STRUCT w_UNION w_ENUM w_SEQUENCE w_ALIAS w_VALUE h0 n0 _ T5.heap _
      rw [e5]
      exact ⟨by rw [hk]; rfl, N0, rfl⟩
    · refine own_by (f' := (mkF m 108 #[.val (.int p1)] [])) (fun t h => XS.tswIn X0.here hx rfl (o := 107) (pc0 := 1) (pc' := 108) rfl (hb hby d1_1) rfl hin (by rw [hk]; rfl) (by decide) (by decide) h) ?_
      obtain ⟨T6, X6, e6, st6⟩ := getS2 X0 hx hZ hown (host := "") (Or.inl (hw _ (List.mem_of_getElem? (i := 26) rfl))) Via.refl e0 S_BOUNDED (g := (mkF m 108 #[.val (.int p1)] [])) rfl (hb hby d1_108)
      refine own_by (f' := (mkF m 111 #[.val (.int p1)] [(.ref w_BOUNDED)])) st6 ?_
      refine own_by (f' := (mkF m 165 #[.val (.int p1)] [(.ref w_BOUNDED)])) (fun t h => XS.goto X6.here hx rfl (pc0 := 111) (pc' := 165) rfl (hb hby d1_111) (by decide) (by decide) h) ?_
      obtain ⟨fs, hr, hrun, hended, hW, hsame⟩ := X6.leave (v := some (.ref w_BOUNDED)) (fun h => by rw [Bd.returns] at h; cases h)
      refine own_mk ⟨_, _, retOut X6 hx Bd.returns rfl (Or.inr (Or.inr (Or.inr (Or.inr ⟨rfl, rfl, rfl⟩)))) (hb hby d1_165) hr, hrun, hended, _, _, rfl, ?_, ⟨_, rfl⟩, hW, hsame.mono (by decide) (by decide)⟩
      show Q1 p1 w_EMPTY w_BOUNDED w_FIXED w_NAMED w_STRUCT w_UNION w_ENUM w_SEQUENCE w_ALIAS w_VALUE h0 n0 _ T6.heap _
      rw [e6]
      exact ⟨by rw [hk]; rfl, N0, rfl⟩
    · refine own_by (f' := (mkF m 144 #[.val (.int p1)] [])) (fun t h => XS.tswIn X0.here hx rfl (o := 143) (pc0 := 1) (pc' := 144) rfl (hb hby d1_1) rfl hin (by rw [hk]; rfl) (by decide) (by decide) h) ?_
      obtain ⟨T7, X7, e7, st7⟩ := getS2 X0 hx hZ hown (host := "") (Or.inl (hw _ (List.mem_of_getElem? (i := 28) rfl))) Via.refl e0 S_SEQUENCE (g := (mkF m 144 #[.val (.int p1)] [])) rfl (hb hby d1_144)
      refine own_by (f' := (mkF m 147 #[.val (.int p1)] [(.ref w_SEQUENCE)])) st7 ?_
      refine own_by (f' := (mkF m 165 #[.val (.int p1)] [(.ref w_SEQUENCE)])) (fun t h => XS.goto X7.here hx rfl (pc0 := 147) (pc' := 165) rfl (hb hby d1_147) (by decide) (by decide) h) ?_
      obtain ⟨fs, hr, hrun, hended, hW, hsame⟩ := X7.leave (v := some (.ref w_SEQUENCE)) (fun h => by rw [Bd.returns] at h; cases h)
      refine own_mk ⟨_, _, retOut X7 hx Bd.returns rfl (Or.inr (Or.inr (Or.inr (Or.inr ⟨rfl, rfl, rfl⟩)))) (hb hby d1_165) hr, hrun, hended, _, _, rfl, ?_, ⟨_, rfl⟩, hW, hsame.mono (by decide) (by decide)⟩
      show Q1 p1 w_EMPTY w_BOUNDED w_FIXED w_NAMED w_STRUCT w_UNION w_ENUM w_SEQUENCE w_ALIAS w_VALUE h0 n0 _ T7.heap _
      rw [e7]
      exact ⟨by rw [hk]; rfl, N0, rfl⟩
    · refine own_by (f' := (mkF m 144 #[.val (.int p1)] [])) (fun t h => XS.tswIn X0.here hx rfl (o := 143) (pc0 := 1) (pc' := 144) rfl (hb hby d1_1) rfl hin (by rw [hk]; rfl) (by decide) (by decide) h) ?_
      obtain ⟨T8, X8, e8, st8⟩ := getS2 X0 hx hZ hown (host := "") (Or.inl (hw _ (List.mem_of_getElem? (i := 28) rfl))) Via.refl e0 S_SEQUENCE (g := (mkF m 144 #[.val (.int p1)] [])) rfl (hb hby d1_144)
      refine own_by (f' := (mkF m 147 #[.val (.int p1)] [(.ref w_SEQUENCE)])) st8 ?_
      refine own_by (f' := (mkF m 165 #[.val (.int p1)] [(.ref w_SEQUENCE)])) (fun t h => XS.goto X8.here hx rfl (pc0 := 147) (pc' := 165) rfl (hb hby d1_147) (by decide) (by decide) h) ?_
      obtain ⟨fs, hr, hrun, hended, hW, hsame⟩ := X8.leave (v := some (.ref w_SEQUENCE)) (fun h => by rw [Bd.returns] at h; cases h)
      refine own_mk ⟨_, _, retOut X8 hx Bd.returns rfl (Or.inr (Or.inr (Or.inr (Or.inr ⟨rfl, rfl, rfl⟩)))) (hb hby d1_165) hr, hrun, hended, _, _, rfl, ?_, ⟨_, rfl⟩, hW, hsame.mono (by decide) (by decide)⟩
      show Q1 p1 w_EMPTY w_BOUNDED w_FIXED w_NAMED w_STRUCT w_UNION w_ENUM w_SEQUENCE w_ALIAS w_VALUE h0 n0 _ T8.heap _
      rw [e8]
      exact ⟨by rw [hk]; rfl, N0, rfl⟩
    · refine own_by (f' := (mkF m 150 #[.val (.int p1)] [])) (fun t h => XS.tswIn X0.here hx rfl (o := 149) (pc0 := 1) (pc' := 150) rfl (hb hby d1_1) rfl hin (by rw [hk]; rfl) (by decide) (by decide) h) ?_
      obtain ⟨T9, X9, e9, st9⟩ := getS2 X0 hx hZ hown (host := "") (Or.inl (hw _ (List.mem_of_getElem? (i := 24) rfl))) Via.refl e0 S_ALIAS (g := (mkF m 150 #[.val (.int p1)] [])) rfl (hb hby d1_150)
      refine own_by (f' := (mkF m 153 #[.val (.int p1)] [(.ref w_ALIAS)])) st9 ?_
      refine own_by (f' := (mkF m 165 #[.val (.int p1)] [(.ref w_ALIAS)])) (fun t h => XS.goto X9.here hx rfl (pc0 := 153) (pc' := 165) rfl (hb hby d1_153) (by decide) (by decide) h) ?_
      obtain ⟨fs, hr, hrun, hended, hW, hsame⟩ := X9.leave (v := some (.ref w_ALIAS)) (fun h => by rw [Bd.returns] at h; cases h)
      refine own_mk ⟨_, _, retOut X9 hx Bd.returns rfl (Or.inr (Or.inr (Or.inr (Or.inr ⟨rfl, rfl, rfl⟩)))) (hb hby d1_165) hr, hrun, hended, _, _, rfl, ?_, ⟨_, rfl⟩, hW, hsame.mono (by decide) (by decide)⟩
      show Q1 p1 w_EMPTY w_BOUNDED w_FIXED w_NAMED w_STRUCT w_UNION w_ENUM w_SEQUENCE w_ALIAS w_VALUE h0 n0 _ T9.heap _
      rw [e9]
      exact ⟨by rw [hk]; rfl, N0, rfl⟩
    · refine own_by (f' := (mkF m 126 #[.val (.int p1)] [])) (fun t h => XS.tswIn X0.here hx rfl (o := 125) (pc0 := 1) (pc' := 126) rfl (hb hby d1_1) rfl hin (by rw [hk]; rfl) (by decide) (by decide) h) ?_
      obtain ⟨T10, X10, e10, st10⟩ := getS2 X0 hx hZ hown (host := "") (Or.inl (hw _ (List.mem_of_getElem? (i := 12) rfl))) Via.refl e0 S_STRUCT (g := (mkF m 126 #[.val (.int p1)] [])) rfl (hb hby d1_126)
      refine own_by (f' := (mkF m 129 #[.val (.int p1)] [(.ref w_STRUCT)])) st10 ?_
      refine own_by (f' := (mkF m 165 #[.val (.int p1)] [(.ref w_STRUCT)])) (fun t h => XS.goto X10.here hx rfl (pc0 := 129) (pc' := 165) rfl (hb hby d1_129) (by decide) (by decide) h) ?_
      obtain ⟨fs, hr, hrun, hended, hW, hsame⟩ := X10.leave (v := some (.ref w_STRUCT)) (fun h => by rw [Bd.returns] at h; cases h)
      refine own_mk ⟨_, _, retOut X10 hx Bd.returns rfl (Or.inr (Or.inr (Or.inr (Or.inr ⟨rfl, rfl, rfl⟩)))) (hb hby d1_165) hr, hrun, hended, _, _, rfl, ?_, ⟨_, rfl⟩, hW, hsame.mono (by decide) (by decide)⟩
      show Q1 p1 w_EMPTY w_BOUNDED w_FIXED w_NAMED w_STRUCT w_UNION w_ENUM w_SEQUENCE w_ALIAS w_VALUE h0 n0 _ T10.heap _
      rw [e10]
      exact ⟨by rw [hk]; rfl, N0, rfl⟩
    · refine own_by (f' := (mkF m 162 #[.val (.int p1)] [])) (fun t h => XS.tswIn X0.here hx rfl (o := 161) (pc0 := 1) (pc' := 162) rfl (hb hby d1_1) rfl hin (by rw [hk]; rfl) (by decide) (by decide) h) ?_
      obtain ⟨T11, X11, e11, st11⟩ := getS2 X0 hx hZ hown (host := "") (Or.inl (hw _ (List.mem_of_getElem? (i := 5) rfl))) Via.refl e0 S_EMPTY (g := (mkF m 162 #[.val (.int p1)] [])) rfl (hb hby d1_162)
      refine own_by (f' := (mkF m 165 #[.val (.int p1)] [(.ref w_EMPTY)])) st11 ?_
      obtain ⟨fs, hr, hrun, hended, hW, hsame⟩ := X11.leave (v := some (.ref w_EMPTY)) (fun h => by rw [Bd.returns] at h; cases h)
      refine own_mk ⟨_, _, retOut X11 hx Bd.returns rfl (Or.inr (Or.inr (Or.inr (Or.inr ⟨rfl, rfl, rfl⟩)))) (hb hby d1_165) hr, hrun, hended, _, _, rfl, ?_, ⟨_, rfl⟩, hW, hsame.mono (by decide) (by decide)⟩
      show Q1 p1 w_EMPTY w_BOUNDED w_FIXED w_NAMED w_STRUCT w_UNION w_ENUM w_SEQUENCE w_ALIAS w_VALUE h0 n0 _ T11.heap _
      rw [e11]
      exact ⟨by rw [hk]; rfl, N0, rfl⟩
    · refine own_by (f' := (mkF m 162 #[.val (.int p1)] [])) (fun t h => XS.tswIn X0.here hx rfl (o := 161) (pc0 := 1) (pc' := 162) rfl (hb hby d1_1) rfl hin (by rw [hk]; rfl) (by decide) (by decide) h) ?_
      obtain ⟨T12, X12, e12, st12⟩ := getS2 X0 hx hZ hown (host := "") (Or.inl (hw _ (List.mem_of_getElem? (i := 5) rfl))) Via.refl e0 S_EMPTY (g := (mkF m 162 #[.val (.int p1)] [])) rfl (hb hby d1_162)
      refine own_by (f' := (mkF m 165 #[.val (.int p1)] [(.ref w_EMPTY)])) st12 ?_
      obtain ⟨fs, hr, hrun, hended, hW, hsame⟩ := X12.leave (v := some (.ref w_EMPTY)) (fun h => by rw [Bd.returns] at h; cases h)
      refine own_mk ⟨_, _, retOut X12 hx Bd.returns rfl (Or.inr (Or.inr (Or.inr (Or.inr ⟨rfl, rfl, rfl⟩)))) (hb hby d1_165) hr, hrun, hended, _, _, rfl, ?_, ⟨_, rfl⟩, hW, hsame.mono (by decide) (by decide)⟩
      show Q1 p1 w_EMPTY w_BOUNDED w_FIXED w_NAMED w_STRUCT w_UNION w_ENUM w_SEQUENCE w_ALIAS w_VALUE h0 n0 _ T12.heap _
      rw [e12]
      exact ⟨by rw [hk]; rfl, N0, rfl⟩
    · refine own_by (f' := (mkF m 162 #[.val (.int p1)] [])) (fun t h => XS.tswIn X0.here hx rfl (o := 161) (pc0 := 1) (pc' := 162) rfl (hb hby d1_1) rfl hin (by rw [hk]; rfl) (by decide) (by decide) h) ?_
      obtain ⟨T13, X13, e13, st13⟩ := getS2 X0 hx hZ hown (host := "") (Or.inl (hw _ (List.mem_of_getElem? (i := 5) rfl))) Via.refl e0 S_EMPTY (g := (mkF m 162 #[.val (.int p1)] [])) rfl (hb hby d1_162)
      refine own_by (f' := (mkF m 165 #[.val (.int p1)] [(.ref w_EMPTY)])) st13 ?_
      obtain ⟨fs, hr, hrun, hended, hW, hsame⟩ := X13.leave (v := some (.ref w_EMPTY)) (fun h => by rw [Bd.returns] at h; cases h)
      refine own_mk ⟨_, _, retOut X13 hx Bd.returns rfl (Or.inr (Or.inr (Or.inr (Or.inr ⟨rfl, rfl, rfl⟩)))) (hb hby d1_165) hr, hrun, hended, _, _, rfl, ?_, ⟨_, rfl⟩, hW, hsame.mono (by decide) (by decide)⟩
      show Q1 p1 w_EMPTY w_BOUNDED w_FIXED w_NAMED w_STRUCT w_UNION w_ENUM w_SEQUENCE w_ALIAS w_VALUE h0 n0 _ T13.heap _
      rw [e13]
      exact ⟨by rw [hk]; rfl, N0, rfl⟩
    · refine own_by (f' := (mkF m 162 #[.val (.int p1)] [])) (fun t h => XS.tswIn X0.here hx rfl (o := 161) (pc0 := 1) (pc' := 162) rfl (hb hby d1_1) rfl hin (by rw [hk]; rfl) (by decide) (by decide) h) ?_
      obtain ⟨T14, X14, e14, st14⟩ := getS2 X0 hx hZ hown (host := "") (Or.inl (hw _ (List.mem_of_getElem? (i := 5) rfl))) Via.refl e0 S_EMPTY (g := (mkF m 162 #[.val (.int p1)] [])) rfl (hb hby d1_162)
      refine own_by (f' := (mkF m 165 #[.val (.int p1)] [(.ref w_EMPTY)])) st14 ?_
      obtain ⟨fs, hr, hrun, hended, hW, hsame⟩ := X14.leave (v := some (.ref w_EMPTY)) (fun h => by rw [Bd.returns] at h; cases h)
      refine own_mk ⟨_, _, retOut X14 hx Bd.returns rfl (Or.inr (Or.inr (Or.inr (Or.inr ⟨rfl, rfl, rfl⟩)))) (hb hby d1_165) hr, hrun, hended, _, _, rfl, ?_, ⟨_, rfl⟩, hW, hsame.mono (by decide) (by decide)⟩
      show Q1 p1 w_EMPTY w_BOUNDED w_FIXED w_NAMED w_STRUCT w_UNION w_ENUM w_SEQUENCE w_ALIAS w_VALUE h0 n0 _ T14.heap _
      rw [e14]
      exact ⟨by rw [hk]; rfl, N0, rfl⟩
    · refine own_by (f' := (mkF m 108 #[.val (.int p1)] [])) (fun t h => XS.tswIn X0.here hx rfl (o := 107) (pc0 := 1) (pc' := 108) rfl (hb hby d1_1) rfl hin (by rw [hk]; rfl) (by decide) (by decide) h) ?_
      obtain ⟨T15, X15, e15, st15⟩ := getS2 X0 hx hZ hown (host := "") (Or.inl (hw _ (List.mem_of_getElem? (i := 26) rfl))) Via.refl e0 S_BOUNDED (g := (mkF m 108 #[.val (.int p1)] [])) rfl (hb hby d1_108)
      refine own_by (f' := (mkF m 111 #[.val (.int p1)] [(.ref w_BOUNDED)])) st15 ?_
      refine own_by (f' := (mkF m 165 #[.val (.int p1)] [(.ref w_BOUNDED)])) (fun t h => XS.goto X15.here hx rfl (pc0 := 111) (pc' := 165) rfl (hb hby d1_111) (by decide) (by decide) h) ?_
      obtain ⟨fs, hr, hrun, hended, hW, hsame⟩ := X15.leave (v := some (.ref w_BOUNDED)) (fun h => by rw [Bd.returns] at h; cases h)
      refine own_mk ⟨_, _, retOut X15 hx Bd.returns rfl (Or.inr (Or.inr (Or.inr (Or.inr ⟨rfl, rfl, rfl⟩)))) (hb hby d1_165) hr, hrun, hended, _, _, rfl, ?_, ⟨_, rfl⟩, hW, hsame.mono (by decide) (by decide)⟩
      show Q1 p1 w_EMPTY w_BOUNDED w_FIXED w_NAMED w_STRUCT w_UNION w_ENUM w_SEQUENCE w_ALIAS w_VALUE h0 n0 _ T15.heap _
      rw [e15]
      exact ⟨by rw [hk]; rfl, N0, rfl⟩
    · refine own_by (f' := (mkF m 114 #[.val (.int p1)] [])) (fun t h => XS.tswIn X0.here hx rfl (o := 113) (pc0 := 1) (pc' := 114) rfl (hb hby d1_1) rfl hin (by rw [hk]; rfl) (by decide) (by decide) h) ?_
      obtain ⟨T16, X16, e16, st16⟩ := getS2 X0 hx hZ hown (host := "") (Or.inl (hw _ (List.mem_of_getElem? (i := 22) rfl))) Via.refl e0 S_FIXED (g := (mkF m 114 #[.val (.int p1)] [])) rfl (hb hby d1_114)
      refine own_by (f' := (mkF m 117 #[.val (.int p1)] [(.ref w_FIXED)])) st16 ?_
      refine own_by (f' := (mkF m 165 #[.val (.int p1)] [(.ref w_FIXED)])) (fun t h => XS.goto X16.here hx rfl (pc0 := 117) (pc' := 165) rfl (hb hby d1_117) (by decide) (by decide) h) ?_
      obtain ⟨fs, hr, hrun, hended, hW, hsame⟩ := X16.leave (v := some (.ref w_FIXED)) (fun h => by rw [Bd.returns] at h; cases h)
      refine own_mk ⟨_, _, retOut X16 hx Bd.returns rfl (Or.inr (Or.inr (Or.inr (Or.inr ⟨rfl, rfl, rfl⟩)))) (hb hby d1_165) hr, hrun, hended, _, _, rfl, ?_, ⟨_, rfl⟩, hW, hsame.mono (by decide) (by decide)⟩
      show Q1 p1 w_EMPTY w_BOUNDED w_FIXED w_NAMED w_STRUCT w_UNION w_ENUM w_SEQUENCE w_ALIAS w_VALUE h0 n0 _ T16.heap _
      rw [e16]
      exact ⟨by rw [hk]; rfl, N0, rfl⟩
    · refine own_by (f' := (mkF m 156 #[.val (.int p1)] [])) (fun t h => XS.tswIn X0.here hx rfl (o := 155) (pc0 := 1) (pc' := 156) rfl (hb hby d1_1) rfl hin (by rw [hk]; rfl) (by decide) (by decide) h) ?_
      obtain ⟨T17, X17, e17, st17⟩ := getS2 X0 hx hZ hown (host := "") (Or.inl (hw _ (List.mem_of_getElem? (i := 18) rfl))) Via.refl e0 S_VALUE (g := (mkF m 156 #[.val (.int p1)] [])) rfl (hb hby d1_156)
      refine own_by (f' := (mkF m 159 #[.val (.int p1)] [(.ref w_VALUE)])) st17 ?_
      refine own_by (f' := (mkF m 165 #[.val (.int p1)] [(.ref w_VALUE)])) (fun t h => XS.goto X17.here hx rfl (pc0 := 159) (pc' := 165) rfl (hb hby d1_159) (by decide) (by decide) h) ?_
      obtain ⟨fs, hr, hrun, hended, hW, hsame⟩ := X17.leave (v := some (.ref w_VALUE)) (fun h => by rw [Bd.returns] at h; cases h)
      refine own_mk ⟨_, _, retOut X17 hx Bd.returns rfl (Or.inr (Or.inr (Or.inr (Or.inr ⟨rfl, rfl, rfl⟩)))) (hb hby d1_165) hr, hrun, hended, _, _, rfl, ?_, ⟨_, rfl⟩, hW, hsame.mono (by decide) (by decide)⟩
      show Q1 p1 w_EMPTY w_BOUNDED w_FIXED w_NAMED w_STRUCT w_UNION w_ENUM w_SEQUENCE w_ALIAS w_VALUE h0 n0 _ T17.heap _
      rw [e17]
      exact ⟨by rw [hk]; rfl, N0, rfl⟩
    · refine own_by (f' := (mkF m 150 #[.val (.int p1)] [])) (fun t h => XS.tswIn X0.here hx rfl (o := 149) (pc0 := 1) (pc' := 150) rfl (hb hby d1_1) rfl hin (by rw [hk]; rfl) (by decide) (by decide) h) ?_
      obtain ⟨T18, X18, e18, st18⟩ := getS2 X0 hx hZ hown (host := "") (Or.inl (hw _ (List.mem_of_getElem? (i := 24) rfl))) Via.refl e0 S_ALIAS (g := (mkF m 150 #[.val (.int p1)] [])) rfl (hb hby d1_150)
      refine own_by (f' := (mkF m 153 #[.val (.int p1)] [(.ref w_ALIAS)])) st18 ?_
      refine own_by (f' := (mkF m 165 #[.val (.int p1)] [(.ref w_ALIAS)])) (fun t h => XS.goto X18.here hx rfl (pc0 := 153) (pc' := 165) rfl (hb hby d1_153) (by decide) (by decide) h) ?_
      obtain ⟨fs, hr, hrun, hended, hW, hsame⟩ := X18.leave (v := some (.ref w_ALIAS)) (fun h => by rw [Bd.returns] at h; cases h)
      refine own_mk ⟨_, _, retOut X18 hx Bd.returns rfl (Or.inr (Or.inr (Or.inr (Or.inr ⟨rfl, rfl, rfl⟩)))) (hb hby d1_165) hr, hrun, hended, _, _, rfl, ?_, ⟨_, rfl⟩, hW, hsame.mono (by decide) (by decide)⟩
      show Q1 p1 w_EMPTY w_BOUNDED w_FIXED w_NAMED w_STRUCT w_UNION w_ENUM w_SEQUENCE w_ALIAS w_VALUE h0 n0 _ T18.heap _
      rw [e18]
      exact ⟨by rw [hk]; rfl, N0, rfl⟩
    · refine own_by (f' := (mkF m 120 #[.val (.int p1)] [])) (fun t h => XS.tswIn X0.here hx rfl (o := 119) (pc0 := 1) (pc' := 120) rfl (hb hby d1_1) rfl hin (by rw [hk]; rfl) (by decide) (by decide) h) ?_
      obtain ⟨T19, X19, e19, st19⟩ := getS2 X0 hx hZ hown (host := "") (Or.inl (hw _ (List.mem_of_getElem? (i := 20) rfl))) Via.refl e0 S_NAMED (g := (mkF m 120 #[.val (.int p1)] [])) rfl (hb hby d1_120)
      refine own_by (f' := (mkF m 123 #[.val (.int p1)] [(.ref w_NAMED)])) st19 ?_
      refine own_by (f' := (mkF m 165 #[.val (.int p1)] [(.ref w_NAMED)])) (fun t h => XS.goto X19.here hx rfl (pc0 := 123) (pc' := 165) rfl (hb hby d1_123) (by decide) (by decide) h) ?_
      obtain ⟨fs, hr, hrun, hended, hW, hsame⟩ := X19.leave (v := some (.ref w_NAMED)) (fun h => by rw [Bd.returns] at h; cases h)
      refine own_mk ⟨_, _, retOut X19 hx Bd.returns rfl (Or.inr (Or.inr (Or.inr (Or.inr ⟨rfl, rfl, rfl⟩)))) (hb hby d1_165) hr, hrun, hended, _, _, rfl, ?_, ⟨_, rfl⟩, hW, hsame.mono (by decide) (by decide)⟩
      show Q1 p1 w_EMPTY w_BOUNDED w_FIXED w_NAMED w_STRUCT w_UNION w_ENUM w_SEQUENCE w_ALIAS w_VALUE h0 n0 _ T19.heap _
      rw [e19]
      exact ⟨by rw [hk]; rfl, N0, rfl⟩
    · refine own_by (f' := (mkF m 120 #[.val (.int p1)] [])) (fun t h => XS.tswIn X0.here hx rfl (o := 119) (pc0 := 1) (pc' := 120) rfl (hb hby d1_1) rfl hin (by rw [hk]; rfl) (by decide) (by decide) h) ?_
      obtain ⟨T20, X20, e20, st20⟩ := getS2 X0 hx hZ hown (host := "") (Or.inl (hw _ (List.mem_of_getElem? (i := 20) rfl))) Via.refl e0 S_NAMED (g := (mkF m 120 #[.val (.int p1)] [])) rfl (hb hby d1_120)
      refine own_by (f' := (mkF m 123 #[.val (.int p1)] [(.ref w_NAMED)])) st20 ?_
      refine own_by (f' := (mkF m 165 #[.val (.int p1)] [(.ref w_NAMED)])) (fun t h => XS.goto X20.here hx rfl (pc0 := 123) (pc' := 165) rfl (hb hby d1_123) (by decide) (by decide) h) ?_
      obtain ⟨fs, hr, hrun, hended, hW, hsame⟩ := X20.leave (v := some (.ref w_NAMED)) (fun h => by rw [Bd.returns] at h; cases h)
      refine own_mk ⟨_, _, retOut X20 hx Bd.returns rfl (Or.inr (Or.inr (Or.inr (Or.inr ⟨rfl, rfl, rfl⟩)))) (hb hby d1_165) hr, hrun, hended, _, _, rfl, ?_, ⟨_, rfl⟩, hW, hsame.mono (by decide) (by decide)⟩
      show Q1 p1 w_EMPTY w_BOUNDED w_FIXED w_NAMED w_STRUCT w_UNION w_ENUM w_SEQUENCE w_ALIAS w_VALUE h0 n0 _ T20.heap _
      rw [e20]
      exact ⟨by rw [hk]; rfl, N0, rfl⟩
    · refine own_by (f' := (mkF m 120 #[.val (.int p1)] [])) (fun t h => XS.tswIn X0.here hx rfl (o := 119) (pc0 := 1) (pc' := 120) rfl (hb hby d1_1) rfl hin (by rw [hk]; rfl) (by decide) (by decide) h) ?_
      obtain ⟨T21, X21, e21, st21⟩ := getS2 X0 hx hZ hown (host := "") (Or.inl (hw _ (List.mem_of_getElem? (i := 20) rfl))) Via.refl e0 S_NAMED (g := (mkF m 120 #[.val (.int p1)] [])) rfl (hb hby d1_120)
      refine own_by (f' := (mkF m 123 #[.val (.int p1)] [(.ref w_NAMED)])) st21 ?_
      refine own_by (f' := (mkF m 165 #[.val (.int p1)] [(.ref w_NAMED)])) (fun t h => XS.goto X21.here hx rfl (pc0 := 123) (pc' := 165) rfl (hb hby d1_123) (by decide) (by decide) h) ?_
      obtain ⟨fs, hr, hrun, hended, hW, hsame⟩ := X21.leave (v := some (.ref w_NAMED)) (fun h => by rw [Bd.returns] at h; cases h)
      refine own_mk ⟨_, _, retOut X21 hx Bd.returns rfl (Or.inr (Or.inr (Or.inr (Or.inr ⟨rfl, rfl, rfl⟩)))) (hb hby d1_165) hr, hrun, hended, _, _, rfl, ?_, ⟨_, rfl⟩, hW, hsame.mono (by decide) (by decide)⟩
      show Q1 p1 w_EMPTY w_BOUNDED w_FIXED w_NAMED w_STRUCT w_UNION w_ENUM w_SEQUENCE w_ALIAS w_VALUE h0 n0 _ T21.heap _
      rw [e21]
      exact ⟨by rw [hk]; rfl, N0, rfl⟩
    · refine own_by (f' := (mkF m 120 #[.val (.int p1)] [])) (fun t h => XS.tswIn X0.here hx rfl (o := 119) (pc0 := 1) (pc' := 120) rfl (hb hby d1_1) rfl hin (by rw [hk]; rfl) (by decide) (by decide) h) ?_
      obtain ⟨T22, X22, e22, st22⟩ := getS2 X0 hx hZ hown (host := "") (Or.inl (hw _ (List.mem_of_getElem? (i := 20) rfl))) Via.refl e0 S_NAMED (g := (mkF m 120 #[.val (.int p1)] [])) rfl (hb hby d1_120)
      refine own_by (f' := (mkF m 123 #[.val (.int p1)] [(.ref w_NAMED)])) st22 ?_
      refine own_by (f' := (mkF m 165 #[.val (.int p1)] [(.ref w_NAMED)])) (fun t h => XS.goto X22.here hx rfl (pc0 := 123) (pc' := 165) rfl (hb hby d1_123) (by decide) (by decide) h) ?_
      obtain ⟨fs, hr, hrun, hended, hW, hsame⟩ := X22.leave (v := some (.ref w_NAMED)) (fun h => by rw [Bd.returns] at h; cases h)
      refine own_mk ⟨_, _, retOut X22 hx Bd.returns rfl (Or.inr (Or.inr (Or.inr (Or.inr ⟨rfl, rfl, rfl⟩)))) (hb hby d1_165) hr, hrun, hended, _, _, rfl, ?_, ⟨_, rfl⟩, hW, hsame.mono (by decide) (by decide)⟩
      show Q1 p1 w_EMPTY w_BOUNDED w_FIXED w_NAMED w_STRUCT w_UNION w_ENUM w_SEQUENCE w_ALIAS w_VALUE h0 n0 _ T22.heap _
      rw [e22]
      exact ⟨by rw [hk]; rfl, N0, rfl⟩
    · refine own_by (f' := (mkF m 120 #[.val (.int p1)] [])) (fun t h => XS.tswIn X0.here hx rfl (o := 119) (pc0 := 1) (pc' := 120) rfl (hb hby d1_1) rfl hin (by rw [hk]; rfl) (by decide) (by decide) h) ?_
      obtain ⟨T23, X23, e23, st23⟩ := getS2 X0 hx hZ hown (host := "") (Or.inl (hw _ (List.mem_of_getElem? (i := 20) rfl))) Via.refl e0 S_NAMED (g := (mkF m 120 #[.val (.int p1)] [])) rfl (hb hby d1_120)
      refine own_by (f' := (mkF m 123 #[.val (.int p1)] [(.ref w_NAMED)])) st23 ?_
      refine own_by (f' := (mkF m 165 #[.val (.int p1)] [(.ref w_NAMED)])) (fun t h => XS.goto X23.here hx rfl (pc0 := 123) (pc' := 165) rfl (hb hby d1_123) (by decide) (by decide) h) ?_
      obtain ⟨fs, hr, hrun, hended, hW, hsame⟩ := X23.leave (v := some (.ref w_NAMED)) (fun h => by rw [Bd.returns] at h; cases h)
      refine own_mk ⟨_, _, retOut X23 hx Bd.returns rfl (Or.inr (Or.inr (Or.inr (Or.inr ⟨rfl, rfl, rfl⟩)))) (hb hby d1_165) hr, hrun, hended, _, _, rfl, ?_, ⟨_, rfl⟩, hW, hsame.mono (by decide) (by decide)⟩
      show Q1 p1 w_EMPTY w_BOUNDED w_FIXED w_NAMED w_STRUCT w_UNION w_ENUM w_SEQUENCE w_ALIAS w_VALUE h0 n0 _ T23.heap _
      rw [e23]
      exact ⟨by rw [hk]; rfl, N0, rfl⟩
    · refine own_by (f' := (mkF m 156 #[.val (.int p1)] [])) (fun t h => XS.tswIn X0.here hx rfl (o := 155) (pc0 := 1) (pc' := 156) rfl (hb hby d1_1) rfl hin (by rw [hk]; rfl) (by decide) (by decide) h) ?_
      obtain ⟨T24, X24, e24, st24⟩ := getS2 X0 hx hZ hown (host := "") (Or.inl (hw _ (List.mem_of_getElem? (i := 18) rfl))) Via.refl e0 S_VALUE (g := (mkF m 156 #[.val (.int p1)] [])) rfl (hb hby d1_156)
      refine own_by (f' := (mkF m 159 #[.val (.int p1)] [(.ref w_VALUE)])) st24 ?_
      refine own_by (f' := (mkF m 165 #[.val (.int p1)] [(.ref w_VALUE)])) (fun t h => XS.goto X24.here hx rfl (pc0 := 159) (pc' := 165) rfl (hb hby d1_159) (by decide) (by decide) h) ?_
      obtain ⟨fs, hr, hrun, hended, hW, hsame⟩ := X24.leave (v := some (.ref w_VALUE)) (fun h => by rw [Bd.returns] at h; cases h)
      refine own_mk ⟨_, _, retOut X24 hx Bd.returns rfl (Or.inr (Or.inr (Or.inr (Or.inr ⟨rfl, rfl, rfl⟩)))) (hb hby d1_165) hr, hrun, hended, _, _, rfl, ?_, ⟨_, rfl⟩, hW, hsame.mono (by decide) (by decide)⟩
      show Q1 p1 w_EMPTY w_BOUNDED w_FIXED w_NAMED w_STRUCT w_UNION w_ENUM w_SEQUENCE w_ALIAS w_VALUE h0 n0 _ T24.heap _
      rw [e24]
      exact ⟨by rw [hk]; rfl, N0, rfl⟩
theorem d2_0 : decode prog_124_method_9_code 0 = .ok (.aload_n 0, 1) := by decide +kernel
theorem d2_1 : decode prog_124_method_9_code 1 = .ok (.getstatic 18, 3) := by decide +kernel
theorem d2_4 : decode prog_124_method_9_code 4 = .ok (.if_acmp .eq 24, 3) := by decide +kernel
theorem d2_7 : decode prog_124_method_9_code 7 = .ok (.aload_n 0, 1) := by decide +kernel
theorem d2_8 : decode prog_124_method_9_code 8 = .ok (.getstatic 21, 3) := by decide +kernel
theorem d2_11 : decode prog_124_method_9_code 11 = .ok (.if_acmp .eq 17, 3) := by decide +kernel
theorem d2_14 : decode prog_124_method_9_code 14 = .ok (.aload_n 0, 1) := by decide +kernel
theorem d2_15 : decode prog_124_method_9_code 15 = .ok (.getstatic 24, 3) := by decide +kernel
theorem d2_18 : decode prog_124_method_9_code 18 = .ok (.if_acmp .eq 10, 3) := by decide +kernel
theorem d2_21 : decode prog_124_method_9_code 21 = .ok (.aload_n 0, 1) := by decide +kernel
theorem d2_22 : decode prog_124_method_9_code 22 = .ok (.getstatic 33, 3) := by decide +kernel
theorem d2_25 : decode prog_124_method_9_code 25 = .ok (.if_acmp .ne 7, 3) := by decide +kernel
theorem d2_28 : decode prog_124_method_9_code 28 = .ok (.iconst 1, 1) := by decide +kernel
theorem d2_29 : decode prog_124_method_9_code 29 = .ok (.goto 4, 3) := by decide +kernel
theorem d2_32 : decode prog_124_method_9_code 32 = .ok (.iconst 0, 1) := by decide +kernel
theorem d2_33 : decode prog_124_method_9_code 33 = .ok (.ireturn, 1) := by decide +kernel
theorem own_pn2 : plainName "com/example/orbweave/orbweave/orb/TypeCodeShape" = true := by first | (simp [plainName, overriddenIn]; done) | decide +kernel
theorem own_ef2 (m : MethodId) (x0 : Addr) : entryFrame m #[(.ref x0)] 1 = mkF m 0 #[.val (.ref x0)] [] := by first | (simp [entryFrame, mkF, argsToLocals, Value.category, maxLocals]; done) | rfl
theorem own_pd2 : parseMethodDescriptor "()Z" = some ⟨[], some .boolean⟩ := by decide +kernel
def Q2 (a1 w_STRUCT w_UNION w_ENUM w_VALUE : Addr) (h0 : Heap) (n0 : Nat) (v : Option Value) (h : Heap) (L : List Loc) : Prop := v = some (.int (if a1 = w_STRUCT ∨ a1 = w_UNION ∨ a1 = w_ENUM ∨ a1 = w_VALUE then 1 else 0)) ∧ Fr n0 L ∧ h = h0
set_option maxRecDepth 65536 in
set_option maxHeartbeats 40000000 in
theorem rm2 (l : Launch) (Z : State) (a0 : Array Value) (hw : ∀ d ∈ tables_1, d.before a0 Z = true) (ws : List Jvm.Cond) (a1 w_STRUCT w_UNION w_ENUM w_VALUE : Addr) (h0 : Heap) (n0 : Nat) (Z0 : n0 ≤ h0.size) (S_STRUCT : Sta Z h0 "com/example/orbweave/orbweave/orb/TypeCodeShape" "STRUCT" "Lcom/example/orbweave/orbweave/orb/TypeCodeShape;" (.ref w_STRUCT)) (S_UNION : Sta Z h0 "com/example/orbweave/orbweave/orb/TypeCodeShape" "UNION" "Lcom/example/orbweave/orbweave/orb/TypeCodeShape;" (.ref w_UNION)) (S_ENUM : Sta Z h0 "com/example/orbweave/orbweave/orb/TypeCodeShape" "ENUM" "Lcom/example/orbweave/orbweave/orb/TypeCodeShape;" (.ref w_ENUM)) (S_VALUE : Sta Z h0 "com/example/orbweave/orbweave/orb/TypeCodeShape" "VALUE" "Lcom/example/orbweave/orbweave/orb/TypeCodeShape;" (.ref w_VALUE)) :
    MetFree l (⟨"com/example/orbweave/orbweave/orb/TypeCodeShape", "hasMembers", "()Z"⟩ : MethodName) (head1 (Jvm.Cond.code (⟨"com/example/orbweave/orbweave/orb/TypeCodeShape", "hasMembers", "()Z"⟩ : MethodName) prog_124_method_9_code 1 (Option.some Jvm.ClassFile.FieldType.boolean) :: ws) ({ frames := 0, cells := 0, slots := 0, locals := 0 } : Room)) (fun a U => a = #[(.ref a1)] ∧ Z.Warmed39 U.vm ∧ U.heap = h0) (fun _ _ _ _ _ => True) (fun _ U o U' => ∃ v L, o = .returned v ∧ Q2 a1 w_STRUCT w_UNION w_ENUM w_VALUE h0 n0 v U'.heap L ∧ FrameEnd U o U' L ({ frames := 0, cells := 0, slots := 0, locals := 0 } : Room).cells ({ frames := 0, cells := 0, slots := 0, locals := 0 } : Room).slots) := by
  refine MetFree.of_bodySF (plainFor_of_name own_pn2) hisR ?_
  intro p e s m args below meth c s₁ Bd hml0 hP hK
  obtain ⟨rfl, hZ, hh⟩ := hP
  have hx := Bd.exec
  have hby := Bd.bytes
  have hml : c.maxLocals = 1 := hml0
  have hown : s.vm.findClass "com/example/orbweave/orbweave/orb/TypeCodeShape" = some m.cls := findClass_of_methodNamed Bd.named
  have hnm := (name_of_methodNamed Bd.named Bd.method).1
  have X0 : Stand p l e ({ frames := 0, cells := 0, slots := 0, locals := 0 } : Room) s m #[(.ref a1)] below meth c s₁ [] 0 0 := Stand.of_body Bd
  have e0 : s₁.heap = h0 := by rw [← hh, Bd.state]; rfl
  have N0 := Fr.nil n0
  refine own_open (f := (mkF m 0 #[.val (.ref a1)] [])) (fun t k => castTop (own_ef2 m a1) k) ?_
  refine own_by (f' := (mkF m 1 #[.val (.ref a1)] [(.ref a1)])) (fun t h => XS.aloadN X0.here hx rfl (hb hby d2_0) rfl rfl h) ?_
  obtain ⟨T1, X1, e1, st1⟩ := getS2 X0 hx hZ hown (host := "") (Or.inl (hw _ (List.mem_of_getElem? (i := 12) rfl))) Via.refl e0 S_STRUCT (g := (mkF m 1 #[.val (.ref a1)] [(.ref a1)])) rfl (hb hby d2_1)
  refine own_by (f' := (mkF m 4 #[.val (.ref a1)] [(.ref w_STRUCT), (.ref a1)])) st1 ?_
  by_cases hc4_2 : a1 = w_STRUCT
  · refine own_by (f' := (mkF m 28 #[.val (.ref a1)] [])) (fun t h => Jvm.RoadKit.acmp (g := (mkF m 4 #[.val (.ref a1)] [(.ref w_STRUCT), (.ref a1)])) X1 hx rfl rfl rfl (pc0 := 4) (pc' := 28) (same := true) rfl (hb hby d2_4) rfl (decide_eq_true (congrArg Value.ref hc4_2)) (by decide) (by decide) h) ?_
    refine own_by (f' := (mkF m 29 #[.val (.ref a1)] [(.int (1 : Int32))])) (fun t h => XS.iconst X1.here hx rfl (hb hby d2_28) h) ?_
    refine own_by (f' := (mkF m 33 #[.val (.ref a1)] [(.int (1 : Int32))])) (fun t h => XS.goto X1.here hx rfl (pc0 := 29) (pc' := 33) rfl (hb hby d2_29) (by decide) (by decide) h) ?_
    obtain ⟨fs, hr, hrun, hended, hW, hsame⟩ := X1.leave (v := some (.int (1 : Int32))) (fun h => by rw [Bd.returns] at h; cases h)
    refine own_mk ⟨_, _, retN X1 hx (t := .boolean) Bd.returns (by simp) (hb hby d2_33) hr, hrun, hended, _, _, rfl, ?_, ⟨_, rfl⟩, hW, hsame.mono (by decide) (by decide)⟩
    show Q2 a1 w_STRUCT w_UNION w_ENUM w_VALUE h0 n0 _ T1.heap _
    rw [e1]
    exact ⟨by simp [hc4_2], N0, rfl⟩
  · refine own_by (f' := (mkF m 7 #[.val (.ref a1)] [])) (fun t h => Jvm.RoadKit.acmp (g := (mkF m 4 #[.val (.ref a1)] [(.ref w_STRUCT), (.ref a1)])) X1 hx rfl rfl rfl (pc0 := 4) (pc' := 7) (same := false) rfl (hb hby d2_4) rfl (decide_eq_false fun q => hc4_2 (Value.ref.inj q)) (by decide) (by decide) h) ?_
    refine own_by (f' := (mkF m 8 #[.val (.ref a1)] [(.ref a1)])) (fun t h => XS.aloadN X1.here hx rfl (hb hby d2_7) rfl rfl h) ?_
    obtain ⟨T3, X3, e3, st3⟩ := getS2 X1 hx hZ hown (host := "") (Or.inl (hw _ (List.mem_of_getElem? (i := 14) rfl))) Via.refl e1 S_UNION (g := (mkF m 8 #[.val (.ref a1)] [(.ref a1)])) rfl (hb hby d2_8)
    refine own_by (f' := (mkF m 11 #[.val (.ref a1)] [(.ref w_UNION), (.ref a1)])) st3 ?_
    by_cases hc11_4 : a1 = w_UNION
    · refine own_by (f' := (mkF m 28 #[.val (.ref a1)] [])) (fun t h => Jvm.RoadKit.acmp (g := (mkF m 11 #[.val (.ref a1)] [(.ref w_UNION), (.ref a1)])) X3 hx rfl rfl rfl (pc0 := 11) (pc' := 28) (same := true) rfl (hb hby d2_11) rfl (decide_eq_true (congrArg Value.ref hc11_4)) (by decide) (by decide) h) ?_
      refine own_by (f' := (mkF m 29 #[.val (.ref a1)] [(.int (1 : Int32))])) (fun t h => XS.iconst X3.here hx rfl (hb hby d2_28) h) ?_
      refine own_by (f' := (mkF m 33 #[.val (.ref a1)] [(.int (1 : Int32))])) (fun t h => XS.goto X3.here hx rfl (pc0 := 29) (pc' := 33) rfl (hb hby d2_29) (by decide) (by decide) h) ?_
      obtain ⟨fs, hr, hrun, hended, hW, hsame⟩ := X3.leave (v := some (.int (1 : Int32))) (fun h => by rw [Bd.returns] at h; cases h)
      refine own_mk ⟨_, _, retN X3 hx (t := .boolean) Bd.returns (by simp) (hb hby d2_33) hr, hrun, hended, _, _, rfl, ?_, ⟨_, rfl⟩, hW, hsame.mono (by decide) (by decide)⟩
      show Q2 a1 w_STRUCT w_UNION w_ENUM w_VALUE h0 n0 _ T3.heap _
      rw [e3]
      exact ⟨by simp [hc4_2, hc11_4], N0, rfl⟩
    · refine own_by (f' := (mkF m 14 #[.val (.ref a1)] [])) (fun t h => Jvm.RoadKit.acmp (g := (mkF m 11 #[.val (.ref a1)] [(.ref w_UNION), (.ref a1)])) X3 hx rfl rfl rfl (pc0 := 11) (pc' := 14) (same := false) rfl (hb hby d2_11) rfl (decide_eq_false fun q => hc11_4 (Value.ref.inj q)) (by decide) (by decide) h) ?_
      refine own_by (f' := (mkF m 15 #[.val (.ref a1)] [(.ref a1)])) (fun t h => XS.aloadN X3.here hx rfl (hb hby d2_14) rfl rfl h) ?_
      obtain ⟨T5, X5, e5, st5⟩ := getS2 X3 hx hZ hown (host := "") (Or.inl (hw _ (List.mem_of_getElem? (i := 16) rfl))) Via.refl e3 S_ENUM (g := (mkF m 15 #[.val (.ref a1)] [(.ref a1)])) rfl (hb hby d2_15)
      refine own_by (f' := (mkF m 18 #[.val (.ref a1)] [(.ref w_ENUM), (.ref a1)])) st5 ?_
      by_cases hc18_6 : a1 = w_ENUM
      · refine own_by (f' := (mkF m 28 #[.val (.ref a1)] [])) (fun t h => Jvm.RoadKit.acmp (g := (mkF m 18 #[.val (.ref a1)] [(.ref w_ENUM), (.ref a1)])) X5 hx rfl rfl rfl (pc0 := 18) (pc' := 28) (same := true) rfl (hb hby d2_18) rfl (decide_eq_true (congrArg Value.ref hc18_6)) (by decide) (by decide) h) ?_
        refine own_by (f' := (mkF m 29 #[.val (.ref a1)] [(.int (1 : Int32))])) (fun t h => XS.iconst X5.here hx rfl (hb hby d2_28) h) ?_
        refine own_by (f' := (mkF m 33 #[.val (.ref a1)] [(.int (1 : Int32))])) (fun t h => XS.goto X5.here hx rfl (pc0 := 29) (pc' := 33) rfl (hb hby d2_29) (by decide) (by decide) h) ?_
        obtain ⟨fs, hr, hrun, hended, hW, hsame⟩ := X5.leave (v := some (.int (1 : Int32))) (fun h => by rw [Bd.returns] at h; cases h)
        refine own_mk ⟨_, _, retN X5 hx (t := .boolean) Bd.returns (by simp) (hb hby d2_33) hr, hrun, hended, _, _, rfl, ?_, ⟨_, rfl⟩, hW, hsame.mono (by decide) (by decide)⟩
        show Q2 a1 w_STRUCT w_UNION w_ENUM w_VALUE h0 n0 _ T5.heap _
        rw [e5]
        exact ⟨by simp [hc4_2, hc11_4, hc18_6], N0, rfl⟩
      · refine own_by (f' := (mkF m 21 #[.val (.ref a1)] [])) (fun t h => Jvm.RoadKit.acmp (g := (mkF m 18 #[.val (.ref a1)] [(.ref w_ENUM), (.ref a1)])) X5 hx rfl rfl rfl (pc0 := 18) (pc' := 21) (same := false) rfl (hb hby d2_18) rfl (decide_eq_false fun q => hc18_6 (Value.ref.inj q)) (by decide) (by decide) h) ?_
        refine own_by (f' := (mkF m 22 #[.val (.ref a1)] [(.ref a1)])) (fun t h => XS.aloadN X5.here hx rfl (hb hby d2_21) rfl rfl h) ?_
        obtain ⟨T7, X7, e7, st7⟩ := getS2 X5 hx hZ hown (host := "") (Or.inl (hw _ (List.mem_of_getElem? (i := 18) rfl))) Via.refl e5 S_VALUE (g := (mkF m 22 #[.val (.ref a1)] [(.ref a1)])) rfl (hb hby d2_22)
        refine own_by (f' := (mkF m 25 #[.val (.ref a1)] [(.ref w_VALUE), (.ref a1)])) st7 ?_
        by_cases hc25_8 : a1 = w_VALUE
        · refine own_by (f' := (mkF m 28 #[.val (.ref a1)] [])) (fun t h => Jvm.RoadKit.acmp (g := (mkF m 25 #[.val (.ref a1)] [(.ref w_VALUE), (.ref a1)])) X7 hx rfl rfl rfl (pc0 := 25) (pc' := 28) (same := true) rfl (hb hby d2_25) rfl (decide_eq_true (congrArg Value.ref hc25_8)) (by decide) (by decide) h) ?_
          refine own_by (f' := (mkF m 29 #[.val (.ref a1)] [(.int (1 : Int32))])) (fun t h => XS.iconst X7.here hx rfl (hb hby d2_28) h) ?_
          refine own_by (f' := (mkF m 33 #[.val (.ref a1)] [(.int (1 : Int32))])) (fun t h => XS.goto X7.here hx rfl (pc0 := 29) (pc' := 33) rfl (hb hby d2_29) (by decide) (by decide) h) ?_
          obtain ⟨fs, hr, hrun, hended, hW, hsame⟩ := X7.leave (v := some (.int (1 : Int32))) (fun h => by rw [Bd.returns] at h; cases h)
          refine own_mk ⟨_, _, retN X7 hx (t := .boolean) Bd.returns (by simp) (hb hby d2_33) hr, hrun, hended, _, _, rfl, ?_, ⟨_, rfl⟩, hW, hsame.mono (by decide) (by decide)⟩
          show Q2 a1 w_STRUCT w_UNION w_ENUM w_VALUE h0 n0 _ T7.heap _
          rw [e7]
          exact ⟨by simp [hc4_2, hc11_4, hc18_6, hc25_8], N0, rfl⟩
        · refine own_by (f' := (mkF m 32 #[.val (.ref a1)] [])) (fun t h => Jvm.RoadKit.acmp (g := (mkF m 25 #[.val (.ref a1)] [(.ref w_VALUE), (.ref a1)])) X7 hx rfl rfl rfl (pc0 := 25) (pc' := 32) (same := false) rfl (hb hby d2_25) rfl (decide_eq_false fun q => hc25_8 (Value.ref.inj q)) (by decide) (by decide) h) ?_
          refine own_by (f' := (mkF m 33 #[.val (.ref a1)] [(.int (0 : Int32))])) (fun t h => XS.iconst X7.here hx rfl (hb hby d2_32) h) ?_
          obtain ⟨fs, hr, hrun, hended, hW, hsame⟩ := X7.leave (v := some (.int (0 : Int32))) (fun h => by rw [Bd.returns] at h; cases h)
          refine own_mk ⟨_, _, retN X7 hx (t := .boolean) Bd.returns (by simp) (hb hby d2_33) hr, hrun, hended, _, _, rfl, ?_, ⟨_, rfl⟩, hW, hsame.mono (by decide) (by decide)⟩
          show Q2 a1 w_STRUCT w_UNION w_ENUM w_VALUE h0 n0 _ T7.heap _
          rw [e7]
          exact ⟨by simp [hc4_2, hc11_4, hc18_6, hc25_8], N0, rfl⟩
theorem own_pn0 : plainName "com/example/orbweave/orbweave/orb/TypeCodeShapeHasMembersPinLaw" = true := by first | (simp [plainName, overriddenIn]; done) | decide +kernel
theorem own_ef0 (m : MethodId) (x0 : Int32) (x1 : Int32) : entryFrame m #[(.int x0), (.int x1)] maxLocals = mkF m 0 #[.val (.int x0), .val (.int x1), .unset, .unset, .unset] [] := by first | (simp [entryFrame, mkF, argsToLocals, Value.category, maxLocals]; done) | rfl
def Q0 (n0 : Nat) (v : Option Value) (h : Heap) (L : List Loc) : Prop := v = some (.int 1) ∧ Fr n0 L
set_option maxRecDepth 65536 in
set_option maxHeartbeats 40000000 in
theorem rm0 (l : Launch) (Z : State) (a0 : Array Value) (hw : ∀ d ∈ tables_1, d.before a0 Z = true) (ws : List Jvm.Cond) (p1 p2 : Int32) (w_EMPTY w_BOUNDED w_FIXED w_NAMED w_STRUCT w_UNION w_ENUM w_SEQUENCE w_ALIAS w_VALUE : Addr) (h0 : Heap) (n0 : Nat) (Z0 : n0 ≤ h0.size) (S_EMPTY : Sta Z h0 "com/example/orbweave/orbweave/orb/TypeCodeShape" "EMPTY" "Lcom/example/orbweave/orbweave/orb/TypeCodeShape;" (.ref w_EMPTY)) (S_BOUNDED : Sta Z h0 "com/example/orbweave/orbweave/orb/TypeCodeShape" "BOUNDED" "Lcom/example/orbweave/orbweave/orb/TypeCodeShape;" (.ref w_BOUNDED)) (S_FIXED : Sta Z h0 "com/example/orbweave/orbweave/orb/TypeCodeShape" "FIXED" "Lcom/example/orbweave/orbweave/orb/TypeCodeShape;" (.ref w_FIXED)) (S_NAMED : Sta Z h0 "com/example/orbweave/orbweave/orb/TypeCodeShape" "NAMED" "Lcom/example/orbweave/orbweave/orb/TypeCodeShape;" (.ref w_NAMED)) (S_STRUCT : Sta Z h0 "com/example/orbweave/orbweave/orb/TypeCodeShape" "STRUCT" "Lcom/example/orbweave/orbweave/orb/TypeCodeShape;" (.ref w_STRUCT)) (S_UNION : Sta Z h0 "com/example/orbweave/orbweave/orb/TypeCodeShape" "UNION" "Lcom/example/orbweave/orbweave/orb/TypeCodeShape;" (.ref w_UNION)) (S_ENUM : Sta Z h0 "com/example/orbweave/orbweave/orb/TypeCodeShape" "ENUM" "Lcom/example/orbweave/orbweave/orb/TypeCodeShape;" (.ref w_ENUM)) (S_SEQUENCE : Sta Z h0 "com/example/orbweave/orbweave/orb/TypeCodeShape" "SEQUENCE" "Lcom/example/orbweave/orbweave/orb/TypeCodeShape;" (.ref w_SEQUENCE)) (S_ALIAS : Sta Z h0 "com/example/orbweave/orbweave/orb/TypeCodeShape" "ALIAS" "Lcom/example/orbweave/orbweave/orb/TypeCodeShape;" (.ref w_ALIAS)) (S_VALUE : Sta Z h0 "com/example/orbweave/orbweave/orb/TypeCodeShape" "VALUE" "Lcom/example/orbweave/orbweave/orb/TypeCodeShape;" (.ref w_VALUE)) (E_EMPTY : Exa Z h0 w_EMPTY "com/example/orbweave/orbweave/orb/TypeCodeShape") (E_BOUNDED : Exa Z h0 w_BOUNDED "com/example/orbweave/orbweave/orb/TypeCodeShape") (E_FIXED : Exa Z h0 w_FIXED "com/example/orbweave/orbweave/orb/TypeCodeShape") (E_NAMED : Exa Z h0 w_NAMED "com/example/orbweave/orbweave/orb/TypeCodeShape") (E_STRUCT : Exa Z h0 w_STRUCT "com/example/orbweave/orbweave/orb/TypeCodeShape") (E_UNION : Exa Z h0 w_UNION "com/example/orbweave/orbweave/orb/TypeCodeShape") (E_ENUM : Exa Z h0 w_ENUM "com/example/orbweave/orbweave/orb/TypeCodeShape") (E_SEQUENCE : Exa Z h0 w_SEQUENCE "com/example/orbweave/orbweave/orb/TypeCodeShape") (E_ALIAS : Exa Z h0 w_ALIAS "com/example/orbweave/orbweave/orb/TypeCodeShape") (E_VALUE : Exa Z h0 w_VALUE "com/example/orbweave/orbweave/orb/TypeCodeShape") (ne_EMPTY_STRUCT : ¬ (w_EMPTY = w_STRUCT)) (ne_EMPTY_UNION : ¬ (w_EMPTY = w_UNION)) (ne_EMPTY_ENUM : ¬ (w_EMPTY = w_ENUM)) (ne_EMPTY_VALUE : ¬ (w_EMPTY = w_VALUE)) (ne_BOUNDED_STRUCT : ¬ (w_BOUNDED = w_STRUCT)) (ne_BOUNDED_UNION : ¬ (w_BOUNDED = w_UNION)) (ne_BOUNDED_ENUM : ¬ (w_BOUNDED = w_ENUM)) (ne_BOUNDED_VALUE : ¬ (w_BOUNDED = w_VALUE)) (ne_FIXED_STRUCT : ¬ (w_FIXED = w_STRUCT)) (ne_FIXED_UNION : ¬ (w_FIXED = w_UNION)) (ne_FIXED_ENUM : ¬ (w_FIXED = w_ENUM)) (ne_FIXED_VALUE : ¬ (w_FIXED = w_VALUE)) (ne_NAMED_STRUCT : ¬ (w_NAMED = w_STRUCT)) (ne_NAMED_UNION : ¬ (w_NAMED = w_UNION)) (ne_NAMED_ENUM : ¬ (w_NAMED = w_ENUM)) (ne_NAMED_VALUE : ¬ (w_NAMED = w_VALUE)) (ne_SEQUENCE_STRUCT : ¬ (w_SEQUENCE = w_STRUCT)) (ne_SEQUENCE_UNION : ¬ (w_SEQUENCE = w_UNION)) (ne_SEQUENCE_ENUM : ¬ (w_SEQUENCE = w_ENUM)) (ne_SEQUENCE_VALUE : ¬ (w_SEQUENCE = w_VALUE)) (ne_ALIAS_STRUCT : ¬ (w_ALIAS = w_STRUCT)) (ne_ALIAS_UNION : ¬ (w_ALIAS = w_UNION)) (ne_ALIAS_ENUM : ¬ (w_ALIAS = w_ENUM)) (ne_ALIAS_VALUE : ¬ (w_ALIAS = w_VALUE)) :
    MetFree l x (head1 (Jvm.Cond.code x code maxLocals ret :: ws) room_1) (fun a U => a = #[(.int p1), (.int p2)] ∧ Z.Warmed39 U.vm ∧ U.heap = h0) (fun _ _ _ _ _ => True) (fun _ U o U' => ∃ v L, o = .returned v ∧ Q0 n0 v U'.heap L ∧ FrameEnd U o U' L room_1.cells room_1.slots) := by
  refine MetFree.of_bodySF (plainFor_of_name own_pn0) hisR ?_
  intro p e s m args below meth c s₁ Bd hml0 hP hK
  obtain ⟨rfl, hZ, hh⟩ := hP
  have hx := Bd.exec
  have hby := Bd.bytes
  have hml : c.maxLocals = 5 := hml0
  have hown : s.vm.findClass "com/example/orbweave/orbweave/orb/TypeCodeShapeHasMembersPinLaw" = some m.cls := findClass_of_methodNamed Bd.named
  have hnm := (name_of_methodNamed Bd.named Bd.method).1
  have X0 : Stand p l e room_1 s m #[(.int p1), (.int p2)] below meth c s₁ [] 0 0 := Stand.of_body Bd
  have e0 : s₁.heap = h0 := by rw [← hh, Bd.state]; rfl
  have N0 := Fr.nil n0
  refine own_open (f := (mkF m 0 #[.val (.int p1), .val (.int p2), .unset, .unset, .unset] [])) (fun t k => castTop (own_ef0 m p1 p2) k) ?_
  refine own_by (f' := (mkF m 1 #[.val (.int p1), .val (.int p2), .unset, .unset, .unset] [(.int p2)])) (fun t h => XS.iloadN X0.here hx rfl (hb hby at_0) rfl h) ?_
  refine own_by (f' := (mkF m 2 #[.val (.int p1), .val (.int p2), .unset, .unset, .unset] [(.int (1 : Int32)), (.int p2)])) (fun t h => XS.iconst X0.here hx rfl (hb hby at_1) h) ?_
  refine own_by (f' := (mkF m 3 #[.val (.int p1), .val (.int p2), .unset, .unset, .unset] [(.int (p2 &&& (1 : Int32)))])) (fun t h => XS.iand X0.here hx rfl (hb hby at_2) rfl h) ?_
  by_cases hc3_1 : (p2 &&& (1 : Int32)) = (0 : Int32)
  · refine own_by (f' := (mkF m 16 #[.val (.int p1), .val (.int p2), .unset, .unset, .unset] [])) (fun t h => XS.ifYes X0.here hx rfl (pc0 := 3) (pc' := 16) rfl (hb hby at_3) rfl ((if0 _ _).trans (teq hc3_1).1) (by decide) (by decide) h) ?_
    refine own_by (f' := (mkF m 17 #[.val (.int p1), .val (.int p2), .unset, .unset, .unset] [(.int p1)])) (fun t h => XS.iloadN X0.here hx rfl (hb hby at_16) rfl h) ?_
    refine own_by (f' := (mkF m 18 #[.val (.int p1), .val (.int p2), .val (.int p1), .unset, .unset] [])) (fun t h => XS.istoreN X0.here hx rfl (hb hby at_17) rfl (l' := #[.val (.int p1), .val (.int p2), .val (.int p1), .unset, .unset]) rfl h) ?_
    refine own_by (f' := (mkF m 19 #[.val (.int p1), .val (.int p2), .val (.int p1), .unset, .unset] [(.int p1)])) (fun t h => XS.iloadN X0.here hx rfl (hb hby at_18) rfl h) ?_
    obtain ⟨v2, _, ⟨T2, L2, k2, n2⟩, -, X2, ⟨Lc2, hQ2, l2, y2, z2⟩, st2⟩ := Jvm.LawKit.callS X0 hx (y := (⟨"com/example/orbweave/orbweave/orb/TypeCodeShape", "of", "(I)Lcom/example/orbweave/orbweave/orb/TypeCodeShape;"⟩ : MethodName)) hown (mvT hZ (hw _ (List.mem_of_getElem? (i := 1) rfl))) (mvT hZ (hw _ (List.mem_of_getElem? (i := 2) rfl))) (mvT hZ (hw _ (List.mem_of_getElem? (i := 3) rfl))) (mvT hZ (hw _ (List.mem_of_getElem? (i := 4) rfl))) (by decide) (backOf (W := 0) (rm1 l Z a0 hw [] p1 w_EMPTY w_BOUNDED w_FIXED w_NAMED w_STRUCT w_UNION w_ENUM w_SEQUENCE w_ALIAS w_VALUE h0 n0 Z0 S_EMPTY S_BOUNDED S_FIXED S_NAMED S_STRUCT S_UNION S_ENUM S_SEQUENCE S_ALIAS S_VALUE) hZ (hw _ (List.mem_of_getElem? (i := 4) rfl)) (hw _ (List.mem_of_getElem? (i := 3) rfl)) (by decide) (by decide)) (g := (mkF m 19 #[.val (.int p1), .val (.int p2), .val (.int p1), .unset, .unset] [(.int p1)])) rfl (by rw [hml]; rfl) (argsL := [(.int p1)]) (rest := []) (lenOf own_pd1 rfl) rfl (by show 2 * 0 + _ ≤ _; exact Nat.le_of_eq rfl) (hb hby at_19) (fun _ _ => ⟨rfl, e0, (by decide : 0 + 0 ≤ _), (by decide : 0 + 0 ≤ _)⟩)
    dsimp only [Pt.U, Pt.locs, Pt.cells, Pt.slots] at X2 l2 y2 z2 st2 hQ2
    subst l2 y2 z2
    obtain ⟨hv2, Nc2, e2⟩ := hQ2
    have N2 := Fr.app N0 Nc2
    obtain rfl : v2 = some (.ref (own_f p1 w_EMPTY w_BOUNDED w_FIXED w_NAMED w_STRUCT w_UNION w_ENUM w_SEQUENCE w_ALIAS w_VALUE)) := hv2
    refine own_by (f' := (mkF m 22 #[.val (.int p1), .val (.int p2), .val (.int p1), .unset, .unset] [(.ref (own_f p1 w_EMPTY w_BOUNDED w_FIXED w_NAMED w_STRUCT w_UNION w_ENUM w_SEQUENCE w_ALIAS w_VALUE))])) st2 ?_
    refine own_by (f' := (mkF m 23 #[.val (.int p1), .val (.int p2), .val (.int p1), .val (.ref (own_f p1 w_EMPTY w_BOUNDED w_FIXED w_NAMED w_STRUCT w_UNION w_ENUM w_SEQUENCE w_ALIAS w_VALUE)), .unset] [])) (fun t h => XS.astoreN X2.here hx rfl (hb hby at_22) rfl rfl (l' := #[.val (.int p1), .val (.int p2), .val (.int p1), .val (.ref (own_f p1 w_EMPTY w_BOUNDED w_FIXED w_NAMED w_STRUCT w_UNION w_ENUM w_SEQUENCE w_ALIAS w_VALUE)), .unset]) rfl h) ?_
    refine own_by (f' := (mkF m 24 #[.val (.int p1), .val (.int p2), .val (.int p1), .val (.ref (own_f p1 w_EMPTY w_BOUNDED w_FIXED w_NAMED w_STRUCT w_UNION w_ENUM w_SEQUENCE w_ALIAS w_VALUE)), .unset] [(.int p1)])) (fun t h => XS.iloadN X2.here hx rfl (hb hby at_23) rfl h) ?_
    refine own_by (f' := (mkF m 26 #[.val (.int p1), .val (.int p2), .val (.int p1), .val (.ref (own_f p1 w_EMPTY w_BOUNDED w_FIXED w_NAMED w_STRUCT w_UNION w_ENUM w_SEQUENCE w_ALIAS w_VALUE)), .unset] [(.int (15 : Int32)), (.int p1)])) (fun t h => XT.bipushV X2.here hx rfl (15 : Int32) (hb hby at_24) rfl h) ?_
    by_cases hc26_3 : p1 = (15 : Int32)
    · refine own_by (f' := (mkF m 59 #[.val (.int p1), .val (.int p2), .val (.int p1), .val (.ref (own_f p1 w_EMPTY w_BOUNDED w_FIXED w_NAMED w_STRUCT w_UNION w_ENUM w_SEQUENCE w_ALIAS w_VALUE)), .unset] [])) (fun t h => XS.icmpYes X2.here hx rfl (pc0 := 26) (pc' := 59) rfl (hb hby at_26) rfl (teq hc26_3).1 (by decide) (by decide) h) ?_
      refine own_by (f' := (mkF m 60 #[.val (.int p1), .val (.int p2), .val (.int p1), .val (.ref (own_f p1 w_EMPTY w_BOUNDED w_FIXED w_NAMED w_STRUCT w_UNION w_ENUM w_SEQUENCE w_ALIAS w_VALUE)), .unset] [(.int (1 : Int32))])) (fun t h => XS.iconst X2.here hx rfl (hb hby at_59) h) ?_
      refine own_by (f' := (mkF m 64 #[.val (.int p1), .val (.int p2), .val (.int p1), .val (.ref (own_f p1 w_EMPTY w_BOUNDED w_FIXED w_NAMED w_STRUCT w_UNION w_ENUM w_SEQUENCE w_ALIAS w_VALUE)), .unset] [(.int (1 : Int32))])) (fun t h => XS.goto X2.here hx rfl (pc0 := 60) (pc' := 64) rfl (hb hby at_60) (by decide) (by decide) h) ?_
      refine own_by (f' := (mkF m 66 #[.val (.int p1), .val (.int p2), .val (.int p1), .val (.ref (own_f p1 w_EMPTY w_BOUNDED w_FIXED w_NAMED w_STRUCT w_UNION w_ENUM w_SEQUENCE w_ALIAS w_VALUE)), .val (.int (1 : Int32))] [])) (fun t h => XS.istore X2.here hx rfl (hb hby at_64) rfl (l' := #[.val (.int p1), .val (.int p2), .val (.int p1), .val (.ref (own_f p1 w_EMPTY w_BOUNDED w_FIXED w_NAMED w_STRUCT w_UNION w_ENUM w_SEQUENCE w_ALIAS w_VALUE)), .val (.int (1 : Int32))]) rfl h) ?_
      refine own_by (f' := (mkF m 67 #[.val (.int p1), .val (.int p2), .val (.int p1), .val (.ref (own_f p1 w_EMPTY w_BOUNDED w_FIXED w_NAMED w_STRUCT w_UNION w_ENUM w_SEQUENCE w_ALIAS w_VALUE)), .val (.int (1 : Int32))] [(.ref (own_f p1 w_EMPTY w_BOUNDED w_FIXED w_NAMED w_STRUCT w_UNION w_ENUM w_SEQUENCE w_ALIAS w_VALUE))])) (fun t h => XS.aloadN X2.here hx rfl (hb hby at_66) rfl rfl h) ?_
      obtain ⟨cq4, kq4, q4a, q4b, q4c⟩ := isOf hZ e2 (own_all (P := fun z => Exa Z h0 z "com/example/orbweave/orbweave/orb/TypeCodeShape") p1 E_EMPTY E_BOUNDED E_FIXED E_NAMED E_STRUCT E_UNION E_ENUM E_SEQUENCE E_ALIAS E_VALUE)
      obtain ⟨v4, _, ⟨T4, L4, k4, n4⟩, -, X4, ⟨Lc4, hQ4, l4, y4, z4⟩, st4⟩ := X2.virtualBack hx (y := (⟨"com/example/orbweave/orbweave/orb/TypeCodeShape", "hasMembers", "()Z"⟩ : MethodName)) (z := (⟨"com/example/orbweave/orbweave/orb/TypeCodeShape", "hasMembers", "()Z"⟩ : MethodName)) hown (mvT hZ (hw _ (List.mem_of_getElem? (i := 7) rfl))) (mvT hZ (hw _ (List.mem_of_getElem? (i := 8) rfl))) (notFace_of_selects (args := #[]) (mvT hZ (hw _ (List.mem_of_getElem? (i := 10) rfl)))) (mvT hZ (hw _ (List.mem_of_getElem? (i := 10) rfl))) (mvT hZ (hw _ (List.mem_of_getElem? (i := 9) rfl))) (by decide) (backOf (W := 0) (rm2 l Z a0 hw [] (own_f p1 w_EMPTY w_BOUNDED w_FIXED w_NAMED w_STRUCT w_UNION w_ENUM w_SEQUENCE w_ALIAS w_VALUE) w_STRUCT w_UNION w_ENUM w_VALUE h0 n0 Z0 S_STRUCT S_UNION S_ENUM S_VALUE) hZ (hw _ (List.mem_of_getElem? (i := 11) rfl)) (hw _ (List.mem_of_getElem? (i := 3) rfl)) (by decide) (by decide)) q4a q4c (g := (mkF m 67 #[.val (.int p1), .val (.int p2), .val (.int p1), .val (.ref (own_f p1 w_EMPTY w_BOUNDED w_FIXED w_NAMED w_STRUCT w_UNION w_ENUM w_SEQUENCE w_ALIAS w_VALUE)), .val (.int (1 : Int32))] [(.ref (own_f p1 w_EMPTY w_BOUNDED w_FIXED w_NAMED w_STRUCT w_UNION w_ENUM w_SEQUENCE w_ALIAS w_VALUE))])) rfl (by rw [hml]; rfl) (Steps.refl _) (argsL := []) (rest := []) (lenOf own_pd2 rfl) rfl (by show 2 * 0 + _ ≤ _; exact Nat.le_of_eq rfl) (hb hby at_67) (fun _ _ => ⟨rfl, e2, (by decide : 0 + 0 ≤ _), (by decide : 0 + 0 ≤ _)⟩)
      dsimp only [Pt.U, Pt.locs, Pt.cells, Pt.slots] at X4 l4 y4 z4 st4 hQ4
      subst l4 y4 z4
      obtain ⟨hv4, Nc4, e4⟩ := hQ4
      have N4 := Fr.app N2 Nc4
      obtain rfl : v4 = some (.int (1 : Int32)) := hv4.trans (by rw [hc26_3]; exact congrArg (fun z => some (Value.int z)) (if_pos (by simp [own_f])))
      refine own_by (f' := (mkF m 70 #[.val (.int p1), .val (.int p2), .val (.int p1), .val (.ref (own_f p1 w_EMPTY w_BOUNDED w_FIXED w_NAMED w_STRUCT w_UNION w_ENUM w_SEQUENCE w_ALIAS w_VALUE)), .val (.int (1 : Int32))] [(.int (1 : Int32))])) (fun t h => st4.trans h) ?_
      refine own_by (f' := (mkF m 72 #[.val (.int p1), .val (.int p2), .val (.int p1), .val (.ref (own_f p1 w_EMPTY w_BOUNDED w_FIXED w_NAMED w_STRUCT w_UNION w_ENUM w_SEQUENCE w_ALIAS w_VALUE)), .val (.int (1 : Int32))] [(.int (1 : Int32)), (.int (1 : Int32))])) (fun t h => XS.iload X4.here hx rfl (hb hby at_70) rfl h) ?_
      refine own_by (f' := (mkF m 75 #[.val (.int p1), .val (.int p2), .val (.int p1), .val (.ref (own_f p1 w_EMPTY w_BOUNDED w_FIXED w_NAMED w_STRUCT w_UNION w_ENUM w_SEQUENCE w_ALIAS w_VALUE)), .val (.int (1 : Int32))] [])) (fun t h => XS.icmpNo X4.here hx rfl (hb hby at_72) rfl (by decide) h) ?_
      refine own_by (f' := (mkF m 76 #[.val (.int p1), .val (.int p2), .val (.int p1), .val (.ref (own_f p1 w_EMPTY w_BOUNDED w_FIXED w_NAMED w_STRUCT w_UNION w_ENUM w_SEQUENCE w_ALIAS w_VALUE)), .val (.int (1 : Int32))] [(.int (1 : Int32))])) (fun t h => XS.iconst X4.here hx rfl (hb hby at_75) h) ?_
      refine own_by (f' := (mkF m 80 #[.val (.int p1), .val (.int p2), .val (.int p1), .val (.ref (own_f p1 w_EMPTY w_BOUNDED w_FIXED w_NAMED w_STRUCT w_UNION w_ENUM w_SEQUENCE w_ALIAS w_VALUE)), .val (.int (1 : Int32))] [(.int (1 : Int32))])) (fun t h => XS.goto X4.here hx rfl (pc0 := 76) (pc' := 80) rfl (hb hby at_76) (by decide) (by decide) h) ?_
      obtain ⟨fs, hr, hrun, hended, hW, hsame⟩ := X4.leave (v := some (.int (1 : Int32))) (fun h => by rw [Bd.returns] at h; cases h)
      refine own_mk ⟨_, _, retN X4 hx (t := .boolean) Bd.returns (by simp) (hb hby at_80) hr, hrun, hended, _, _, rfl, ?_, ⟨_, rfl⟩, hW, hsame.mono (by decide) (by decide)⟩
      show Q0 n0 _ T4.heap _
      rw [e4]
      exact ⟨rfl, N4⟩
    · refine own_by (f' := (mkF m 29 #[.val (.int p1), .val (.int p2), .val (.int p1), .val (.ref (own_f p1 w_EMPTY w_BOUNDED w_FIXED w_NAMED w_STRUCT w_UNION w_ENUM w_SEQUENCE w_ALIAS w_VALUE)), .unset] [])) (fun t h => XS.icmpNo X2.here hx rfl (hb hby at_26) rfl (feq hc26_3).1 h) ?_
      refine own_by (f' := (mkF m 30 #[.val (.int p1), .val (.int p2), .val (.int p1), .val (.ref (own_f p1 w_EMPTY w_BOUNDED w_FIXED w_NAMED w_STRUCT w_UNION w_ENUM w_SEQUENCE w_ALIAS w_VALUE)), .unset] [(.int p1)])) (fun t h => XS.iloadN X2.here hx rfl (hb hby at_29) rfl h) ?_
      refine own_by (f' := (mkF m 32 #[.val (.int p1), .val (.int p2), .val (.int p1), .val (.ref (own_f p1 w_EMPTY w_BOUNDED w_FIXED w_NAMED w_STRUCT w_UNION w_ENUM w_SEQUENCE w_ALIAS w_VALUE)), .unset] [(.int (22 : Int32)), (.int p1)])) (fun t h => XT.bipushV X2.here hx rfl (22 : Int32) (hb hby at_30) rfl h) ?_
      by_cases hc32_5 : p1 = (22 : Int32)
      · refine own_by (f' := (mkF m 59 #[.val (.int p1), .val (.int p2), .val (.int p1), .val (.ref (own_f p1 w_EMPTY w_BOUNDED w_FIXED w_NAMED w_STRUCT w_UNION w_ENUM w_SEQUENCE w_ALIAS w_VALUE)), .unset] [])) (fun t h => XS.icmpYes X2.here hx rfl (pc0 := 32) (pc' := 59) rfl (hb hby at_32) rfl (teq hc32_5).1 (by decide) (by decide) h) ?_
        refine own_by (f' := (mkF m 60 #[.val (.int p1), .val (.int p2), .val (.int p1), .val (.ref (own_f p1 w_EMPTY w_BOUNDED w_FIXED w_NAMED w_STRUCT w_UNION w_ENUM w_SEQUENCE w_ALIAS w_VALUE)), .unset] [(.int (1 : Int32))])) (fun t h => XS.iconst X2.here hx rfl (hb hby at_59) h) ?_
        refine own_by (f' := (mkF m 64 #[.val (.int p1), .val (.int p2), .val (.int p1), .val (.ref (own_f p1 w_EMPTY w_BOUNDED w_FIXED w_NAMED w_STRUCT w_UNION w_ENUM w_SEQUENCE w_ALIAS w_VALUE)), .unset] [(.int (1 : Int32))])) (fun t h => XS.goto X2.here hx rfl (pc0 := 60) (pc' := 64) rfl (hb hby at_60) (by decide) (by decide) h) ?_
        refine own_by (f' := (mkF m 66 #[.val (.int p1), .val (.int p2), .val (.int p1), .val (.ref (own_f p1 w_EMPTY w_BOUNDED w_FIXED w_NAMED w_STRUCT w_UNION w_ENUM w_SEQUENCE w_ALIAS w_VALUE)), .val (.int (1 : Int32))] [])) (fun t h => XS.istore X2.here hx rfl (hb hby at_64) rfl (l' := #[.val (.int p1), .val (.int p2), .val (.int p1), .val (.ref (own_f p1 w_EMPTY w_BOUNDED w_FIXED w_NAMED w_STRUCT w_UNION w_ENUM w_SEQUENCE w_ALIAS w_VALUE)), .val (.int (1 : Int32))]) rfl h) ?_
        refine own_by (f' := (mkF m 67 #[.val (.int p1), .val (.int p2), .val (.int p1), .val (.ref (own_f p1 w_EMPTY w_BOUNDED w_FIXED w_NAMED w_STRUCT w_UNION w_ENUM w_SEQUENCE w_ALIAS w_VALUE)), .val (.int (1 : Int32))] [(.ref (own_f p1 w_EMPTY w_BOUNDED w_FIXED w_NAMED w_STRUCT w_UNION w_ENUM w_SEQUENCE w_ALIAS w_VALUE))])) (fun t h => XS.aloadN X2.here hx rfl (hb hby at_66) rfl rfl h) ?_
        obtain ⟨cq6, kq6, q6a, q6b, q6c⟩ := isOf hZ e2 (own_all (P := fun z => Exa Z h0 z "com/example/orbweave/orbweave/orb/TypeCodeShape") p1 E_EMPTY E_BOUNDED E_FIXED E_NAMED E_STRUCT E_UNION E_ENUM E_SEQUENCE E_ALIAS E_VALUE)
        obtain ⟨v6, _, ⟨T6, L6, k6, n6⟩, -, X6, ⟨Lc6, hQ6, l6, y6, z6⟩, st6⟩ := X2.virtualBack hx (y := (⟨"com/example/orbweave/orbweave/orb/TypeCodeShape", "hasMembers", "()Z"⟩ : MethodName)) (z := (⟨"com/example/orbweave/orbweave/orb/TypeCodeShape", "hasMembers", "()Z"⟩ : MethodName)) hown (mvT hZ (hw _ (List.mem_of_getElem? (i := 7) rfl))) (mvT hZ (hw _ (List.mem_of_getElem? (i := 8) rfl))) (notFace_of_selects (args := #[]) (mvT hZ (hw _ (List.mem_of_getElem? (i := 10) rfl)))) (mvT hZ (hw _ (List.mem_of_getElem? (i := 10) rfl))) (mvT hZ (hw _ (List.mem_of_getElem? (i := 9) rfl))) (by decide) (backOf (W := 0) (rm2 l Z a0 hw [] (own_f p1 w_EMPTY w_BOUNDED w_FIXED w_NAMED w_STRUCT w_UNION w_ENUM w_SEQUENCE w_ALIAS w_VALUE) w_STRUCT w_UNION w_ENUM w_VALUE h0 n0 Z0 S_STRUCT S_UNION S_ENUM S_VALUE) hZ (hw _ (List.mem_of_getElem? (i := 11) rfl)) (hw _ (List.mem_of_getElem? (i := 3) rfl)) (by decide) (by decide)) q6a q6c (g := (mkF m 67 #[.val (.int p1), .val (.int p2), .val (.int p1), .val (.ref (own_f p1 w_EMPTY w_BOUNDED w_FIXED w_NAMED w_STRUCT w_UNION w_ENUM w_SEQUENCE w_ALIAS w_VALUE)), .val (.int (1 : Int32))] [(.ref (own_f p1 w_EMPTY w_BOUNDED w_FIXED w_NAMED w_STRUCT w_UNION w_ENUM w_SEQUENCE w_ALIAS w_VALUE))])) rfl (by rw [hml]; rfl) (Steps.refl _) (argsL := []) (rest := []) (lenOf own_pd2 rfl) rfl (by show 2 * 0 + _ ≤ _; exact Nat.le_of_eq rfl) (hb hby at_67) (fun _ _ => ⟨rfl, e2, (by decide : 0 + 0 ≤ _), (by decide : 0 + 0 ≤ _)⟩)
        dsimp only [Pt.U, Pt.locs, Pt.cells, Pt.slots] at X6 l6 y6 z6 st6 hQ6
        subst l6 y6 z6
        obtain ⟨hv6, Nc6, e6⟩ := hQ6
        have N6 := Fr.app N2 Nc6
        obtain rfl : v6 = some (.int (1 : Int32)) := hv6.trans (by rw [hc32_5]; exact congrArg (fun z => some (Value.int z)) (if_pos (by simp [own_f])))
        refine own_by (f' := (mkF m 70 #[.val (.int p1), .val (.int p2), .val (.int p1), .val (.ref (own_f p1 w_EMPTY w_BOUNDED w_FIXED w_NAMED w_STRUCT w_UNION w_ENUM w_SEQUENCE w_ALIAS w_VALUE)), .val (.int (1 : Int32))] [(.int (1 : Int32))])) (fun t h => st6.trans h) ?_
        refine own_by (f' := (mkF m 72 #[.val (.int p1), .val (.int p2), .val (.int p1), .val (.ref (own_f p1 w_EMPTY w_BOUNDED w_FIXED w_NAMED w_STRUCT w_UNION w_ENUM w_SEQUENCE w_ALIAS w_VALUE)), .val (.int (1 : Int32))] [(.int (1 : Int32)), (.int (1 : Int32))])) (fun t h => XS.iload X6.here hx rfl (hb hby at_70) rfl h) ?_
        refine own_by (f' := (mkF m 75 #[.val (.int p1), .val (.int p2), .val (.int p1), .val (.ref (own_f p1 w_EMPTY w_BOUNDED w_FIXED w_NAMED w_STRUCT w_UNION w_ENUM w_SEQUENCE w_ALIAS w_VALUE)), .val (.int (1 : Int32))] [])) (fun t h => XS.icmpNo X6.here hx rfl (hb hby at_72) rfl (by decide) h) ?_
        refine own_by (f' := (mkF m 76 #[.val (.int p1), .val (.int p2), .val (.int p1), .val (.ref (own_f p1 w_EMPTY w_BOUNDED w_FIXED w_NAMED w_STRUCT w_UNION w_ENUM w_SEQUENCE w_ALIAS w_VALUE)), .val (.int (1 : Int32))] [(.int (1 : Int32))])) (fun t h => XS.iconst X6.here hx rfl (hb hby at_75) h) ?_
        refine own_by (f' := (mkF m 80 #[.val (.int p1), .val (.int p2), .val (.int p1), .val (.ref (own_f p1 w_EMPTY w_BOUNDED w_FIXED w_NAMED w_STRUCT w_UNION w_ENUM w_SEQUENCE w_ALIAS w_VALUE)), .val (.int (1 : Int32))] [(.int (1 : Int32))])) (fun t h => XS.goto X6.here hx rfl (pc0 := 76) (pc' := 80) rfl (hb hby at_76) (by decide) (by decide) h) ?_
        obtain ⟨fs, hr, hrun, hended, hW, hsame⟩ := X6.leave (v := some (.int (1 : Int32))) (fun h => by rw [Bd.returns] at h; cases h)
        refine own_mk ⟨_, _, retN X6 hx (t := .boolean) Bd.returns (by simp) (hb hby at_80) hr, hrun, hended, _, _, rfl, ?_, ⟨_, rfl⟩, hW, hsame.mono (by decide) (by decide)⟩
        show Q0 n0 _ T6.heap _
        rw [e6]
        exact ⟨rfl, N6⟩
      · refine own_by (f' := (mkF m 35 #[.val (.int p1), .val (.int p2), .val (.int p1), .val (.ref (own_f p1 w_EMPTY w_BOUNDED w_FIXED w_NAMED w_STRUCT w_UNION w_ENUM w_SEQUENCE w_ALIAS w_VALUE)), .unset] [])) (fun t h => XS.icmpNo X2.here hx rfl (hb hby at_32) rfl (feq hc32_5).1 h) ?_
        refine own_by (f' := (mkF m 36 #[.val (.int p1), .val (.int p2), .val (.int p1), .val (.ref (own_f p1 w_EMPTY w_BOUNDED w_FIXED w_NAMED w_STRUCT w_UNION w_ENUM w_SEQUENCE w_ALIAS w_VALUE)), .unset] [(.int p1)])) (fun t h => XS.iloadN X2.here hx rfl (hb hby at_35) rfl h) ?_
        refine own_by (f' := (mkF m 38 #[.val (.int p1), .val (.int p2), .val (.int p1), .val (.ref (own_f p1 w_EMPTY w_BOUNDED w_FIXED w_NAMED w_STRUCT w_UNION w_ENUM w_SEQUENCE w_ALIAS w_VALUE)), .unset] [(.int (16 : Int32)), (.int p1)])) (fun t h => XT.bipushV X2.here hx rfl (16 : Int32) (hb hby at_36) rfl h) ?_
        by_cases hc38_7 : p1 = (16 : Int32)
        · refine own_by (f' := (mkF m 59 #[.val (.int p1), .val (.int p2), .val (.int p1), .val (.ref (own_f p1 w_EMPTY w_BOUNDED w_FIXED w_NAMED w_STRUCT w_UNION w_ENUM w_SEQUENCE w_ALIAS w_VALUE)), .unset] [])) (fun t h => XS.icmpYes X2.here hx rfl (pc0 := 38) (pc' := 59) rfl (hb hby at_38) rfl (teq hc38_7).1 (by decide) (by decide) h) ?_
          refine own_by (f' := (mkF m 60 #[.val (.int p1), .val (.int p2), .val (.int p1), .val (.ref (own_f p1 w_EMPTY w_BOUNDED w_FIXED w_NAMED w_STRUCT w_UNION w_ENUM w_SEQUENCE w_ALIAS w_VALUE)), .unset] [(.int (1 : Int32))])) (fun t h => XS.iconst X2.here hx rfl (hb hby at_59) h) ?_
          refine own_by (f' := (mkF m 64 #[.val (.int p1), .val (.int p2), .val (.int p1), .val (.ref (own_f p1 w_EMPTY w_BOUNDED w_FIXED w_NAMED w_STRUCT w_UNION w_ENUM w_SEQUENCE w_ALIAS w_VALUE)), .unset] [(.int (1 : Int32))])) (fun t h => XS.goto X2.here hx rfl (pc0 := 60) (pc' := 64) rfl (hb hby at_60) (by decide) (by decide) h) ?_
          refine own_by (f' := (mkF m 66 #[.val (.int p1), .val (.int p2), .val (.int p1), .val (.ref (own_f p1 w_EMPTY w_BOUNDED w_FIXED w_NAMED w_STRUCT w_UNION w_ENUM w_SEQUENCE w_ALIAS w_VALUE)), .val (.int (1 : Int32))] [])) (fun t h => XS.istore X2.here hx rfl (hb hby at_64) rfl (l' := #[.val (.int p1), .val (.int p2), .val (.int p1), .val (.ref (own_f p1 w_EMPTY w_BOUNDED w_FIXED w_NAMED w_STRUCT w_UNION w_ENUM w_SEQUENCE w_ALIAS w_VALUE)), .val (.int (1 : Int32))]) rfl h) ?_
          refine own_by (f' := (mkF m 67 #[.val (.int p1), .val (.int p2), .val (.int p1), .val (.ref (own_f p1 w_EMPTY w_BOUNDED w_FIXED w_NAMED w_STRUCT w_UNION w_ENUM w_SEQUENCE w_ALIAS w_VALUE)), .val (.int (1 : Int32))] [(.ref (own_f p1 w_EMPTY w_BOUNDED w_FIXED w_NAMED w_STRUCT w_UNION w_ENUM w_SEQUENCE w_ALIAS w_VALUE))])) (fun t h => XS.aloadN X2.here hx rfl (hb hby at_66) rfl rfl h) ?_
          obtain ⟨cq8, kq8, q8a, q8b, q8c⟩ := isOf hZ e2 (own_all (P := fun z => Exa Z h0 z "com/example/orbweave/orbweave/orb/TypeCodeShape") p1 E_EMPTY E_BOUNDED E_FIXED E_NAMED E_STRUCT E_UNION E_ENUM E_SEQUENCE E_ALIAS E_VALUE)
          obtain ⟨v8, _, ⟨T8, L8, k8, n8⟩, -, X8, ⟨Lc8, hQ8, l8, y8, z8⟩, st8⟩ := X2.virtualBack hx (y := (⟨"com/example/orbweave/orbweave/orb/TypeCodeShape", "hasMembers", "()Z"⟩ : MethodName)) (z := (⟨"com/example/orbweave/orbweave/orb/TypeCodeShape", "hasMembers", "()Z"⟩ : MethodName)) hown (mvT hZ (hw _ (List.mem_of_getElem? (i := 7) rfl))) (mvT hZ (hw _ (List.mem_of_getElem? (i := 8) rfl))) (notFace_of_selects (args := #[]) (mvT hZ (hw _ (List.mem_of_getElem? (i := 10) rfl)))) (mvT hZ (hw _ (List.mem_of_getElem? (i := 10) rfl))) (mvT hZ (hw _ (List.mem_of_getElem? (i := 9) rfl))) (by decide) (backOf (W := 0) (rm2 l Z a0 hw [] (own_f p1 w_EMPTY w_BOUNDED w_FIXED w_NAMED w_STRUCT w_UNION w_ENUM w_SEQUENCE w_ALIAS w_VALUE) w_STRUCT w_UNION w_ENUM w_VALUE h0 n0 Z0 S_STRUCT S_UNION S_ENUM S_VALUE) hZ (hw _ (List.mem_of_getElem? (i := 11) rfl)) (hw _ (List.mem_of_getElem? (i := 3) rfl)) (by decide) (by decide)) q8a q8c (g := (mkF m 67 #[.val (.int p1), .val (.int p2), .val (.int p1), .val (.ref (own_f p1 w_EMPTY w_BOUNDED w_FIXED w_NAMED w_STRUCT w_UNION w_ENUM w_SEQUENCE w_ALIAS w_VALUE)), .val (.int (1 : Int32))] [(.ref (own_f p1 w_EMPTY w_BOUNDED w_FIXED w_NAMED w_STRUCT w_UNION w_ENUM w_SEQUENCE w_ALIAS w_VALUE))])) rfl (by rw [hml]; rfl) (Steps.refl _) (argsL := []) (rest := []) (lenOf own_pd2 rfl) rfl (by show 2 * 0 + _ ≤ _; exact Nat.le_of_eq rfl) (hb hby at_67) (fun _ _ => ⟨rfl, e2, (by decide : 0 + 0 ≤ _), (by decide : 0 + 0 ≤ _)⟩)
          dsimp only [Pt.U, Pt.locs, Pt.cells, Pt.slots] at X8 l8 y8 z8 st8 hQ8
          subst l8 y8 z8
          obtain ⟨hv8, Nc8, e8⟩ := hQ8
          have N8 := Fr.app N2 Nc8
          obtain rfl : v8 = some (.int (1 : Int32)) := hv8.trans (by rw [hc38_7]; exact congrArg (fun z => some (Value.int z)) (if_pos (by simp [own_f])))
          refine own_by (f' := (mkF m 70 #[.val (.int p1), .val (.int p2), .val (.int p1), .val (.ref (own_f p1 w_EMPTY w_BOUNDED w_FIXED w_NAMED w_STRUCT w_UNION w_ENUM w_SEQUENCE w_ALIAS w_VALUE)), .val (.int (1 : Int32))] [(.int (1 : Int32))])) (fun t h => st8.trans h) ?_
          refine own_by (f' := (mkF m 72 #[.val (.int p1), .val (.int p2), .val (.int p1), .val (.ref (own_f p1 w_EMPTY w_BOUNDED w_FIXED w_NAMED w_STRUCT w_UNION w_ENUM w_SEQUENCE w_ALIAS w_VALUE)), .val (.int (1 : Int32))] [(.int (1 : Int32)), (.int (1 : Int32))])) (fun t h => XS.iload X8.here hx rfl (hb hby at_70) rfl h) ?_
          refine own_by (f' := (mkF m 75 #[.val (.int p1), .val (.int p2), .val (.int p1), .val (.ref (own_f p1 w_EMPTY w_BOUNDED w_FIXED w_NAMED w_STRUCT w_UNION w_ENUM w_SEQUENCE w_ALIAS w_VALUE)), .val (.int (1 : Int32))] [])) (fun t h => XS.icmpNo X8.here hx rfl (hb hby at_72) rfl (by decide) h) ?_
          refine own_by (f' := (mkF m 76 #[.val (.int p1), .val (.int p2), .val (.int p1), .val (.ref (own_f p1 w_EMPTY w_BOUNDED w_FIXED w_NAMED w_STRUCT w_UNION w_ENUM w_SEQUENCE w_ALIAS w_VALUE)), .val (.int (1 : Int32))] [(.int (1 : Int32))])) (fun t h => XS.iconst X8.here hx rfl (hb hby at_75) h) ?_
          refine own_by (f' := (mkF m 80 #[.val (.int p1), .val (.int p2), .val (.int p1), .val (.ref (own_f p1 w_EMPTY w_BOUNDED w_FIXED w_NAMED w_STRUCT w_UNION w_ENUM w_SEQUENCE w_ALIAS w_VALUE)), .val (.int (1 : Int32))] [(.int (1 : Int32))])) (fun t h => XS.goto X8.here hx rfl (pc0 := 76) (pc' := 80) rfl (hb hby at_76) (by decide) (by decide) h) ?_
          obtain ⟨fs, hr, hrun, hended, hW, hsame⟩ := X8.leave (v := some (.int (1 : Int32))) (fun h => by rw [Bd.returns] at h; cases h)
          refine own_mk ⟨_, _, retN X8 hx (t := .boolean) Bd.returns (by simp) (hb hby at_80) hr, hrun, hended, _, _, rfl, ?_, ⟨_, rfl⟩, hW, hsame.mono (by decide) (by decide)⟩
          show Q0 n0 _ T8.heap _
          rw [e8]
          exact ⟨rfl, N8⟩
        · refine own_by (f' := (mkF m 41 #[.val (.int p1), .val (.int p2), .val (.int p1), .val (.ref (own_f p1 w_EMPTY w_BOUNDED w_FIXED w_NAMED w_STRUCT w_UNION w_ENUM w_SEQUENCE w_ALIAS w_VALUE)), .unset] [])) (fun t h => XS.icmpNo X2.here hx rfl (hb hby at_38) rfl (feq hc38_7).1 h) ?_
          refine own_by (f' := (mkF m 42 #[.val (.int p1), .val (.int p2), .val (.int p1), .val (.ref (own_f p1 w_EMPTY w_BOUNDED w_FIXED w_NAMED w_STRUCT w_UNION w_ENUM w_SEQUENCE w_ALIAS w_VALUE)), .unset] [(.int p1)])) (fun t h => XS.iloadN X2.here hx rfl (hb hby at_41) rfl h) ?_
          refine own_by (f' := (mkF m 44 #[.val (.int p1), .val (.int p2), .val (.int p1), .val (.ref (own_f p1 w_EMPTY w_BOUNDED w_FIXED w_NAMED w_STRUCT w_UNION w_ENUM w_SEQUENCE w_ALIAS w_VALUE)), .unset] [(.int (17 : Int32)), (.int p1)])) (fun t h => XT.bipushV X2.here hx rfl (17 : Int32) (hb hby at_42) rfl h) ?_
          by_cases hc44_9 : p1 = (17 : Int32)
          · refine own_by (f' := (mkF m 59 #[.val (.int p1), .val (.int p2), .val (.int p1), .val (.ref (own_f p1 w_EMPTY w_BOUNDED w_FIXED w_NAMED w_STRUCT w_UNION w_ENUM w_SEQUENCE w_ALIAS w_VALUE)), .unset] [])) (fun t h => XS.icmpYes X2.here hx rfl (pc0 := 44) (pc' := 59) rfl (hb hby at_44) rfl (teq hc44_9).1 (by decide) (by decide) h) ?_
            refine own_by (f' := (mkF m 60 #[.val (.int p1), .val (.int p2), .val (.int p1), .val (.ref (own_f p1 w_EMPTY w_BOUNDED w_FIXED w_NAMED w_STRUCT w_UNION w_ENUM w_SEQUENCE w_ALIAS w_VALUE)), .unset] [(.int (1 : Int32))])) (fun t h => XS.iconst X2.here hx rfl (hb hby at_59) h) ?_
            refine own_by (f' := (mkF m 64 #[.val (.int p1), .val (.int p2), .val (.int p1), .val (.ref (own_f p1 w_EMPTY w_BOUNDED w_FIXED w_NAMED w_STRUCT w_UNION w_ENUM w_SEQUENCE w_ALIAS w_VALUE)), .unset] [(.int (1 : Int32))])) (fun t h => XS.goto X2.here hx rfl (pc0 := 60) (pc' := 64) rfl (hb hby at_60) (by decide) (by decide) h) ?_
            refine own_by (f' := (mkF m 66 #[.val (.int p1), .val (.int p2), .val (.int p1), .val (.ref (own_f p1 w_EMPTY w_BOUNDED w_FIXED w_NAMED w_STRUCT w_UNION w_ENUM w_SEQUENCE w_ALIAS w_VALUE)), .val (.int (1 : Int32))] [])) (fun t h => XS.istore X2.here hx rfl (hb hby at_64) rfl (l' := #[.val (.int p1), .val (.int p2), .val (.int p1), .val (.ref (own_f p1 w_EMPTY w_BOUNDED w_FIXED w_NAMED w_STRUCT w_UNION w_ENUM w_SEQUENCE w_ALIAS w_VALUE)), .val (.int (1 : Int32))]) rfl h) ?_
            refine own_by (f' := (mkF m 67 #[.val (.int p1), .val (.int p2), .val (.int p1), .val (.ref (own_f p1 w_EMPTY w_BOUNDED w_FIXED w_NAMED w_STRUCT w_UNION w_ENUM w_SEQUENCE w_ALIAS w_VALUE)), .val (.int (1 : Int32))] [(.ref (own_f p1 w_EMPTY w_BOUNDED w_FIXED w_NAMED w_STRUCT w_UNION w_ENUM w_SEQUENCE w_ALIAS w_VALUE))])) (fun t h => XS.aloadN X2.here hx rfl (hb hby at_66) rfl rfl h) ?_
            obtain ⟨cq10, kq10, q10a, q10b, q10c⟩ := isOf hZ e2 (own_all (P := fun z => Exa Z h0 z "com/example/orbweave/orbweave/orb/TypeCodeShape") p1 E_EMPTY E_BOUNDED E_FIXED E_NAMED E_STRUCT E_UNION E_ENUM E_SEQUENCE E_ALIAS E_VALUE)
            obtain ⟨v10, _, ⟨T10, L10, k10, n10⟩, -, X10, ⟨Lc10, hQ10, l10, y10, z10⟩, st10⟩ := X2.virtualBack hx (y := (⟨"com/example/orbweave/orbweave/orb/TypeCodeShape", "hasMembers", "()Z"⟩ : MethodName)) (z := (⟨"com/example/orbweave/orbweave/orb/TypeCodeShape", "hasMembers", "()Z"⟩ : MethodName)) hown (mvT hZ (hw _ (List.mem_of_getElem? (i := 7) rfl))) (mvT hZ (hw _ (List.mem_of_getElem? (i := 8) rfl))) (notFace_of_selects (args := #[]) (mvT hZ (hw _ (List.mem_of_getElem? (i := 10) rfl)))) (mvT hZ (hw _ (List.mem_of_getElem? (i := 10) rfl))) (mvT hZ (hw _ (List.mem_of_getElem? (i := 9) rfl))) (by decide) (backOf (W := 0) (rm2 l Z a0 hw [] (own_f p1 w_EMPTY w_BOUNDED w_FIXED w_NAMED w_STRUCT w_UNION w_ENUM w_SEQUENCE w_ALIAS w_VALUE) w_STRUCT w_UNION w_ENUM w_VALUE h0 n0 Z0 S_STRUCT S_UNION S_ENUM S_VALUE) hZ (hw _ (List.mem_of_getElem? (i := 11) rfl)) (hw _ (List.mem_of_getElem? (i := 3) rfl)) (by decide) (by decide)) q10a q10c (g := (mkF m 67 #[.val (.int p1), .val (.int p2), .val (.int p1), .val (.ref (own_f p1 w_EMPTY w_BOUNDED w_FIXED w_NAMED w_STRUCT w_UNION w_ENUM w_SEQUENCE w_ALIAS w_VALUE)), .val (.int (1 : Int32))] [(.ref (own_f p1 w_EMPTY w_BOUNDED w_FIXED w_NAMED w_STRUCT w_UNION w_ENUM w_SEQUENCE w_ALIAS w_VALUE))])) rfl (by rw [hml]; rfl) (Steps.refl _) (argsL := []) (rest := []) (lenOf own_pd2 rfl) rfl (by show 2 * 0 + _ ≤ _; exact Nat.le_of_eq rfl) (hb hby at_67) (fun _ _ => ⟨rfl, e2, (by decide : 0 + 0 ≤ _), (by decide : 0 + 0 ≤ _)⟩)
            dsimp only [Pt.U, Pt.locs, Pt.cells, Pt.slots] at X10 l10 y10 z10 st10 hQ10
            subst l10 y10 z10
            obtain ⟨hv10, Nc10, e10⟩ := hQ10
            have N10 := Fr.app N2 Nc10
            obtain rfl : v10 = some (.int (1 : Int32)) := hv10.trans (by rw [hc44_9]; exact congrArg (fun z => some (Value.int z)) (if_pos (by simp [own_f])))
            refine own_by (f' := (mkF m 70 #[.val (.int p1), .val (.int p2), .val (.int p1), .val (.ref (own_f p1 w_EMPTY w_BOUNDED w_FIXED w_NAMED w_STRUCT w_UNION w_ENUM w_SEQUENCE w_ALIAS w_VALUE)), .val (.int (1 : Int32))] [(.int (1 : Int32))])) (fun t h => st10.trans h) ?_
            refine own_by (f' := (mkF m 72 #[.val (.int p1), .val (.int p2), .val (.int p1), .val (.ref (own_f p1 w_EMPTY w_BOUNDED w_FIXED w_NAMED w_STRUCT w_UNION w_ENUM w_SEQUENCE w_ALIAS w_VALUE)), .val (.int (1 : Int32))] [(.int (1 : Int32)), (.int (1 : Int32))])) (fun t h => XS.iload X10.here hx rfl (hb hby at_70) rfl h) ?_
            refine own_by (f' := (mkF m 75 #[.val (.int p1), .val (.int p2), .val (.int p1), .val (.ref (own_f p1 w_EMPTY w_BOUNDED w_FIXED w_NAMED w_STRUCT w_UNION w_ENUM w_SEQUENCE w_ALIAS w_VALUE)), .val (.int (1 : Int32))] [])) (fun t h => XS.icmpNo X10.here hx rfl (hb hby at_72) rfl (by decide) h) ?_
            refine own_by (f' := (mkF m 76 #[.val (.int p1), .val (.int p2), .val (.int p1), .val (.ref (own_f p1 w_EMPTY w_BOUNDED w_FIXED w_NAMED w_STRUCT w_UNION w_ENUM w_SEQUENCE w_ALIAS w_VALUE)), .val (.int (1 : Int32))] [(.int (1 : Int32))])) (fun t h => XS.iconst X10.here hx rfl (hb hby at_75) h) ?_
            refine own_by (f' := (mkF m 80 #[.val (.int p1), .val (.int p2), .val (.int p1), .val (.ref (own_f p1 w_EMPTY w_BOUNDED w_FIXED w_NAMED w_STRUCT w_UNION w_ENUM w_SEQUENCE w_ALIAS w_VALUE)), .val (.int (1 : Int32))] [(.int (1 : Int32))])) (fun t h => XS.goto X10.here hx rfl (pc0 := 76) (pc' := 80) rfl (hb hby at_76) (by decide) (by decide) h) ?_
            obtain ⟨fs, hr, hrun, hended, hW, hsame⟩ := X10.leave (v := some (.int (1 : Int32))) (fun h => by rw [Bd.returns] at h; cases h)
            refine own_mk ⟨_, _, retN X10 hx (t := .boolean) Bd.returns (by simp) (hb hby at_80) hr, hrun, hended, _, _, rfl, ?_, ⟨_, rfl⟩, hW, hsame.mono (by decide) (by decide)⟩
            show Q0 n0 _ T10.heap _
            rw [e10]
            exact ⟨rfl, N10⟩
          · refine own_by (f' := (mkF m 47 #[.val (.int p1), .val (.int p2), .val (.int p1), .val (.ref (own_f p1 w_EMPTY w_BOUNDED w_FIXED w_NAMED w_STRUCT w_UNION w_ENUM w_SEQUENCE w_ALIAS w_VALUE)), .unset] [])) (fun t h => XS.icmpNo X2.here hx rfl (hb hby at_44) rfl (feq hc44_9).1 h) ?_
            refine own_by (f' := (mkF m 48 #[.val (.int p1), .val (.int p2), .val (.int p1), .val (.ref (own_f p1 w_EMPTY w_BOUNDED w_FIXED w_NAMED w_STRUCT w_UNION w_ENUM w_SEQUENCE w_ALIAS w_VALUE)), .unset] [(.int p1)])) (fun t h => XS.iloadN X2.here hx rfl (hb hby at_47) rfl h) ?_
            refine own_by (f' := (mkF m 50 #[.val (.int p1), .val (.int p2), .val (.int p1), .val (.ref (own_f p1 w_EMPTY w_BOUNDED w_FIXED w_NAMED w_STRUCT w_UNION w_ENUM w_SEQUENCE w_ALIAS w_VALUE)), .unset] [(.int (29 : Int32)), (.int p1)])) (fun t h => XT.bipushV X2.here hx rfl (29 : Int32) (hb hby at_48) rfl h) ?_
            by_cases hc50_11 : p1 = (29 : Int32)
            · refine own_by (f' := (mkF m 59 #[.val (.int p1), .val (.int p2), .val (.int p1), .val (.ref (own_f p1 w_EMPTY w_BOUNDED w_FIXED w_NAMED w_STRUCT w_UNION w_ENUM w_SEQUENCE w_ALIAS w_VALUE)), .unset] [])) (fun t h => XS.icmpYes X2.here hx rfl (pc0 := 50) (pc' := 59) rfl (hb hby at_50) rfl (teq hc50_11).1 (by decide) (by decide) h) ?_
              refine own_by (f' := (mkF m 60 #[.val (.int p1), .val (.int p2), .val (.int p1), .val (.ref (own_f p1 w_EMPTY w_BOUNDED w_FIXED w_NAMED w_STRUCT w_UNION w_ENUM w_SEQUENCE w_ALIAS w_VALUE)), .unset] [(.int (1 : Int32))])) (fun t h => XS.iconst X2.here hx rfl (hb hby at_59) h) ?_
              refine own_by (f' := (mkF m 64 #[.val (.int p1), .val (.int p2), .val (.int p1), .val (.ref (own_f p1 w_EMPTY w_BOUNDED w_FIXED w_NAMED w_STRUCT w_UNION w_ENUM w_SEQUENCE w_ALIAS w_VALUE)), .unset] [(.int (1 : Int32))])) (fun t h => XS.goto X2.here hx rfl (pc0 := 60) (pc' := 64) rfl (hb hby at_60) (by decide) (by decide) h) ?_
              refine own_by (f' := (mkF m 66 #[.val (.int p1), .val (.int p2), .val (.int p1), .val (.ref (own_f p1 w_EMPTY w_BOUNDED w_FIXED w_NAMED w_STRUCT w_UNION w_ENUM w_SEQUENCE w_ALIAS w_VALUE)), .val (.int (1 : Int32))] [])) (fun t h => XS.istore X2.here hx rfl (hb hby at_64) rfl (l' := #[.val (.int p1), .val (.int p2), .val (.int p1), .val (.ref (own_f p1 w_EMPTY w_BOUNDED w_FIXED w_NAMED w_STRUCT w_UNION w_ENUM w_SEQUENCE w_ALIAS w_VALUE)), .val (.int (1 : Int32))]) rfl h) ?_
              refine own_by (f' := (mkF m 67 #[.val (.int p1), .val (.int p2), .val (.int p1), .val (.ref (own_f p1 w_EMPTY w_BOUNDED w_FIXED w_NAMED w_STRUCT w_UNION w_ENUM w_SEQUENCE w_ALIAS w_VALUE)), .val (.int (1 : Int32))] [(.ref (own_f p1 w_EMPTY w_BOUNDED w_FIXED w_NAMED w_STRUCT w_UNION w_ENUM w_SEQUENCE w_ALIAS w_VALUE))])) (fun t h => XS.aloadN X2.here hx rfl (hb hby at_66) rfl rfl h) ?_
              obtain ⟨cq12, kq12, q12a, q12b, q12c⟩ := isOf hZ e2 (own_all (P := fun z => Exa Z h0 z "com/example/orbweave/orbweave/orb/TypeCodeShape") p1 E_EMPTY E_BOUNDED E_FIXED E_NAMED E_STRUCT E_UNION E_ENUM E_SEQUENCE E_ALIAS E_VALUE)
              obtain ⟨v12, _, ⟨T12, L12, k12, n12⟩, -, X12, ⟨Lc12, hQ12, l12, y12, z12⟩, st12⟩ := X2.virtualBack hx (y := (⟨"com/example/orbweave/orbweave/orb/TypeCodeShape", "hasMembers", "()Z"⟩ : MethodName)) (z := (⟨"com/example/orbweave/orbweave/orb/TypeCodeShape", "hasMembers", "()Z"⟩ : MethodName)) hown (mvT hZ (hw _ (List.mem_of_getElem? (i := 7) rfl))) (mvT hZ (hw _ (List.mem_of_getElem? (i := 8) rfl))) (notFace_of_selects (args := #[]) (mvT hZ (hw _ (List.mem_of_getElem? (i := 10) rfl)))) (mvT hZ (hw _ (List.mem_of_getElem? (i := 10) rfl))) (mvT hZ (hw _ (List.mem_of_getElem? (i := 9) rfl))) (by decide) (backOf (W := 0) (rm2 l Z a0 hw [] (own_f p1 w_EMPTY w_BOUNDED w_FIXED w_NAMED w_STRUCT w_UNION w_ENUM w_SEQUENCE w_ALIAS w_VALUE) w_STRUCT w_UNION w_ENUM w_VALUE h0 n0 Z0 S_STRUCT S_UNION S_ENUM S_VALUE) hZ (hw _ (List.mem_of_getElem? (i := 11) rfl)) (hw _ (List.mem_of_getElem? (i := 3) rfl)) (by decide) (by decide)) q12a q12c (g := (mkF m 67 #[.val (.int p1), .val (.int p2), .val (.int p1), .val (.ref (own_f p1 w_EMPTY w_BOUNDED w_FIXED w_NAMED w_STRUCT w_UNION w_ENUM w_SEQUENCE w_ALIAS w_VALUE)), .val (.int (1 : Int32))] [(.ref (own_f p1 w_EMPTY w_BOUNDED w_FIXED w_NAMED w_STRUCT w_UNION w_ENUM w_SEQUENCE w_ALIAS w_VALUE))])) rfl (by rw [hml]; rfl) (Steps.refl _) (argsL := []) (rest := []) (lenOf own_pd2 rfl) rfl (by show 2 * 0 + _ ≤ _; exact Nat.le_of_eq rfl) (hb hby at_67) (fun _ _ => ⟨rfl, e2, (by decide : 0 + 0 ≤ _), (by decide : 0 + 0 ≤ _)⟩)
              dsimp only [Pt.U, Pt.locs, Pt.cells, Pt.slots] at X12 l12 y12 z12 st12 hQ12
              subst l12 y12 z12
              obtain ⟨hv12, Nc12, e12⟩ := hQ12
              have N12 := Fr.app N2 Nc12
              obtain rfl : v12 = some (.int (1 : Int32)) := hv12.trans (by rw [hc50_11]; exact congrArg (fun z => some (Value.int z)) (if_pos (by simp [own_f])))
              refine own_by (f' := (mkF m 70 #[.val (.int p1), .val (.int p2), .val (.int p1), .val (.ref (own_f p1 w_EMPTY w_BOUNDED w_FIXED w_NAMED w_STRUCT w_UNION w_ENUM w_SEQUENCE w_ALIAS w_VALUE)), .val (.int (1 : Int32))] [(.int (1 : Int32))])) (fun t h => st12.trans h) ?_
              refine own_by (f' := (mkF m 72 #[.val (.int p1), .val (.int p2), .val (.int p1), .val (.ref (own_f p1 w_EMPTY w_BOUNDED w_FIXED w_NAMED w_STRUCT w_UNION w_ENUM w_SEQUENCE w_ALIAS w_VALUE)), .val (.int (1 : Int32))] [(.int (1 : Int32)), (.int (1 : Int32))])) (fun t h => XS.iload X12.here hx rfl (hb hby at_70) rfl h) ?_
              refine own_by (f' := (mkF m 75 #[.val (.int p1), .val (.int p2), .val (.int p1), .val (.ref (own_f p1 w_EMPTY w_BOUNDED w_FIXED w_NAMED w_STRUCT w_UNION w_ENUM w_SEQUENCE w_ALIAS w_VALUE)), .val (.int (1 : Int32))] [])) (fun t h => XS.icmpNo X12.here hx rfl (hb hby at_72) rfl (by decide) h) ?_
              refine own_by (f' := (mkF m 76 #[.val (.int p1), .val (.int p2), .val (.int p1), .val (.ref (own_f p1 w_EMPTY w_BOUNDED w_FIXED w_NAMED w_STRUCT w_UNION w_ENUM w_SEQUENCE w_ALIAS w_VALUE)), .val (.int (1 : Int32))] [(.int (1 : Int32))])) (fun t h => XS.iconst X12.here hx rfl (hb hby at_75) h) ?_
              refine own_by (f' := (mkF m 80 #[.val (.int p1), .val (.int p2), .val (.int p1), .val (.ref (own_f p1 w_EMPTY w_BOUNDED w_FIXED w_NAMED w_STRUCT w_UNION w_ENUM w_SEQUENCE w_ALIAS w_VALUE)), .val (.int (1 : Int32))] [(.int (1 : Int32))])) (fun t h => XS.goto X12.here hx rfl (pc0 := 76) (pc' := 80) rfl (hb hby at_76) (by decide) (by decide) h) ?_
              obtain ⟨fs, hr, hrun, hended, hW, hsame⟩ := X12.leave (v := some (.int (1 : Int32))) (fun h => by rw [Bd.returns] at h; cases h)
              refine own_mk ⟨_, _, retN X12 hx (t := .boolean) Bd.returns (by simp) (hb hby at_80) hr, hrun, hended, _, _, rfl, ?_, ⟨_, rfl⟩, hW, hsame.mono (by decide) (by decide)⟩
              show Q0 n0 _ T12.heap _
              rw [e12]
              exact ⟨rfl, N12⟩
            · refine own_by (f' := (mkF m 53 #[.val (.int p1), .val (.int p2), .val (.int p1), .val (.ref (own_f p1 w_EMPTY w_BOUNDED w_FIXED w_NAMED w_STRUCT w_UNION w_ENUM w_SEQUENCE w_ALIAS w_VALUE)), .unset] [])) (fun t h => XS.icmpNo X2.here hx rfl (hb hby at_50) rfl (feq hc50_11).1 h) ?_
              refine own_by (f' := (mkF m 54 #[.val (.int p1), .val (.int p2), .val (.int p1), .val (.ref (own_f p1 w_EMPTY w_BOUNDED w_FIXED w_NAMED w_STRUCT w_UNION w_ENUM w_SEQUENCE w_ALIAS w_VALUE)), .unset] [(.int p1)])) (fun t h => XS.iloadN X2.here hx rfl (hb hby at_53) rfl h) ?_
              refine own_by (f' := (mkF m 56 #[.val (.int p1), .val (.int p2), .val (.int p1), .val (.ref (own_f p1 w_EMPTY w_BOUNDED w_FIXED w_NAMED w_STRUCT w_UNION w_ENUM w_SEQUENCE w_ALIAS w_VALUE)), .unset] [(.int (36 : Int32)), (.int p1)])) (fun t h => XT.bipushV X2.here hx rfl (36 : Int32) (hb hby at_54) rfl h) ?_
              by_cases hc56_13 : p1 = (36 : Int32)
              · refine own_by (f' := (mkF m 59 #[.val (.int p1), .val (.int p2), .val (.int p1), .val (.ref (own_f p1 w_EMPTY w_BOUNDED w_FIXED w_NAMED w_STRUCT w_UNION w_ENUM w_SEQUENCE w_ALIAS w_VALUE)), .unset] [])) (fun t h => XS.icmpNo X2.here hx rfl (hb hby at_56) rfl (teq hc56_13).2 h) ?_
                refine own_by (f' := (mkF m 60 #[.val (.int p1), .val (.int p2), .val (.int p1), .val (.ref (own_f p1 w_EMPTY w_BOUNDED w_FIXED w_NAMED w_STRUCT w_UNION w_ENUM w_SEQUENCE w_ALIAS w_VALUE)), .unset] [(.int (1 : Int32))])) (fun t h => XS.iconst X2.here hx rfl (hb hby at_59) h) ?_
                refine own_by (f' := (mkF m 64 #[.val (.int p1), .val (.int p2), .val (.int p1), .val (.ref (own_f p1 w_EMPTY w_BOUNDED w_FIXED w_NAMED w_STRUCT w_UNION w_ENUM w_SEQUENCE w_ALIAS w_VALUE)), .unset] [(.int (1 : Int32))])) (fun t h => XS.goto X2.here hx rfl (pc0 := 60) (pc' := 64) rfl (hb hby at_60) (by decide) (by decide) h) ?_
                refine own_by (f' := (mkF m 66 #[.val (.int p1), .val (.int p2), .val (.int p1), .val (.ref (own_f p1 w_EMPTY w_BOUNDED w_FIXED w_NAMED w_STRUCT w_UNION w_ENUM w_SEQUENCE w_ALIAS w_VALUE)), .val (.int (1 : Int32))] [])) (fun t h => XS.istore X2.here hx rfl (hb hby at_64) rfl (l' := #[.val (.int p1), .val (.int p2), .val (.int p1), .val (.ref (own_f p1 w_EMPTY w_BOUNDED w_FIXED w_NAMED w_STRUCT w_UNION w_ENUM w_SEQUENCE w_ALIAS w_VALUE)), .val (.int (1 : Int32))]) rfl h) ?_
                refine own_by (f' := (mkF m 67 #[.val (.int p1), .val (.int p2), .val (.int p1), .val (.ref (own_f p1 w_EMPTY w_BOUNDED w_FIXED w_NAMED w_STRUCT w_UNION w_ENUM w_SEQUENCE w_ALIAS w_VALUE)), .val (.int (1 : Int32))] [(.ref (own_f p1 w_EMPTY w_BOUNDED w_FIXED w_NAMED w_STRUCT w_UNION w_ENUM w_SEQUENCE w_ALIAS w_VALUE))])) (fun t h => XS.aloadN X2.here hx rfl (hb hby at_66) rfl rfl h) ?_
                obtain ⟨cq14, kq14, q14a, q14b, q14c⟩ := isOf hZ e2 (own_all (P := fun z => Exa Z h0 z "com/example/orbweave/orbweave/orb/TypeCodeShape") p1 E_EMPTY E_BOUNDED E_FIXED E_NAMED E_STRUCT E_UNION E_ENUM E_SEQUENCE E_ALIAS E_VALUE)
                obtain ⟨v14, _, ⟨T14, L14, k14, n14⟩, -, X14, ⟨Lc14, hQ14, l14, y14, z14⟩, st14⟩ := X2.virtualBack hx (y := (⟨"com/example/orbweave/orbweave/orb/TypeCodeShape", "hasMembers", "()Z"⟩ : MethodName)) (z := (⟨"com/example/orbweave/orbweave/orb/TypeCodeShape", "hasMembers", "()Z"⟩ : MethodName)) hown (mvT hZ (hw _ (List.mem_of_getElem? (i := 7) rfl))) (mvT hZ (hw _ (List.mem_of_getElem? (i := 8) rfl))) (notFace_of_selects (args := #[]) (mvT hZ (hw _ (List.mem_of_getElem? (i := 10) rfl)))) (mvT hZ (hw _ (List.mem_of_getElem? (i := 10) rfl))) (mvT hZ (hw _ (List.mem_of_getElem? (i := 9) rfl))) (by decide) (backOf (W := 0) (rm2 l Z a0 hw [] (own_f p1 w_EMPTY w_BOUNDED w_FIXED w_NAMED w_STRUCT w_UNION w_ENUM w_SEQUENCE w_ALIAS w_VALUE) w_STRUCT w_UNION w_ENUM w_VALUE h0 n0 Z0 S_STRUCT S_UNION S_ENUM S_VALUE) hZ (hw _ (List.mem_of_getElem? (i := 11) rfl)) (hw _ (List.mem_of_getElem? (i := 3) rfl)) (by decide) (by decide)) q14a q14c (g := (mkF m 67 #[.val (.int p1), .val (.int p2), .val (.int p1), .val (.ref (own_f p1 w_EMPTY w_BOUNDED w_FIXED w_NAMED w_STRUCT w_UNION w_ENUM w_SEQUENCE w_ALIAS w_VALUE)), .val (.int (1 : Int32))] [(.ref (own_f p1 w_EMPTY w_BOUNDED w_FIXED w_NAMED w_STRUCT w_UNION w_ENUM w_SEQUENCE w_ALIAS w_VALUE))])) rfl (by rw [hml]; rfl) (Steps.refl _) (argsL := []) (rest := []) (lenOf own_pd2 rfl) rfl (by show 2 * 0 + _ ≤ _; exact Nat.le_of_eq rfl) (hb hby at_67) (fun _ _ => ⟨rfl, e2, (by decide : 0 + 0 ≤ _), (by decide : 0 + 0 ≤ _)⟩)
                dsimp only [Pt.U, Pt.locs, Pt.cells, Pt.slots] at X14 l14 y14 z14 st14 hQ14
                subst l14 y14 z14
                obtain ⟨hv14, Nc14, e14⟩ := hQ14
                have N14 := Fr.app N2 Nc14
                obtain rfl : v14 = some (.int (1 : Int32)) := hv14.trans (by rw [hc56_13]; exact congrArg (fun z => some (Value.int z)) (if_pos (by simp [own_f])))
                refine own_by (f' := (mkF m 70 #[.val (.int p1), .val (.int p2), .val (.int p1), .val (.ref (own_f p1 w_EMPTY w_BOUNDED w_FIXED w_NAMED w_STRUCT w_UNION w_ENUM w_SEQUENCE w_ALIAS w_VALUE)), .val (.int (1 : Int32))] [(.int (1 : Int32))])) (fun t h => st14.trans h) ?_
                refine own_by (f' := (mkF m 72 #[.val (.int p1), .val (.int p2), .val (.int p1), .val (.ref (own_f p1 w_EMPTY w_BOUNDED w_FIXED w_NAMED w_STRUCT w_UNION w_ENUM w_SEQUENCE w_ALIAS w_VALUE)), .val (.int (1 : Int32))] [(.int (1 : Int32)), (.int (1 : Int32))])) (fun t h => XS.iload X14.here hx rfl (hb hby at_70) rfl h) ?_
                refine own_by (f' := (mkF m 75 #[.val (.int p1), .val (.int p2), .val (.int p1), .val (.ref (own_f p1 w_EMPTY w_BOUNDED w_FIXED w_NAMED w_STRUCT w_UNION w_ENUM w_SEQUENCE w_ALIAS w_VALUE)), .val (.int (1 : Int32))] [])) (fun t h => XS.icmpNo X14.here hx rfl (hb hby at_72) rfl (by decide) h) ?_
                refine own_by (f' := (mkF m 76 #[.val (.int p1), .val (.int p2), .val (.int p1), .val (.ref (own_f p1 w_EMPTY w_BOUNDED w_FIXED w_NAMED w_STRUCT w_UNION w_ENUM w_SEQUENCE w_ALIAS w_VALUE)), .val (.int (1 : Int32))] [(.int (1 : Int32))])) (fun t h => XS.iconst X14.here hx rfl (hb hby at_75) h) ?_
                refine own_by (f' := (mkF m 80 #[.val (.int p1), .val (.int p2), .val (.int p1), .val (.ref (own_f p1 w_EMPTY w_BOUNDED w_FIXED w_NAMED w_STRUCT w_UNION w_ENUM w_SEQUENCE w_ALIAS w_VALUE)), .val (.int (1 : Int32))] [(.int (1 : Int32))])) (fun t h => XS.goto X14.here hx rfl (pc0 := 76) (pc' := 80) rfl (hb hby at_76) (by decide) (by decide) h) ?_
                obtain ⟨fs, hr, hrun, hended, hW, hsame⟩ := X14.leave (v := some (.int (1 : Int32))) (fun h => by rw [Bd.returns] at h; cases h)
                refine own_mk ⟨_, _, retN X14 hx (t := .boolean) Bd.returns (by simp) (hb hby at_80) hr, hrun, hended, _, _, rfl, ?_, ⟨_, rfl⟩, hW, hsame.mono (by decide) (by decide)⟩
                show Q0 n0 _ T14.heap _
                rw [e14]
                exact ⟨rfl, N14⟩
              · refine own_by (f' := (mkF m 63 #[.val (.int p1), .val (.int p2), .val (.int p1), .val (.ref (own_f p1 w_EMPTY w_BOUNDED w_FIXED w_NAMED w_STRUCT w_UNION w_ENUM w_SEQUENCE w_ALIAS w_VALUE)), .unset] [])) (fun t h => XS.icmpYes X2.here hx rfl (pc0 := 56) (pc' := 63) rfl (hb hby at_56) rfl (feq hc56_13).2 (by decide) (by decide) h) ?_
                refine own_by (f' := (mkF m 64 #[.val (.int p1), .val (.int p2), .val (.int p1), .val (.ref (own_f p1 w_EMPTY w_BOUNDED w_FIXED w_NAMED w_STRUCT w_UNION w_ENUM w_SEQUENCE w_ALIAS w_VALUE)), .unset] [(.int (0 : Int32))])) (fun t h => XS.iconst X2.here hx rfl (hb hby at_63) h) ?_
                refine own_by (f' := (mkF m 66 #[.val (.int p1), .val (.int p2), .val (.int p1), .val (.ref (own_f p1 w_EMPTY w_BOUNDED w_FIXED w_NAMED w_STRUCT w_UNION w_ENUM w_SEQUENCE w_ALIAS w_VALUE)), .val (.int (0 : Int32))] [])) (fun t h => XS.istore X2.here hx rfl (hb hby at_64) rfl (l' := #[.val (.int p1), .val (.int p2), .val (.int p1), .val (.ref (own_f p1 w_EMPTY w_BOUNDED w_FIXED w_NAMED w_STRUCT w_UNION w_ENUM w_SEQUENCE w_ALIAS w_VALUE)), .val (.int (0 : Int32))]) rfl h) ?_
                refine own_by (f' := (mkF m 67 #[.val (.int p1), .val (.int p2), .val (.int p1), .val (.ref (own_f p1 w_EMPTY w_BOUNDED w_FIXED w_NAMED w_STRUCT w_UNION w_ENUM w_SEQUENCE w_ALIAS w_VALUE)), .val (.int (0 : Int32))] [(.ref (own_f p1 w_EMPTY w_BOUNDED w_FIXED w_NAMED w_STRUCT w_UNION w_ENUM w_SEQUENCE w_ALIAS w_VALUE))])) (fun t h => XS.aloadN X2.here hx rfl (hb hby at_66) rfl rfl h) ?_
                obtain ⟨cq15, kq15, q15a, q15b, q15c⟩ := isOf hZ e2 (own_all (P := fun z => Exa Z h0 z "com/example/orbweave/orbweave/orb/TypeCodeShape") p1 E_EMPTY E_BOUNDED E_FIXED E_NAMED E_STRUCT E_UNION E_ENUM E_SEQUENCE E_ALIAS E_VALUE)
                obtain ⟨v15, _, ⟨T15, L15, k15, n15⟩, -, X15, ⟨Lc15, hQ15, l15, y15, z15⟩, st15⟩ := X2.virtualBack hx (y := (⟨"com/example/orbweave/orbweave/orb/TypeCodeShape", "hasMembers", "()Z"⟩ : MethodName)) (z := (⟨"com/example/orbweave/orbweave/orb/TypeCodeShape", "hasMembers", "()Z"⟩ : MethodName)) hown (mvT hZ (hw _ (List.mem_of_getElem? (i := 7) rfl))) (mvT hZ (hw _ (List.mem_of_getElem? (i := 8) rfl))) (notFace_of_selects (args := #[]) (mvT hZ (hw _ (List.mem_of_getElem? (i := 10) rfl)))) (mvT hZ (hw _ (List.mem_of_getElem? (i := 10) rfl))) (mvT hZ (hw _ (List.mem_of_getElem? (i := 9) rfl))) (by decide) (backOf (W := 0) (rm2 l Z a0 hw [] (own_f p1 w_EMPTY w_BOUNDED w_FIXED w_NAMED w_STRUCT w_UNION w_ENUM w_SEQUENCE w_ALIAS w_VALUE) w_STRUCT w_UNION w_ENUM w_VALUE h0 n0 Z0 S_STRUCT S_UNION S_ENUM S_VALUE) hZ (hw _ (List.mem_of_getElem? (i := 11) rfl)) (hw _ (List.mem_of_getElem? (i := 3) rfl)) (by decide) (by decide)) q15a q15c (g := (mkF m 67 #[.val (.int p1), .val (.int p2), .val (.int p1), .val (.ref (own_f p1 w_EMPTY w_BOUNDED w_FIXED w_NAMED w_STRUCT w_UNION w_ENUM w_SEQUENCE w_ALIAS w_VALUE)), .val (.int (0 : Int32))] [(.ref (own_f p1 w_EMPTY w_BOUNDED w_FIXED w_NAMED w_STRUCT w_UNION w_ENUM w_SEQUENCE w_ALIAS w_VALUE))])) rfl (by rw [hml]; rfl) (Steps.refl _) (argsL := []) (rest := []) (lenOf own_pd2 rfl) rfl (by show 2 * 0 + _ ≤ _; exact Nat.le_of_eq rfl) (hb hby at_67) (fun _ _ => ⟨rfl, e2, (by decide : 0 + 0 ≤ _), (by decide : 0 + 0 ≤ _)⟩)
                dsimp only [Pt.U, Pt.locs, Pt.cells, Pt.slots] at X15 l15 y15 z15 st15 hQ15
                subst l15 y15 z15
                obtain ⟨hv15, Nc15, e15⟩ := hQ15
                have N15 := Fr.app N2 Nc15
                obtain rfl : v15 = some (.int (0 : Int32)) := hv15.trans (congrArg (fun z => some (Value.int z)) (if_neg (own_no p1 w_EMPTY w_BOUNDED w_FIXED w_NAMED w_STRUCT w_UNION w_ENUM w_SEQUENCE w_ALIAS w_VALUE ne_EMPTY_STRUCT ne_EMPTY_UNION ne_EMPTY_ENUM ne_EMPTY_VALUE ne_BOUNDED_STRUCT ne_BOUNDED_UNION ne_BOUNDED_ENUM ne_BOUNDED_VALUE ne_FIXED_STRUCT ne_FIXED_UNION ne_FIXED_ENUM ne_FIXED_VALUE ne_NAMED_STRUCT ne_NAMED_UNION ne_NAMED_ENUM ne_NAMED_VALUE ne_SEQUENCE_STRUCT ne_SEQUENCE_UNION ne_SEQUENCE_ENUM ne_SEQUENCE_VALUE ne_ALIAS_STRUCT ne_ALIAS_UNION ne_ALIAS_ENUM ne_ALIAS_VALUE hc26_3 hc32_5 hc38_7 hc44_9 hc50_11 hc56_13)))
                refine own_by (f' := (mkF m 70 #[.val (.int p1), .val (.int p2), .val (.int p1), .val (.ref (own_f p1 w_EMPTY w_BOUNDED w_FIXED w_NAMED w_STRUCT w_UNION w_ENUM w_SEQUENCE w_ALIAS w_VALUE)), .val (.int (0 : Int32))] [(.int (0 : Int32))])) (fun t h => st15.trans h) ?_
                refine own_by (f' := (mkF m 72 #[.val (.int p1), .val (.int p2), .val (.int p1), .val (.ref (own_f p1 w_EMPTY w_BOUNDED w_FIXED w_NAMED w_STRUCT w_UNION w_ENUM w_SEQUENCE w_ALIAS w_VALUE)), .val (.int (0 : Int32))] [(.int (0 : Int32)), (.int (0 : Int32))])) (fun t h => XS.iload X15.here hx rfl (hb hby at_70) rfl h) ?_
                refine own_by (f' := (mkF m 75 #[.val (.int p1), .val (.int p2), .val (.int p1), .val (.ref (own_f p1 w_EMPTY w_BOUNDED w_FIXED w_NAMED w_STRUCT w_UNION w_ENUM w_SEQUENCE w_ALIAS w_VALUE)), .val (.int (0 : Int32))] [])) (fun t h => XS.icmpNo X15.here hx rfl (hb hby at_72) rfl (by decide) h) ?_
                refine own_by (f' := (mkF m 76 #[.val (.int p1), .val (.int p2), .val (.int p1), .val (.ref (own_f p1 w_EMPTY w_BOUNDED w_FIXED w_NAMED w_STRUCT w_UNION w_ENUM w_SEQUENCE w_ALIAS w_VALUE)), .val (.int (0 : Int32))] [(.int (1 : Int32))])) (fun t h => XS.iconst X15.here hx rfl (hb hby at_75) h) ?_
                refine own_by (f' := (mkF m 80 #[.val (.int p1), .val (.int p2), .val (.int p1), .val (.ref (own_f p1 w_EMPTY w_BOUNDED w_FIXED w_NAMED w_STRUCT w_UNION w_ENUM w_SEQUENCE w_ALIAS w_VALUE)), .val (.int (0 : Int32))] [(.int (1 : Int32))])) (fun t h => XS.goto X15.here hx rfl (pc0 := 76) (pc' := 80) rfl (hb hby at_76) (by decide) (by decide) h) ?_
                obtain ⟨fs, hr, hrun, hended, hW, hsame⟩ := X15.leave (v := some (.int (1 : Int32))) (fun h => by rw [Bd.returns] at h; cases h)
                refine own_mk ⟨_, _, retN X15 hx (t := .boolean) Bd.returns (by simp) (hb hby at_80) hr, hrun, hended, _, _, rfl, ?_, ⟨_, rfl⟩, hW, hsame.mono (by decide) (by decide)⟩
                show Q0 n0 _ T15.heap _
                rw [e15]
                exact ⟨rfl, N15⟩
  · refine own_by (f' := (mkF m 6 #[.val (.int p1), .val (.int p2), .unset, .unset, .unset] [])) (fun t h => XS.ifNo X0.here hx rfl (hb hby at_3) rfl ((if0 _ _).trans (feq hc3_1).1) h) ?_
    refine own_by (f' := (mkF m 7 #[.val (.int p1), .val (.int p2), .unset, .unset, .unset] [(.int p1)])) (fun t h => XS.iloadN X0.here hx rfl (hb hby at_6) rfl h) ?_
    refine own_by (f' := (mkF m 9 #[.val (.int p1), .val (.int p2), .unset, .unset, .unset] [(.int (2147483647 : Int32)), (.int p1)])) (fun t h => X0.ldcI hx hown (mvT hZ (hw _ (List.mem_of_getElem? (i := 0) rfl))) rfl (hb hby at_7) h) ?_
    refine own_by (f' := (mkF m 10 #[.val (.int p1), .val (.int p2), .unset, .unset, .unset] [(.int (p1 &&& (2147483647 : Int32)))])) (fun t h => XS.iand X0.here hx rfl (hb hby at_9) rfl h) ?_
    refine own_by (f' := (mkF m 12 #[.val (.int p1), .val (.int p2), .unset, .unset, .unset] [(.int (40 : Int32)), (.int (p1 &&& (2147483647 : Int32)))])) (fun t h => XT.bipushV X0.here hx rfl (40 : Int32) (hb hby at_10) rfl h) ?_
    refine own_by (f' := (mkF m 13 #[.val (.int p1), .val (.int p2), .unset, .unset, .unset] [(.int ((p1 &&& (2147483647 : Int32)) % (40 : Int32)))])) (fun t h => iremM X0 hx rfl (hb hby at_12) rfl (by decide) h) ?_
    refine own_by (f' := (mkF m 17 #[.val (.int p1), .val (.int p2), .unset, .unset, .unset] [(.int ((p1 &&& (2147483647 : Int32)) % (40 : Int32)))])) (fun t h => XS.goto X0.here hx rfl (pc0 := 13) (pc' := 17) rfl (hb hby at_13) (by decide) (by decide) h) ?_
    refine own_by (f' := (mkF m 18 #[.val (.int p1), .val (.int p2), .val (.int ((p1 &&& (2147483647 : Int32)) % (40 : Int32))), .unset, .unset] [])) (fun t h => XS.istoreN X0.here hx rfl (hb hby at_17) rfl (l' := #[.val (.int p1), .val (.int p2), .val (.int ((p1 &&& (2147483647 : Int32)) % (40 : Int32))), .unset, .unset]) rfl h) ?_
    generalize ((p1 &&& (2147483647 : Int32)) % (40 : Int32)) = k
    refine own_by (f' := (mkF m 19 #[.val (.int p1), .val (.int p2), .val (.int k), .unset, .unset] [(.int k)])) (fun t h => XS.iloadN X0.here hx rfl (hb hby at_18) rfl h) ?_
    obtain ⟨v16, _, ⟨T16, L16, k16, n16⟩, -, X16, ⟨Lc16, hQ16, l16, y16, z16⟩, st16⟩ := Jvm.LawKit.callS X0 hx (y := (⟨"com/example/orbweave/orbweave/orb/TypeCodeShape", "of", "(I)Lcom/example/orbweave/orbweave/orb/TypeCodeShape;"⟩ : MethodName)) hown (mvT hZ (hw _ (List.mem_of_getElem? (i := 1) rfl))) (mvT hZ (hw _ (List.mem_of_getElem? (i := 2) rfl))) (mvT hZ (hw _ (List.mem_of_getElem? (i := 3) rfl))) (mvT hZ (hw _ (List.mem_of_getElem? (i := 4) rfl))) (by decide) (backOf (W := 0) (rm1 l Z a0 hw [] k w_EMPTY w_BOUNDED w_FIXED w_NAMED w_STRUCT w_UNION w_ENUM w_SEQUENCE w_ALIAS w_VALUE h0 n0 Z0 S_EMPTY S_BOUNDED S_FIXED S_NAMED S_STRUCT S_UNION S_ENUM S_SEQUENCE S_ALIAS S_VALUE) hZ (hw _ (List.mem_of_getElem? (i := 4) rfl)) (hw _ (List.mem_of_getElem? (i := 3) rfl)) (by decide) (by decide)) (g := (mkF m 19 #[.val (.int p1), .val (.int p2), .val (.int k), .unset, .unset] [(.int k)])) rfl (by rw [hml]; rfl) (argsL := [(.int k)]) (rest := []) (lenOf own_pd1 rfl) rfl (by show 2 * 0 + _ ≤ _; exact Nat.le_of_eq rfl) (hb hby at_19) (fun _ _ => ⟨rfl, e0, (by decide : 0 + 0 ≤ _), (by decide : 0 + 0 ≤ _)⟩)
    dsimp only [Pt.U, Pt.locs, Pt.cells, Pt.slots] at X16 l16 y16 z16 st16 hQ16
    subst l16 y16 z16
    obtain ⟨hv16, Nc16, e16⟩ := hQ16
    have N16 := Fr.app N0 Nc16
    obtain rfl : v16 = some (.ref (own_f k w_EMPTY w_BOUNDED w_FIXED w_NAMED w_STRUCT w_UNION w_ENUM w_SEQUENCE w_ALIAS w_VALUE)) := hv16
    refine own_by (f' := (mkF m 22 #[.val (.int p1), .val (.int p2), .val (.int k), .unset, .unset] [(.ref (own_f k w_EMPTY w_BOUNDED w_FIXED w_NAMED w_STRUCT w_UNION w_ENUM w_SEQUENCE w_ALIAS w_VALUE))])) st16 ?_
    refine own_by (f' := (mkF m 23 #[.val (.int p1), .val (.int p2), .val (.int k), .val (.ref (own_f k w_EMPTY w_BOUNDED w_FIXED w_NAMED w_STRUCT w_UNION w_ENUM w_SEQUENCE w_ALIAS w_VALUE)), .unset] [])) (fun t h => XS.astoreN X16.here hx rfl (hb hby at_22) rfl rfl (l' := #[.val (.int p1), .val (.int p2), .val (.int k), .val (.ref (own_f k w_EMPTY w_BOUNDED w_FIXED w_NAMED w_STRUCT w_UNION w_ENUM w_SEQUENCE w_ALIAS w_VALUE)), .unset]) rfl h) ?_
    refine own_by (f' := (mkF m 24 #[.val (.int p1), .val (.int p2), .val (.int k), .val (.ref (own_f k w_EMPTY w_BOUNDED w_FIXED w_NAMED w_STRUCT w_UNION w_ENUM w_SEQUENCE w_ALIAS w_VALUE)), .unset] [(.int k)])) (fun t h => XS.iloadN X16.here hx rfl (hb hby at_23) rfl h) ?_
    refine own_by (f' := (mkF m 26 #[.val (.int p1), .val (.int p2), .val (.int k), .val (.ref (own_f k w_EMPTY w_BOUNDED w_FIXED w_NAMED w_STRUCT w_UNION w_ENUM w_SEQUENCE w_ALIAS w_VALUE)), .unset] [(.int (15 : Int32)), (.int k)])) (fun t h => XT.bipushV X16.here hx rfl (15 : Int32) (hb hby at_24) rfl h) ?_
    by_cases hc26_17 : k = (15 : Int32)
    · refine own_by (f' := (mkF m 59 #[.val (.int p1), .val (.int p2), .val (.int k), .val (.ref (own_f k w_EMPTY w_BOUNDED w_FIXED w_NAMED w_STRUCT w_UNION w_ENUM w_SEQUENCE w_ALIAS w_VALUE)), .unset] [])) (fun t h => XS.icmpYes X16.here hx rfl (pc0 := 26) (pc' := 59) rfl (hb hby at_26) rfl (teq hc26_17).1 (by decide) (by decide) h) ?_
      refine own_by (f' := (mkF m 60 #[.val (.int p1), .val (.int p2), .val (.int k), .val (.ref (own_f k w_EMPTY w_BOUNDED w_FIXED w_NAMED w_STRUCT w_UNION w_ENUM w_SEQUENCE w_ALIAS w_VALUE)), .unset] [(.int (1 : Int32))])) (fun t h => XS.iconst X16.here hx rfl (hb hby at_59) h) ?_
      refine own_by (f' := (mkF m 64 #[.val (.int p1), .val (.int p2), .val (.int k), .val (.ref (own_f k w_EMPTY w_BOUNDED w_FIXED w_NAMED w_STRUCT w_UNION w_ENUM w_SEQUENCE w_ALIAS w_VALUE)), .unset] [(.int (1 : Int32))])) (fun t h => XS.goto X16.here hx rfl (pc0 := 60) (pc' := 64) rfl (hb hby at_60) (by decide) (by decide) h) ?_
      refine own_by (f' := (mkF m 66 #[.val (.int p1), .val (.int p2), .val (.int k), .val (.ref (own_f k w_EMPTY w_BOUNDED w_FIXED w_NAMED w_STRUCT w_UNION w_ENUM w_SEQUENCE w_ALIAS w_VALUE)), .val (.int (1 : Int32))] [])) (fun t h => XS.istore X16.here hx rfl (hb hby at_64) rfl (l' := #[.val (.int p1), .val (.int p2), .val (.int k), .val (.ref (own_f k w_EMPTY w_BOUNDED w_FIXED w_NAMED w_STRUCT w_UNION w_ENUM w_SEQUENCE w_ALIAS w_VALUE)), .val (.int (1 : Int32))]) rfl h) ?_
      refine own_by (f' := (mkF m 67 #[.val (.int p1), .val (.int p2), .val (.int k), .val (.ref (own_f k w_EMPTY w_BOUNDED w_FIXED w_NAMED w_STRUCT w_UNION w_ENUM w_SEQUENCE w_ALIAS w_VALUE)), .val (.int (1 : Int32))] [(.ref (own_f k w_EMPTY w_BOUNDED w_FIXED w_NAMED w_STRUCT w_UNION w_ENUM w_SEQUENCE w_ALIAS w_VALUE))])) (fun t h => XS.aloadN X16.here hx rfl (hb hby at_66) rfl rfl h) ?_
      obtain ⟨cq18, kq18, q18a, q18b, q18c⟩ := isOf hZ e16 (own_all (P := fun z => Exa Z h0 z "com/example/orbweave/orbweave/orb/TypeCodeShape") k E_EMPTY E_BOUNDED E_FIXED E_NAMED E_STRUCT E_UNION E_ENUM E_SEQUENCE E_ALIAS E_VALUE)
      obtain ⟨v18, _, ⟨T18, L18, k18, n18⟩, -, X18, ⟨Lc18, hQ18, l18, y18, z18⟩, st18⟩ := X16.virtualBack hx (y := (⟨"com/example/orbweave/orbweave/orb/TypeCodeShape", "hasMembers", "()Z"⟩ : MethodName)) (z := (⟨"com/example/orbweave/orbweave/orb/TypeCodeShape", "hasMembers", "()Z"⟩ : MethodName)) hown (mvT hZ (hw _ (List.mem_of_getElem? (i := 7) rfl))) (mvT hZ (hw _ (List.mem_of_getElem? (i := 8) rfl))) (notFace_of_selects (args := #[]) (mvT hZ (hw _ (List.mem_of_getElem? (i := 10) rfl)))) (mvT hZ (hw _ (List.mem_of_getElem? (i := 10) rfl))) (mvT hZ (hw _ (List.mem_of_getElem? (i := 9) rfl))) (by decide) (backOf (W := 0) (rm2 l Z a0 hw [] (own_f k w_EMPTY w_BOUNDED w_FIXED w_NAMED w_STRUCT w_UNION w_ENUM w_SEQUENCE w_ALIAS w_VALUE) w_STRUCT w_UNION w_ENUM w_VALUE h0 n0 Z0 S_STRUCT S_UNION S_ENUM S_VALUE) hZ (hw _ (List.mem_of_getElem? (i := 11) rfl)) (hw _ (List.mem_of_getElem? (i := 3) rfl)) (by decide) (by decide)) q18a q18c (g := (mkF m 67 #[.val (.int p1), .val (.int p2), .val (.int k), .val (.ref (own_f k w_EMPTY w_BOUNDED w_FIXED w_NAMED w_STRUCT w_UNION w_ENUM w_SEQUENCE w_ALIAS w_VALUE)), .val (.int (1 : Int32))] [(.ref (own_f k w_EMPTY w_BOUNDED w_FIXED w_NAMED w_STRUCT w_UNION w_ENUM w_SEQUENCE w_ALIAS w_VALUE))])) rfl (by rw [hml]; rfl) (Steps.refl _) (argsL := []) (rest := []) (lenOf own_pd2 rfl) rfl (by show 2 * 0 + _ ≤ _; exact Nat.le_of_eq rfl) (hb hby at_67) (fun _ _ => ⟨rfl, e16, (by decide : 0 + 0 ≤ _), (by decide : 0 + 0 ≤ _)⟩)
      dsimp only [Pt.U, Pt.locs, Pt.cells, Pt.slots] at X18 l18 y18 z18 st18 hQ18
      subst l18 y18 z18
      obtain ⟨hv18, Nc18, e18⟩ := hQ18
      have N18 := Fr.app N16 Nc18
      obtain rfl : v18 = some (.int (1 : Int32)) := hv18.trans (by rw [hc26_17]; exact congrArg (fun z => some (Value.int z)) (if_pos (by simp [own_f])))
      refine own_by (f' := (mkF m 70 #[.val (.int p1), .val (.int p2), .val (.int k), .val (.ref (own_f k w_EMPTY w_BOUNDED w_FIXED w_NAMED w_STRUCT w_UNION w_ENUM w_SEQUENCE w_ALIAS w_VALUE)), .val (.int (1 : Int32))] [(.int (1 : Int32))])) (fun t h => st18.trans h) ?_
      refine own_by (f' := (mkF m 72 #[.val (.int p1), .val (.int p2), .val (.int k), .val (.ref (own_f k w_EMPTY w_BOUNDED w_FIXED w_NAMED w_STRUCT w_UNION w_ENUM w_SEQUENCE w_ALIAS w_VALUE)), .val (.int (1 : Int32))] [(.int (1 : Int32)), (.int (1 : Int32))])) (fun t h => XS.iload X18.here hx rfl (hb hby at_70) rfl h) ?_
      refine own_by (f' := (mkF m 75 #[.val (.int p1), .val (.int p2), .val (.int k), .val (.ref (own_f k w_EMPTY w_BOUNDED w_FIXED w_NAMED w_STRUCT w_UNION w_ENUM w_SEQUENCE w_ALIAS w_VALUE)), .val (.int (1 : Int32))] [])) (fun t h => XS.icmpNo X18.here hx rfl (hb hby at_72) rfl (by decide) h) ?_
      refine own_by (f' := (mkF m 76 #[.val (.int p1), .val (.int p2), .val (.int k), .val (.ref (own_f k w_EMPTY w_BOUNDED w_FIXED w_NAMED w_STRUCT w_UNION w_ENUM w_SEQUENCE w_ALIAS w_VALUE)), .val (.int (1 : Int32))] [(.int (1 : Int32))])) (fun t h => XS.iconst X18.here hx rfl (hb hby at_75) h) ?_
      refine own_by (f' := (mkF m 80 #[.val (.int p1), .val (.int p2), .val (.int k), .val (.ref (own_f k w_EMPTY w_BOUNDED w_FIXED w_NAMED w_STRUCT w_UNION w_ENUM w_SEQUENCE w_ALIAS w_VALUE)), .val (.int (1 : Int32))] [(.int (1 : Int32))])) (fun t h => XS.goto X18.here hx rfl (pc0 := 76) (pc' := 80) rfl (hb hby at_76) (by decide) (by decide) h) ?_
      obtain ⟨fs, hr, hrun, hended, hW, hsame⟩ := X18.leave (v := some (.int (1 : Int32))) (fun h => by rw [Bd.returns] at h; cases h)
      refine own_mk ⟨_, _, retN X18 hx (t := .boolean) Bd.returns (by simp) (hb hby at_80) hr, hrun, hended, _, _, rfl, ?_, ⟨_, rfl⟩, hW, hsame.mono (by decide) (by decide)⟩
      show Q0 n0 _ T18.heap _
      rw [e18]
      exact ⟨rfl, N18⟩
    · refine own_by (f' := (mkF m 29 #[.val (.int p1), .val (.int p2), .val (.int k), .val (.ref (own_f k w_EMPTY w_BOUNDED w_FIXED w_NAMED w_STRUCT w_UNION w_ENUM w_SEQUENCE w_ALIAS w_VALUE)), .unset] [])) (fun t h => XS.icmpNo X16.here hx rfl (hb hby at_26) rfl (feq hc26_17).1 h) ?_
      refine own_by (f' := (mkF m 30 #[.val (.int p1), .val (.int p2), .val (.int k), .val (.ref (own_f k w_EMPTY w_BOUNDED w_FIXED w_NAMED w_STRUCT w_UNION w_ENUM w_SEQUENCE w_ALIAS w_VALUE)), .unset] [(.int k)])) (fun t h => XS.iloadN X16.here hx rfl (hb hby at_29) rfl h) ?_
      refine own_by (f' := (mkF m 32 #[.val (.int p1), .val (.int p2), .val (.int k), .val (.ref (own_f k w_EMPTY w_BOUNDED w_FIXED w_NAMED w_STRUCT w_UNION w_ENUM w_SEQUENCE w_ALIAS w_VALUE)), .unset] [(.int (22 : Int32)), (.int k)])) (fun t h => XT.bipushV X16.here hx rfl (22 : Int32) (hb hby at_30) rfl h) ?_
      by_cases hc32_19 : k = (22 : Int32)
      · refine own_by (f' := (mkF m 59 #[.val (.int p1), .val (.int p2), .val (.int k), .val (.ref (own_f k w_EMPTY w_BOUNDED w_FIXED w_NAMED w_STRUCT w_UNION w_ENUM w_SEQUENCE w_ALIAS w_VALUE)), .unset] [])) (fun t h => XS.icmpYes X16.here hx rfl (pc0 := 32) (pc' := 59) rfl (hb hby at_32) rfl (teq hc32_19).1 (by decide) (by decide) h) ?_
        refine own_by (f' := (mkF m 60 #[.val (.int p1), .val (.int p2), .val (.int k), .val (.ref (own_f k w_EMPTY w_BOUNDED w_FIXED w_NAMED w_STRUCT w_UNION w_ENUM w_SEQUENCE w_ALIAS w_VALUE)), .unset] [(.int (1 : Int32))])) (fun t h => XS.iconst X16.here hx rfl (hb hby at_59) h) ?_
        refine own_by (f' := (mkF m 64 #[.val (.int p1), .val (.int p2), .val (.int k), .val (.ref (own_f k w_EMPTY w_BOUNDED w_FIXED w_NAMED w_STRUCT w_UNION w_ENUM w_SEQUENCE w_ALIAS w_VALUE)), .unset] [(.int (1 : Int32))])) (fun t h => XS.goto X16.here hx rfl (pc0 := 60) (pc' := 64) rfl (hb hby at_60) (by decide) (by decide) h) ?_
        refine own_by (f' := (mkF m 66 #[.val (.int p1), .val (.int p2), .val (.int k), .val (.ref (own_f k w_EMPTY w_BOUNDED w_FIXED w_NAMED w_STRUCT w_UNION w_ENUM w_SEQUENCE w_ALIAS w_VALUE)), .val (.int (1 : Int32))] [])) (fun t h => XS.istore X16.here hx rfl (hb hby at_64) rfl (l' := #[.val (.int p1), .val (.int p2), .val (.int k), .val (.ref (own_f k w_EMPTY w_BOUNDED w_FIXED w_NAMED w_STRUCT w_UNION w_ENUM w_SEQUENCE w_ALIAS w_VALUE)), .val (.int (1 : Int32))]) rfl h) ?_
        refine own_by (f' := (mkF m 67 #[.val (.int p1), .val (.int p2), .val (.int k), .val (.ref (own_f k w_EMPTY w_BOUNDED w_FIXED w_NAMED w_STRUCT w_UNION w_ENUM w_SEQUENCE w_ALIAS w_VALUE)), .val (.int (1 : Int32))] [(.ref (own_f k w_EMPTY w_BOUNDED w_FIXED w_NAMED w_STRUCT w_UNION w_ENUM w_SEQUENCE w_ALIAS w_VALUE))])) (fun t h => XS.aloadN X16.here hx rfl (hb hby at_66) rfl rfl h) ?_
        obtain ⟨cq20, kq20, q20a, q20b, q20c⟩ := isOf hZ e16 (own_all (P := fun z => Exa Z h0 z "com/example/orbweave/orbweave/orb/TypeCodeShape") k E_EMPTY E_BOUNDED E_FIXED E_NAMED E_STRUCT E_UNION E_ENUM E_SEQUENCE E_ALIAS E_VALUE)
        obtain ⟨v20, _, ⟨T20, L20, k20, n20⟩, -, X20, ⟨Lc20, hQ20, l20, y20, z20⟩, st20⟩ := X16.virtualBack hx (y := (⟨"com/example/orbweave/orbweave/orb/TypeCodeShape", "hasMembers", "()Z"⟩ : MethodName)) (z := (⟨"com/example/orbweave/orbweave/orb/TypeCodeShape", "hasMembers", "()Z"⟩ : MethodName)) hown (mvT hZ (hw _ (List.mem_of_getElem? (i := 7) rfl))) (mvT hZ (hw _ (List.mem_of_getElem? (i := 8) rfl))) (notFace_of_selects (args := #[]) (mvT hZ (hw _ (List.mem_of_getElem? (i := 10) rfl)))) (mvT hZ (hw _ (List.mem_of_getElem? (i := 10) rfl))) (mvT hZ (hw _ (List.mem_of_getElem? (i := 9) rfl))) (by decide) (backOf (W := 0) (rm2 l Z a0 hw [] (own_f k w_EMPTY w_BOUNDED w_FIXED w_NAMED w_STRUCT w_UNION w_ENUM w_SEQUENCE w_ALIAS w_VALUE) w_STRUCT w_UNION w_ENUM w_VALUE h0 n0 Z0 S_STRUCT S_UNION S_ENUM S_VALUE) hZ (hw _ (List.mem_of_getElem? (i := 11) rfl)) (hw _ (List.mem_of_getElem? (i := 3) rfl)) (by decide) (by decide)) q20a q20c (g := (mkF m 67 #[.val (.int p1), .val (.int p2), .val (.int k), .val (.ref (own_f k w_EMPTY w_BOUNDED w_FIXED w_NAMED w_STRUCT w_UNION w_ENUM w_SEQUENCE w_ALIAS w_VALUE)), .val (.int (1 : Int32))] [(.ref (own_f k w_EMPTY w_BOUNDED w_FIXED w_NAMED w_STRUCT w_UNION w_ENUM w_SEQUENCE w_ALIAS w_VALUE))])) rfl (by rw [hml]; rfl) (Steps.refl _) (argsL := []) (rest := []) (lenOf own_pd2 rfl) rfl (by show 2 * 0 + _ ≤ _; exact Nat.le_of_eq rfl) (hb hby at_67) (fun _ _ => ⟨rfl, e16, (by decide : 0 + 0 ≤ _), (by decide : 0 + 0 ≤ _)⟩)
        dsimp only [Pt.U, Pt.locs, Pt.cells, Pt.slots] at X20 l20 y20 z20 st20 hQ20
        subst l20 y20 z20
        obtain ⟨hv20, Nc20, e20⟩ := hQ20
        have N20 := Fr.app N16 Nc20
        obtain rfl : v20 = some (.int (1 : Int32)) := hv20.trans (by rw [hc32_19]; exact congrArg (fun z => some (Value.int z)) (if_pos (by simp [own_f])))
        refine own_by (f' := (mkF m 70 #[.val (.int p1), .val (.int p2), .val (.int k), .val (.ref (own_f k w_EMPTY w_BOUNDED w_FIXED w_NAMED w_STRUCT w_UNION w_ENUM w_SEQUENCE w_ALIAS w_VALUE)), .val (.int (1 : Int32))] [(.int (1 : Int32))])) (fun t h => st20.trans h) ?_
        refine own_by (f' := (mkF m 72 #[.val (.int p1), .val (.int p2), .val (.int k), .val (.ref (own_f k w_EMPTY w_BOUNDED w_FIXED w_NAMED w_STRUCT w_UNION w_ENUM w_SEQUENCE w_ALIAS w_VALUE)), .val (.int (1 : Int32))] [(.int (1 : Int32)), (.int (1 : Int32))])) (fun t h => XS.iload X20.here hx rfl (hb hby at_70) rfl h) ?_
        refine own_by (f' := (mkF m 75 #[.val (.int p1), .val (.int p2), .val (.int k), .val (.ref (own_f k w_EMPTY w_BOUNDED w_FIXED w_NAMED w_STRUCT w_UNION w_ENUM w_SEQUENCE w_ALIAS w_VALUE)), .val (.int (1 : Int32))] [])) (fun t h => XS.icmpNo X20.here hx rfl (hb hby at_72) rfl (by decide) h) ?_
        refine own_by (f' := (mkF m 76 #[.val (.int p1), .val (.int p2), .val (.int k), .val (.ref (own_f k w_EMPTY w_BOUNDED w_FIXED w_NAMED w_STRUCT w_UNION w_ENUM w_SEQUENCE w_ALIAS w_VALUE)), .val (.int (1 : Int32))] [(.int (1 : Int32))])) (fun t h => XS.iconst X20.here hx rfl (hb hby at_75) h) ?_
        refine own_by (f' := (mkF m 80 #[.val (.int p1), .val (.int p2), .val (.int k), .val (.ref (own_f k w_EMPTY w_BOUNDED w_FIXED w_NAMED w_STRUCT w_UNION w_ENUM w_SEQUENCE w_ALIAS w_VALUE)), .val (.int (1 : Int32))] [(.int (1 : Int32))])) (fun t h => XS.goto X20.here hx rfl (pc0 := 76) (pc' := 80) rfl (hb hby at_76) (by decide) (by decide) h) ?_
        obtain ⟨fs, hr, hrun, hended, hW, hsame⟩ := X20.leave (v := some (.int (1 : Int32))) (fun h => by rw [Bd.returns] at h; cases h)
        refine own_mk ⟨_, _, retN X20 hx (t := .boolean) Bd.returns (by simp) (hb hby at_80) hr, hrun, hended, _, _, rfl, ?_, ⟨_, rfl⟩, hW, hsame.mono (by decide) (by decide)⟩
        show Q0 n0 _ T20.heap _
        rw [e20]
        exact ⟨rfl, N20⟩
      · refine own_by (f' := (mkF m 35 #[.val (.int p1), .val (.int p2), .val (.int k), .val (.ref (own_f k w_EMPTY w_BOUNDED w_FIXED w_NAMED w_STRUCT w_UNION w_ENUM w_SEQUENCE w_ALIAS w_VALUE)), .unset] [])) (fun t h => XS.icmpNo X16.here hx rfl (hb hby at_32) rfl (feq hc32_19).1 h) ?_
        refine own_by (f' := (mkF m 36 #[.val (.int p1), .val (.int p2), .val (.int k), .val (.ref (own_f k w_EMPTY w_BOUNDED w_FIXED w_NAMED w_STRUCT w_UNION w_ENUM w_SEQUENCE w_ALIAS w_VALUE)), .unset] [(.int k)])) (fun t h => XS.iloadN X16.here hx rfl (hb hby at_35) rfl h) ?_
        refine own_by (f' := (mkF m 38 #[.val (.int p1), .val (.int p2), .val (.int k), .val (.ref (own_f k w_EMPTY w_BOUNDED w_FIXED w_NAMED w_STRUCT w_UNION w_ENUM w_SEQUENCE w_ALIAS w_VALUE)), .unset] [(.int (16 : Int32)), (.int k)])) (fun t h => XT.bipushV X16.here hx rfl (16 : Int32) (hb hby at_36) rfl h) ?_
        by_cases hc38_21 : k = (16 : Int32)
        · refine own_by (f' := (mkF m 59 #[.val (.int p1), .val (.int p2), .val (.int k), .val (.ref (own_f k w_EMPTY w_BOUNDED w_FIXED w_NAMED w_STRUCT w_UNION w_ENUM w_SEQUENCE w_ALIAS w_VALUE)), .unset] [])) (fun t h => XS.icmpYes X16.here hx rfl (pc0 := 38) (pc' := 59) rfl (hb hby at_38) rfl (teq hc38_21).1 (by decide) (by decide) h) ?_
          refine own_by (f' := (mkF m 60 #[.val (.int p1), .val (.int p2), .val (.int k), .val (.ref (own_f k w_EMPTY w_BOUNDED w_FIXED w_NAMED w_STRUCT w_UNION w_ENUM w_SEQUENCE w_ALIAS w_VALUE)), .unset] [(.int (1 : Int32))])) (fun t h => XS.iconst X16.here hx rfl (hb hby at_59) h) ?_
          refine own_by (f' := (mkF m 64 #[.val (.int p1), .val (.int p2), .val (.int k), .val (.ref (own_f k w_EMPTY w_BOUNDED w_FIXED w_NAMED w_STRUCT w_UNION w_ENUM w_SEQUENCE w_ALIAS w_VALUE)), .unset] [(.int (1 : Int32))])) (fun t h => XS.goto X16.here hx rfl (pc0 := 60) (pc' := 64) rfl (hb hby at_60) (by decide) (by decide) h) ?_
          refine own_by (f' := (mkF m 66 #[.val (.int p1), .val (.int p2), .val (.int k), .val (.ref (own_f k w_EMPTY w_BOUNDED w_FIXED w_NAMED w_STRUCT w_UNION w_ENUM w_SEQUENCE w_ALIAS w_VALUE)), .val (.int (1 : Int32))] [])) (fun t h => XS.istore X16.here hx rfl (hb hby at_64) rfl (l' := #[.val (.int p1), .val (.int p2), .val (.int k), .val (.ref (own_f k w_EMPTY w_BOUNDED w_FIXED w_NAMED w_STRUCT w_UNION w_ENUM w_SEQUENCE w_ALIAS w_VALUE)), .val (.int (1 : Int32))]) rfl h) ?_
          refine own_by (f' := (mkF m 67 #[.val (.int p1), .val (.int p2), .val (.int k), .val (.ref (own_f k w_EMPTY w_BOUNDED w_FIXED w_NAMED w_STRUCT w_UNION w_ENUM w_SEQUENCE w_ALIAS w_VALUE)), .val (.int (1 : Int32))] [(.ref (own_f k w_EMPTY w_BOUNDED w_FIXED w_NAMED w_STRUCT w_UNION w_ENUM w_SEQUENCE w_ALIAS w_VALUE))])) (fun t h => XS.aloadN X16.here hx rfl (hb hby at_66) rfl rfl h) ?_
          obtain ⟨cq22, kq22, q22a, q22b, q22c⟩ := isOf hZ e16 (own_all (P := fun z => Exa Z h0 z "com/example/orbweave/orbweave/orb/TypeCodeShape") k E_EMPTY E_BOUNDED E_FIXED E_NAMED E_STRUCT E_UNION E_ENUM E_SEQUENCE E_ALIAS E_VALUE)
          obtain ⟨v22, _, ⟨T22, L22, k22, n22⟩, -, X22, ⟨Lc22, hQ22, l22, y22, z22⟩, st22⟩ := X16.virtualBack hx (y := (⟨"com/example/orbweave/orbweave/orb/TypeCodeShape", "hasMembers", "()Z"⟩ : MethodName)) (z := (⟨"com/example/orbweave/orbweave/orb/TypeCodeShape", "hasMembers", "()Z"⟩ : MethodName)) hown (mvT hZ (hw _ (List.mem_of_getElem? (i := 7) rfl))) (mvT hZ (hw _ (List.mem_of_getElem? (i := 8) rfl))) (notFace_of_selects (args := #[]) (mvT hZ (hw _ (List.mem_of_getElem? (i := 10) rfl)))) (mvT hZ (hw _ (List.mem_of_getElem? (i := 10) rfl))) (mvT hZ (hw _ (List.mem_of_getElem? (i := 9) rfl))) (by decide) (backOf (W := 0) (rm2 l Z a0 hw [] (own_f k w_EMPTY w_BOUNDED w_FIXED w_NAMED w_STRUCT w_UNION w_ENUM w_SEQUENCE w_ALIAS w_VALUE) w_STRUCT w_UNION w_ENUM w_VALUE h0 n0 Z0 S_STRUCT S_UNION S_ENUM S_VALUE) hZ (hw _ (List.mem_of_getElem? (i := 11) rfl)) (hw _ (List.mem_of_getElem? (i := 3) rfl)) (by decide) (by decide)) q22a q22c (g := (mkF m 67 #[.val (.int p1), .val (.int p2), .val (.int k), .val (.ref (own_f k w_EMPTY w_BOUNDED w_FIXED w_NAMED w_STRUCT w_UNION w_ENUM w_SEQUENCE w_ALIAS w_VALUE)), .val (.int (1 : Int32))] [(.ref (own_f k w_EMPTY w_BOUNDED w_FIXED w_NAMED w_STRUCT w_UNION w_ENUM w_SEQUENCE w_ALIAS w_VALUE))])) rfl (by rw [hml]; rfl) (Steps.refl _) (argsL := []) (rest := []) (lenOf own_pd2 rfl) rfl (by show 2 * 0 + _ ≤ _; exact Nat.le_of_eq rfl) (hb hby at_67) (fun _ _ => ⟨rfl, e16, (by decide : 0 + 0 ≤ _), (by decide : 0 + 0 ≤ _)⟩)
          dsimp only [Pt.U, Pt.locs, Pt.cells, Pt.slots] at X22 l22 y22 z22 st22 hQ22
          subst l22 y22 z22
          obtain ⟨hv22, Nc22, e22⟩ := hQ22
          have N22 := Fr.app N16 Nc22
          obtain rfl : v22 = some (.int (1 : Int32)) := hv22.trans (by rw [hc38_21]; exact congrArg (fun z => some (Value.int z)) (if_pos (by simp [own_f])))
          refine own_by (f' := (mkF m 70 #[.val (.int p1), .val (.int p2), .val (.int k), .val (.ref (own_f k w_EMPTY w_BOUNDED w_FIXED w_NAMED w_STRUCT w_UNION w_ENUM w_SEQUENCE w_ALIAS w_VALUE)), .val (.int (1 : Int32))] [(.int (1 : Int32))])) (fun t h => st22.trans h) ?_
          refine own_by (f' := (mkF m 72 #[.val (.int p1), .val (.int p2), .val (.int k), .val (.ref (own_f k w_EMPTY w_BOUNDED w_FIXED w_NAMED w_STRUCT w_UNION w_ENUM w_SEQUENCE w_ALIAS w_VALUE)), .val (.int (1 : Int32))] [(.int (1 : Int32)), (.int (1 : Int32))])) (fun t h => XS.iload X22.here hx rfl (hb hby at_70) rfl h) ?_
          refine own_by (f' := (mkF m 75 #[.val (.int p1), .val (.int p2), .val (.int k), .val (.ref (own_f k w_EMPTY w_BOUNDED w_FIXED w_NAMED w_STRUCT w_UNION w_ENUM w_SEQUENCE w_ALIAS w_VALUE)), .val (.int (1 : Int32))] [])) (fun t h => XS.icmpNo X22.here hx rfl (hb hby at_72) rfl (by decide) h) ?_
          refine own_by (f' := (mkF m 76 #[.val (.int p1), .val (.int p2), .val (.int k), .val (.ref (own_f k w_EMPTY w_BOUNDED w_FIXED w_NAMED w_STRUCT w_UNION w_ENUM w_SEQUENCE w_ALIAS w_VALUE)), .val (.int (1 : Int32))] [(.int (1 : Int32))])) (fun t h => XS.iconst X22.here hx rfl (hb hby at_75) h) ?_
          refine own_by (f' := (mkF m 80 #[.val (.int p1), .val (.int p2), .val (.int k), .val (.ref (own_f k w_EMPTY w_BOUNDED w_FIXED w_NAMED w_STRUCT w_UNION w_ENUM w_SEQUENCE w_ALIAS w_VALUE)), .val (.int (1 : Int32))] [(.int (1 : Int32))])) (fun t h => XS.goto X22.here hx rfl (pc0 := 76) (pc' := 80) rfl (hb hby at_76) (by decide) (by decide) h) ?_
          obtain ⟨fs, hr, hrun, hended, hW, hsame⟩ := X22.leave (v := some (.int (1 : Int32))) (fun h => by rw [Bd.returns] at h; cases h)
          refine own_mk ⟨_, _, retN X22 hx (t := .boolean) Bd.returns (by simp) (hb hby at_80) hr, hrun, hended, _, _, rfl, ?_, ⟨_, rfl⟩, hW, hsame.mono (by decide) (by decide)⟩
          show Q0 n0 _ T22.heap _
          rw [e22]
          exact ⟨rfl, N22⟩
        · refine own_by (f' := (mkF m 41 #[.val (.int p1), .val (.int p2), .val (.int k), .val (.ref (own_f k w_EMPTY w_BOUNDED w_FIXED w_NAMED w_STRUCT w_UNION w_ENUM w_SEQUENCE w_ALIAS w_VALUE)), .unset] [])) (fun t h => XS.icmpNo X16.here hx rfl (hb hby at_38) rfl (feq hc38_21).1 h) ?_
          refine own_by (f' := (mkF m 42 #[.val (.int p1), .val (.int p2), .val (.int k), .val (.ref (own_f k w_EMPTY w_BOUNDED w_FIXED w_NAMED w_STRUCT w_UNION w_ENUM w_SEQUENCE w_ALIAS w_VALUE)), .unset] [(.int k)])) (fun t h => XS.iloadN X16.here hx rfl (hb hby at_41) rfl h) ?_
          refine own_by (f' := (mkF m 44 #[.val (.int p1), .val (.int p2), .val (.int k), .val (.ref (own_f k w_EMPTY w_BOUNDED w_FIXED w_NAMED w_STRUCT w_UNION w_ENUM w_SEQUENCE w_ALIAS w_VALUE)), .unset] [(.int (17 : Int32)), (.int k)])) (fun t h => XT.bipushV X16.here hx rfl (17 : Int32) (hb hby at_42) rfl h) ?_
          by_cases hc44_23 : k = (17 : Int32)
          · refine own_by (f' := (mkF m 59 #[.val (.int p1), .val (.int p2), .val (.int k), .val (.ref (own_f k w_EMPTY w_BOUNDED w_FIXED w_NAMED w_STRUCT w_UNION w_ENUM w_SEQUENCE w_ALIAS w_VALUE)), .unset] [])) (fun t h => XS.icmpYes X16.here hx rfl (pc0 := 44) (pc' := 59) rfl (hb hby at_44) rfl (teq hc44_23).1 (by decide) (by decide) h) ?_
            refine own_by (f' := (mkF m 60 #[.val (.int p1), .val (.int p2), .val (.int k), .val (.ref (own_f k w_EMPTY w_BOUNDED w_FIXED w_NAMED w_STRUCT w_UNION w_ENUM w_SEQUENCE w_ALIAS w_VALUE)), .unset] [(.int (1 : Int32))])) (fun t h => XS.iconst X16.here hx rfl (hb hby at_59) h) ?_
            refine own_by (f' := (mkF m 64 #[.val (.int p1), .val (.int p2), .val (.int k), .val (.ref (own_f k w_EMPTY w_BOUNDED w_FIXED w_NAMED w_STRUCT w_UNION w_ENUM w_SEQUENCE w_ALIAS w_VALUE)), .unset] [(.int (1 : Int32))])) (fun t h => XS.goto X16.here hx rfl (pc0 := 60) (pc' := 64) rfl (hb hby at_60) (by decide) (by decide) h) ?_
            refine own_by (f' := (mkF m 66 #[.val (.int p1), .val (.int p2), .val (.int k), .val (.ref (own_f k w_EMPTY w_BOUNDED w_FIXED w_NAMED w_STRUCT w_UNION w_ENUM w_SEQUENCE w_ALIAS w_VALUE)), .val (.int (1 : Int32))] [])) (fun t h => XS.istore X16.here hx rfl (hb hby at_64) rfl (l' := #[.val (.int p1), .val (.int p2), .val (.int k), .val (.ref (own_f k w_EMPTY w_BOUNDED w_FIXED w_NAMED w_STRUCT w_UNION w_ENUM w_SEQUENCE w_ALIAS w_VALUE)), .val (.int (1 : Int32))]) rfl h) ?_
            refine own_by (f' := (mkF m 67 #[.val (.int p1), .val (.int p2), .val (.int k), .val (.ref (own_f k w_EMPTY w_BOUNDED w_FIXED w_NAMED w_STRUCT w_UNION w_ENUM w_SEQUENCE w_ALIAS w_VALUE)), .val (.int (1 : Int32))] [(.ref (own_f k w_EMPTY w_BOUNDED w_FIXED w_NAMED w_STRUCT w_UNION w_ENUM w_SEQUENCE w_ALIAS w_VALUE))])) (fun t h => XS.aloadN X16.here hx rfl (hb hby at_66) rfl rfl h) ?_
            obtain ⟨cq24, kq24, q24a, q24b, q24c⟩ := isOf hZ e16 (own_all (P := fun z => Exa Z h0 z "com/example/orbweave/orbweave/orb/TypeCodeShape") k E_EMPTY E_BOUNDED E_FIXED E_NAMED E_STRUCT E_UNION E_ENUM E_SEQUENCE E_ALIAS E_VALUE)
            obtain ⟨v24, _, ⟨T24, L24, k24, n24⟩, -, X24, ⟨Lc24, hQ24, l24, y24, z24⟩, st24⟩ := X16.virtualBack hx (y := (⟨"com/example/orbweave/orbweave/orb/TypeCodeShape", "hasMembers", "()Z"⟩ : MethodName)) (z := (⟨"com/example/orbweave/orbweave/orb/TypeCodeShape", "hasMembers", "()Z"⟩ : MethodName)) hown (mvT hZ (hw _ (List.mem_of_getElem? (i := 7) rfl))) (mvT hZ (hw _ (List.mem_of_getElem? (i := 8) rfl))) (notFace_of_selects (args := #[]) (mvT hZ (hw _ (List.mem_of_getElem? (i := 10) rfl)))) (mvT hZ (hw _ (List.mem_of_getElem? (i := 10) rfl))) (mvT hZ (hw _ (List.mem_of_getElem? (i := 9) rfl))) (by decide) (backOf (W := 0) (rm2 l Z a0 hw [] (own_f k w_EMPTY w_BOUNDED w_FIXED w_NAMED w_STRUCT w_UNION w_ENUM w_SEQUENCE w_ALIAS w_VALUE) w_STRUCT w_UNION w_ENUM w_VALUE h0 n0 Z0 S_STRUCT S_UNION S_ENUM S_VALUE) hZ (hw _ (List.mem_of_getElem? (i := 11) rfl)) (hw _ (List.mem_of_getElem? (i := 3) rfl)) (by decide) (by decide)) q24a q24c (g := (mkF m 67 #[.val (.int p1), .val (.int p2), .val (.int k), .val (.ref (own_f k w_EMPTY w_BOUNDED w_FIXED w_NAMED w_STRUCT w_UNION w_ENUM w_SEQUENCE w_ALIAS w_VALUE)), .val (.int (1 : Int32))] [(.ref (own_f k w_EMPTY w_BOUNDED w_FIXED w_NAMED w_STRUCT w_UNION w_ENUM w_SEQUENCE w_ALIAS w_VALUE))])) rfl (by rw [hml]; rfl) (Steps.refl _) (argsL := []) (rest := []) (lenOf own_pd2 rfl) rfl (by show 2 * 0 + _ ≤ _; exact Nat.le_of_eq rfl) (hb hby at_67) (fun _ _ => ⟨rfl, e16, (by decide : 0 + 0 ≤ _), (by decide : 0 + 0 ≤ _)⟩)
            dsimp only [Pt.U, Pt.locs, Pt.cells, Pt.slots] at X24 l24 y24 z24 st24 hQ24
            subst l24 y24 z24
            obtain ⟨hv24, Nc24, e24⟩ := hQ24
            have N24 := Fr.app N16 Nc24
            obtain rfl : v24 = some (.int (1 : Int32)) := hv24.trans (by rw [hc44_23]; exact congrArg (fun z => some (Value.int z)) (if_pos (by simp [own_f])))
            refine own_by (f' := (mkF m 70 #[.val (.int p1), .val (.int p2), .val (.int k), .val (.ref (own_f k w_EMPTY w_BOUNDED w_FIXED w_NAMED w_STRUCT w_UNION w_ENUM w_SEQUENCE w_ALIAS w_VALUE)), .val (.int (1 : Int32))] [(.int (1 : Int32))])) (fun t h => st24.trans h) ?_
            refine own_by (f' := (mkF m 72 #[.val (.int p1), .val (.int p2), .val (.int k), .val (.ref (own_f k w_EMPTY w_BOUNDED w_FIXED w_NAMED w_STRUCT w_UNION w_ENUM w_SEQUENCE w_ALIAS w_VALUE)), .val (.int (1 : Int32))] [(.int (1 : Int32)), (.int (1 : Int32))])) (fun t h => XS.iload X24.here hx rfl (hb hby at_70) rfl h) ?_
            refine own_by (f' := (mkF m 75 #[.val (.int p1), .val (.int p2), .val (.int k), .val (.ref (own_f k w_EMPTY w_BOUNDED w_FIXED w_NAMED w_STRUCT w_UNION w_ENUM w_SEQUENCE w_ALIAS w_VALUE)), .val (.int (1 : Int32))] [])) (fun t h => XS.icmpNo X24.here hx rfl (hb hby at_72) rfl (by decide) h) ?_
            refine own_by (f' := (mkF m 76 #[.val (.int p1), .val (.int p2), .val (.int k), .val (.ref (own_f k w_EMPTY w_BOUNDED w_FIXED w_NAMED w_STRUCT w_UNION w_ENUM w_SEQUENCE w_ALIAS w_VALUE)), .val (.int (1 : Int32))] [(.int (1 : Int32))])) (fun t h => XS.iconst X24.here hx rfl (hb hby at_75) h) ?_
            refine own_by (f' := (mkF m 80 #[.val (.int p1), .val (.int p2), .val (.int k), .val (.ref (own_f k w_EMPTY w_BOUNDED w_FIXED w_NAMED w_STRUCT w_UNION w_ENUM w_SEQUENCE w_ALIAS w_VALUE)), .val (.int (1 : Int32))] [(.int (1 : Int32))])) (fun t h => XS.goto X24.here hx rfl (pc0 := 76) (pc' := 80) rfl (hb hby at_76) (by decide) (by decide) h) ?_
            obtain ⟨fs, hr, hrun, hended, hW, hsame⟩ := X24.leave (v := some (.int (1 : Int32))) (fun h => by rw [Bd.returns] at h; cases h)
            refine own_mk ⟨_, _, retN X24 hx (t := .boolean) Bd.returns (by simp) (hb hby at_80) hr, hrun, hended, _, _, rfl, ?_, ⟨_, rfl⟩, hW, hsame.mono (by decide) (by decide)⟩
            show Q0 n0 _ T24.heap _
            rw [e24]
            exact ⟨rfl, N24⟩
          · refine own_by (f' := (mkF m 47 #[.val (.int p1), .val (.int p2), .val (.int k), .val (.ref (own_f k w_EMPTY w_BOUNDED w_FIXED w_NAMED w_STRUCT w_UNION w_ENUM w_SEQUENCE w_ALIAS w_VALUE)), .unset] [])) (fun t h => XS.icmpNo X16.here hx rfl (hb hby at_44) rfl (feq hc44_23).1 h) ?_
            refine own_by (f' := (mkF m 48 #[.val (.int p1), .val (.int p2), .val (.int k), .val (.ref (own_f k w_EMPTY w_BOUNDED w_FIXED w_NAMED w_STRUCT w_UNION w_ENUM w_SEQUENCE w_ALIAS w_VALUE)), .unset] [(.int k)])) (fun t h => XS.iloadN X16.here hx rfl (hb hby at_47) rfl h) ?_
            refine own_by (f' := (mkF m 50 #[.val (.int p1), .val (.int p2), .val (.int k), .val (.ref (own_f k w_EMPTY w_BOUNDED w_FIXED w_NAMED w_STRUCT w_UNION w_ENUM w_SEQUENCE w_ALIAS w_VALUE)), .unset] [(.int (29 : Int32)), (.int k)])) (fun t h => XT.bipushV X16.here hx rfl (29 : Int32) (hb hby at_48) rfl h) ?_
            by_cases hc50_25 : k = (29 : Int32)
            · refine own_by (f' := (mkF m 59 #[.val (.int p1), .val (.int p2), .val (.int k), .val (.ref (own_f k w_EMPTY w_BOUNDED w_FIXED w_NAMED w_STRUCT w_UNION w_ENUM w_SEQUENCE w_ALIAS w_VALUE)), .unset] [])) (fun t h => XS.icmpYes X16.here hx rfl (pc0 := 50) (pc' := 59) rfl (hb hby at_50) rfl (teq hc50_25).1 (by decide) (by decide) h) ?_
              refine own_by (f' := (mkF m 60 #[.val (.int p1), .val (.int p2), .val (.int k), .val (.ref (own_f k w_EMPTY w_BOUNDED w_FIXED w_NAMED w_STRUCT w_UNION w_ENUM w_SEQUENCE w_ALIAS w_VALUE)), .unset] [(.int (1 : Int32))])) (fun t h => XS.iconst X16.here hx rfl (hb hby at_59) h) ?_
              refine own_by (f' := (mkF m 64 #[.val (.int p1), .val (.int p2), .val (.int k), .val (.ref (own_f k w_EMPTY w_BOUNDED w_FIXED w_NAMED w_STRUCT w_UNION w_ENUM w_SEQUENCE w_ALIAS w_VALUE)), .unset] [(.int (1 : Int32))])) (fun t h => XS.goto X16.here hx rfl (pc0 := 60) (pc' := 64) rfl (hb hby at_60) (by decide) (by decide) h) ?_
              refine own_by (f' := (mkF m 66 #[.val (.int p1), .val (.int p2), .val (.int k), .val (.ref (own_f k w_EMPTY w_BOUNDED w_FIXED w_NAMED w_STRUCT w_UNION w_ENUM w_SEQUENCE w_ALIAS w_VALUE)), .val (.int (1 : Int32))] [])) (fun t h => XS.istore X16.here hx rfl (hb hby at_64) rfl (l' := #[.val (.int p1), .val (.int p2), .val (.int k), .val (.ref (own_f k w_EMPTY w_BOUNDED w_FIXED w_NAMED w_STRUCT w_UNION w_ENUM w_SEQUENCE w_ALIAS w_VALUE)), .val (.int (1 : Int32))]) rfl h) ?_
              refine own_by (f' := (mkF m 67 #[.val (.int p1), .val (.int p2), .val (.int k), .val (.ref (own_f k w_EMPTY w_BOUNDED w_FIXED w_NAMED w_STRUCT w_UNION w_ENUM w_SEQUENCE w_ALIAS w_VALUE)), .val (.int (1 : Int32))] [(.ref (own_f k w_EMPTY w_BOUNDED w_FIXED w_NAMED w_STRUCT w_UNION w_ENUM w_SEQUENCE w_ALIAS w_VALUE))])) (fun t h => XS.aloadN X16.here hx rfl (hb hby at_66) rfl rfl h) ?_
              obtain ⟨cq26, kq26, q26a, q26b, q26c⟩ := isOf hZ e16 (own_all (P := fun z => Exa Z h0 z "com/example/orbweave/orbweave/orb/TypeCodeShape") k E_EMPTY E_BOUNDED E_FIXED E_NAMED E_STRUCT E_UNION E_ENUM E_SEQUENCE E_ALIAS E_VALUE)
              obtain ⟨v26, _, ⟨T26, L26, k26, n26⟩, -, X26, ⟨Lc26, hQ26, l26, y26, z26⟩, st26⟩ := X16.virtualBack hx (y := (⟨"com/example/orbweave/orbweave/orb/TypeCodeShape", "hasMembers", "()Z"⟩ : MethodName)) (z := (⟨"com/example/orbweave/orbweave/orb/TypeCodeShape", "hasMembers", "()Z"⟩ : MethodName)) hown (mvT hZ (hw _ (List.mem_of_getElem? (i := 7) rfl))) (mvT hZ (hw _ (List.mem_of_getElem? (i := 8) rfl))) (notFace_of_selects (args := #[]) (mvT hZ (hw _ (List.mem_of_getElem? (i := 10) rfl)))) (mvT hZ (hw _ (List.mem_of_getElem? (i := 10) rfl))) (mvT hZ (hw _ (List.mem_of_getElem? (i := 9) rfl))) (by decide) (backOf (W := 0) (rm2 l Z a0 hw [] (own_f k w_EMPTY w_BOUNDED w_FIXED w_NAMED w_STRUCT w_UNION w_ENUM w_SEQUENCE w_ALIAS w_VALUE) w_STRUCT w_UNION w_ENUM w_VALUE h0 n0 Z0 S_STRUCT S_UNION S_ENUM S_VALUE) hZ (hw _ (List.mem_of_getElem? (i := 11) rfl)) (hw _ (List.mem_of_getElem? (i := 3) rfl)) (by decide) (by decide)) q26a q26c (g := (mkF m 67 #[.val (.int p1), .val (.int p2), .val (.int k), .val (.ref (own_f k w_EMPTY w_BOUNDED w_FIXED w_NAMED w_STRUCT w_UNION w_ENUM w_SEQUENCE w_ALIAS w_VALUE)), .val (.int (1 : Int32))] [(.ref (own_f k w_EMPTY w_BOUNDED w_FIXED w_NAMED w_STRUCT w_UNION w_ENUM w_SEQUENCE w_ALIAS w_VALUE))])) rfl (by rw [hml]; rfl) (Steps.refl _) (argsL := []) (rest := []) (lenOf own_pd2 rfl) rfl (by show 2 * 0 + _ ≤ _; exact Nat.le_of_eq rfl) (hb hby at_67) (fun _ _ => ⟨rfl, e16, (by decide : 0 + 0 ≤ _), (by decide : 0 + 0 ≤ _)⟩)
              dsimp only [Pt.U, Pt.locs, Pt.cells, Pt.slots] at X26 l26 y26 z26 st26 hQ26
              subst l26 y26 z26
              obtain ⟨hv26, Nc26, e26⟩ := hQ26
              have N26 := Fr.app N16 Nc26
              obtain rfl : v26 = some (.int (1 : Int32)) := hv26.trans (by rw [hc50_25]; exact congrArg (fun z => some (Value.int z)) (if_pos (by simp [own_f])))
              refine own_by (f' := (mkF m 70 #[.val (.int p1), .val (.int p2), .val (.int k), .val (.ref (own_f k w_EMPTY w_BOUNDED w_FIXED w_NAMED w_STRUCT w_UNION w_ENUM w_SEQUENCE w_ALIAS w_VALUE)), .val (.int (1 : Int32))] [(.int (1 : Int32))])) (fun t h => st26.trans h) ?_
              refine own_by (f' := (mkF m 72 #[.val (.int p1), .val (.int p2), .val (.int k), .val (.ref (own_f k w_EMPTY w_BOUNDED w_FIXED w_NAMED w_STRUCT w_UNION w_ENUM w_SEQUENCE w_ALIAS w_VALUE)), .val (.int (1 : Int32))] [(.int (1 : Int32)), (.int (1 : Int32))])) (fun t h => XS.iload X26.here hx rfl (hb hby at_70) rfl h) ?_
              refine own_by (f' := (mkF m 75 #[.val (.int p1), .val (.int p2), .val (.int k), .val (.ref (own_f k w_EMPTY w_BOUNDED w_FIXED w_NAMED w_STRUCT w_UNION w_ENUM w_SEQUENCE w_ALIAS w_VALUE)), .val (.int (1 : Int32))] [])) (fun t h => XS.icmpNo X26.here hx rfl (hb hby at_72) rfl (by decide) h) ?_
              refine own_by (f' := (mkF m 76 #[.val (.int p1), .val (.int p2), .val (.int k), .val (.ref (own_f k w_EMPTY w_BOUNDED w_FIXED w_NAMED w_STRUCT w_UNION w_ENUM w_SEQUENCE w_ALIAS w_VALUE)), .val (.int (1 : Int32))] [(.int (1 : Int32))])) (fun t h => XS.iconst X26.here hx rfl (hb hby at_75) h) ?_
              refine own_by (f' := (mkF m 80 #[.val (.int p1), .val (.int p2), .val (.int k), .val (.ref (own_f k w_EMPTY w_BOUNDED w_FIXED w_NAMED w_STRUCT w_UNION w_ENUM w_SEQUENCE w_ALIAS w_VALUE)), .val (.int (1 : Int32))] [(.int (1 : Int32))])) (fun t h => XS.goto X26.here hx rfl (pc0 := 76) (pc' := 80) rfl (hb hby at_76) (by decide) (by decide) h) ?_
              obtain ⟨fs, hr, hrun, hended, hW, hsame⟩ := X26.leave (v := some (.int (1 : Int32))) (fun h => by rw [Bd.returns] at h; cases h)
              refine own_mk ⟨_, _, retN X26 hx (t := .boolean) Bd.returns (by simp) (hb hby at_80) hr, hrun, hended, _, _, rfl, ?_, ⟨_, rfl⟩, hW, hsame.mono (by decide) (by decide)⟩
              show Q0 n0 _ T26.heap _
              rw [e26]
              exact ⟨rfl, N26⟩
            · refine own_by (f' := (mkF m 53 #[.val (.int p1), .val (.int p2), .val (.int k), .val (.ref (own_f k w_EMPTY w_BOUNDED w_FIXED w_NAMED w_STRUCT w_UNION w_ENUM w_SEQUENCE w_ALIAS w_VALUE)), .unset] [])) (fun t h => XS.icmpNo X16.here hx rfl (hb hby at_50) rfl (feq hc50_25).1 h) ?_
              refine own_by (f' := (mkF m 54 #[.val (.int p1), .val (.int p2), .val (.int k), .val (.ref (own_f k w_EMPTY w_BOUNDED w_FIXED w_NAMED w_STRUCT w_UNION w_ENUM w_SEQUENCE w_ALIAS w_VALUE)), .unset] [(.int k)])) (fun t h => XS.iloadN X16.here hx rfl (hb hby at_53) rfl h) ?_
              refine own_by (f' := (mkF m 56 #[.val (.int p1), .val (.int p2), .val (.int k), .val (.ref (own_f k w_EMPTY w_BOUNDED w_FIXED w_NAMED w_STRUCT w_UNION w_ENUM w_SEQUENCE w_ALIAS w_VALUE)), .unset] [(.int (36 : Int32)), (.int k)])) (fun t h => XT.bipushV X16.here hx rfl (36 : Int32) (hb hby at_54) rfl h) ?_
              by_cases hc56_27 : k = (36 : Int32)
              · refine own_by (f' := (mkF m 59 #[.val (.int p1), .val (.int p2), .val (.int k), .val (.ref (own_f k w_EMPTY w_BOUNDED w_FIXED w_NAMED w_STRUCT w_UNION w_ENUM w_SEQUENCE w_ALIAS w_VALUE)), .unset] [])) (fun t h => XS.icmpNo X16.here hx rfl (hb hby at_56) rfl (teq hc56_27).2 h) ?_
                refine own_by (f' := (mkF m 60 #[.val (.int p1), .val (.int p2), .val (.int k), .val (.ref (own_f k w_EMPTY w_BOUNDED w_FIXED w_NAMED w_STRUCT w_UNION w_ENUM w_SEQUENCE w_ALIAS w_VALUE)), .unset] [(.int (1 : Int32))])) (fun t h => XS.iconst X16.here hx rfl (hb hby at_59) h) ?_
                refine own_by (f' := (mkF m 64 #[.val (.int p1), .val (.int p2), .val (.int k), .val (.ref (own_f k w_EMPTY w_BOUNDED w_FIXED w_NAMED w_STRUCT w_UNION w_ENUM w_SEQUENCE w_ALIAS w_VALUE)), .unset] [(.int (1 : Int32))])) (fun t h => XS.goto X16.here hx rfl (pc0 := 60) (pc' := 64) rfl (hb hby at_60) (by decide) (by decide) h) ?_
                refine own_by (f' := (mkF m 66 #[.val (.int p1), .val (.int p2), .val (.int k), .val (.ref (own_f k w_EMPTY w_BOUNDED w_FIXED w_NAMED w_STRUCT w_UNION w_ENUM w_SEQUENCE w_ALIAS w_VALUE)), .val (.int (1 : Int32))] [])) (fun t h => XS.istore X16.here hx rfl (hb hby at_64) rfl (l' := #[.val (.int p1), .val (.int p2), .val (.int k), .val (.ref (own_f k w_EMPTY w_BOUNDED w_FIXED w_NAMED w_STRUCT w_UNION w_ENUM w_SEQUENCE w_ALIAS w_VALUE)), .val (.int (1 : Int32))]) rfl h) ?_
                refine own_by (f' := (mkF m 67 #[.val (.int p1), .val (.int p2), .val (.int k), .val (.ref (own_f k w_EMPTY w_BOUNDED w_FIXED w_NAMED w_STRUCT w_UNION w_ENUM w_SEQUENCE w_ALIAS w_VALUE)), .val (.int (1 : Int32))] [(.ref (own_f k w_EMPTY w_BOUNDED w_FIXED w_NAMED w_STRUCT w_UNION w_ENUM w_SEQUENCE w_ALIAS w_VALUE))])) (fun t h => XS.aloadN X16.here hx rfl (hb hby at_66) rfl rfl h) ?_
                obtain ⟨cq28, kq28, q28a, q28b, q28c⟩ := isOf hZ e16 (own_all (P := fun z => Exa Z h0 z "com/example/orbweave/orbweave/orb/TypeCodeShape") k E_EMPTY E_BOUNDED E_FIXED E_NAMED E_STRUCT E_UNION E_ENUM E_SEQUENCE E_ALIAS E_VALUE)
                obtain ⟨v28, _, ⟨T28, L28, k28, n28⟩, -, X28, ⟨Lc28, hQ28, l28, y28, z28⟩, st28⟩ := X16.virtualBack hx (y := (⟨"com/example/orbweave/orbweave/orb/TypeCodeShape", "hasMembers", "()Z"⟩ : MethodName)) (z := (⟨"com/example/orbweave/orbweave/orb/TypeCodeShape", "hasMembers", "()Z"⟩ : MethodName)) hown (mvT hZ (hw _ (List.mem_of_getElem? (i := 7) rfl))) (mvT hZ (hw _ (List.mem_of_getElem? (i := 8) rfl))) (notFace_of_selects (args := #[]) (mvT hZ (hw _ (List.mem_of_getElem? (i := 10) rfl)))) (mvT hZ (hw _ (List.mem_of_getElem? (i := 10) rfl))) (mvT hZ (hw _ (List.mem_of_getElem? (i := 9) rfl))) (by decide) (backOf (W := 0) (rm2 l Z a0 hw [] (own_f k w_EMPTY w_BOUNDED w_FIXED w_NAMED w_STRUCT w_UNION w_ENUM w_SEQUENCE w_ALIAS w_VALUE) w_STRUCT w_UNION w_ENUM w_VALUE h0 n0 Z0 S_STRUCT S_UNION S_ENUM S_VALUE) hZ (hw _ (List.mem_of_getElem? (i := 11) rfl)) (hw _ (List.mem_of_getElem? (i := 3) rfl)) (by decide) (by decide)) q28a q28c (g := (mkF m 67 #[.val (.int p1), .val (.int p2), .val (.int k), .val (.ref (own_f k w_EMPTY w_BOUNDED w_FIXED w_NAMED w_STRUCT w_UNION w_ENUM w_SEQUENCE w_ALIAS w_VALUE)), .val (.int (1 : Int32))] [(.ref (own_f k w_EMPTY w_BOUNDED w_FIXED w_NAMED w_STRUCT w_UNION w_ENUM w_SEQUENCE w_ALIAS w_VALUE))])) rfl (by rw [hml]; rfl) (Steps.refl _) (argsL := []) (rest := []) (lenOf own_pd2 rfl) rfl (by show 2 * 0 + _ ≤ _; exact Nat.le_of_eq rfl) (hb hby at_67) (fun _ _ => ⟨rfl, e16, (by decide : 0 + 0 ≤ _), (by decide : 0 + 0 ≤ _)⟩)
                dsimp only [Pt.U, Pt.locs, Pt.cells, Pt.slots] at X28 l28 y28 z28 st28 hQ28
                subst l28 y28 z28
                obtain ⟨hv28, Nc28, e28⟩ := hQ28
                have N28 := Fr.app N16 Nc28
                obtain rfl : v28 = some (.int (1 : Int32)) := hv28.trans (by rw [hc56_27]; exact congrArg (fun z => some (Value.int z)) (if_pos (by simp [own_f])))
                refine own_by (f' := (mkF m 70 #[.val (.int p1), .val (.int p2), .val (.int k), .val (.ref (own_f k w_EMPTY w_BOUNDED w_FIXED w_NAMED w_STRUCT w_UNION w_ENUM w_SEQUENCE w_ALIAS w_VALUE)), .val (.int (1 : Int32))] [(.int (1 : Int32))])) (fun t h => st28.trans h) ?_
                refine own_by (f' := (mkF m 72 #[.val (.int p1), .val (.int p2), .val (.int k), .val (.ref (own_f k w_EMPTY w_BOUNDED w_FIXED w_NAMED w_STRUCT w_UNION w_ENUM w_SEQUENCE w_ALIAS w_VALUE)), .val (.int (1 : Int32))] [(.int (1 : Int32)), (.int (1 : Int32))])) (fun t h => XS.iload X28.here hx rfl (hb hby at_70) rfl h) ?_
                refine own_by (f' := (mkF m 75 #[.val (.int p1), .val (.int p2), .val (.int k), .val (.ref (own_f k w_EMPTY w_BOUNDED w_FIXED w_NAMED w_STRUCT w_UNION w_ENUM w_SEQUENCE w_ALIAS w_VALUE)), .val (.int (1 : Int32))] [])) (fun t h => XS.icmpNo X28.here hx rfl (hb hby at_72) rfl (by decide) h) ?_
                refine own_by (f' := (mkF m 76 #[.val (.int p1), .val (.int p2), .val (.int k), .val (.ref (own_f k w_EMPTY w_BOUNDED w_FIXED w_NAMED w_STRUCT w_UNION w_ENUM w_SEQUENCE w_ALIAS w_VALUE)), .val (.int (1 : Int32))] [(.int (1 : Int32))])) (fun t h => XS.iconst X28.here hx rfl (hb hby at_75) h) ?_
                refine own_by (f' := (mkF m 80 #[.val (.int p1), .val (.int p2), .val (.int k), .val (.ref (own_f k w_EMPTY w_BOUNDED w_FIXED w_NAMED w_STRUCT w_UNION w_ENUM w_SEQUENCE w_ALIAS w_VALUE)), .val (.int (1 : Int32))] [(.int (1 : Int32))])) (fun t h => XS.goto X28.here hx rfl (pc0 := 76) (pc' := 80) rfl (hb hby at_76) (by decide) (by decide) h) ?_
                obtain ⟨fs, hr, hrun, hended, hW, hsame⟩ := X28.leave (v := some (.int (1 : Int32))) (fun h => by rw [Bd.returns] at h; cases h)
                refine own_mk ⟨_, _, retN X28 hx (t := .boolean) Bd.returns (by simp) (hb hby at_80) hr, hrun, hended, _, _, rfl, ?_, ⟨_, rfl⟩, hW, hsame.mono (by decide) (by decide)⟩
                show Q0 n0 _ T28.heap _
                rw [e28]
                exact ⟨rfl, N28⟩
              · refine own_by (f' := (mkF m 63 #[.val (.int p1), .val (.int p2), .val (.int k), .val (.ref (own_f k w_EMPTY w_BOUNDED w_FIXED w_NAMED w_STRUCT w_UNION w_ENUM w_SEQUENCE w_ALIAS w_VALUE)), .unset] [])) (fun t h => XS.icmpYes X16.here hx rfl (pc0 := 56) (pc' := 63) rfl (hb hby at_56) rfl (feq hc56_27).2 (by decide) (by decide) h) ?_
                refine own_by (f' := (mkF m 64 #[.val (.int p1), .val (.int p2), .val (.int k), .val (.ref (own_f k w_EMPTY w_BOUNDED w_FIXED w_NAMED w_STRUCT w_UNION w_ENUM w_SEQUENCE w_ALIAS w_VALUE)), .unset] [(.int (0 : Int32))])) (fun t h => XS.iconst X16.here hx rfl (hb hby at_63) h) ?_
                refine own_by (f' := (mkF m 66 #[.val (.int p1), .val (.int p2), .val (.int k), .val (.ref (own_f k w_EMPTY w_BOUNDED w_FIXED w_NAMED w_STRUCT w_UNION w_ENUM w_SEQUENCE w_ALIAS w_VALUE)), .val (.int (0 : Int32))] [])) (fun t h => XS.istore X16.here hx rfl (hb hby at_64) rfl (l' := #[.val (.int p1), .val (.int p2), .val (.int k), .val (.ref (own_f k w_EMPTY w_BOUNDED w_FIXED w_NAMED w_STRUCT w_UNION w_ENUM w_SEQUENCE w_ALIAS w_VALUE)), .val (.int (0 : Int32))]) rfl h) ?_
                refine own_by (f' := (mkF m 67 #[.val (.int p1), .val (.int p2), .val (.int k), .val (.ref (own_f k w_EMPTY w_BOUNDED w_FIXED w_NAMED w_STRUCT w_UNION w_ENUM w_SEQUENCE w_ALIAS w_VALUE)), .val (.int (0 : Int32))] [(.ref (own_f k w_EMPTY w_BOUNDED w_FIXED w_NAMED w_STRUCT w_UNION w_ENUM w_SEQUENCE w_ALIAS w_VALUE))])) (fun t h => XS.aloadN X16.here hx rfl (hb hby at_66) rfl rfl h) ?_
                obtain ⟨cq29, kq29, q29a, q29b, q29c⟩ := isOf hZ e16 (own_all (P := fun z => Exa Z h0 z "com/example/orbweave/orbweave/orb/TypeCodeShape") k E_EMPTY E_BOUNDED E_FIXED E_NAMED E_STRUCT E_UNION E_ENUM E_SEQUENCE E_ALIAS E_VALUE)
                obtain ⟨v29, _, ⟨T29, L29, k29, n29⟩, -, X29, ⟨Lc29, hQ29, l29, y29, z29⟩, st29⟩ := X16.virtualBack hx (y := (⟨"com/example/orbweave/orbweave/orb/TypeCodeShape", "hasMembers", "()Z"⟩ : MethodName)) (z := (⟨"com/example/orbweave/orbweave/orb/TypeCodeShape", "hasMembers", "()Z"⟩ : MethodName)) hown (mvT hZ (hw _ (List.mem_of_getElem? (i := 7) rfl))) (mvT hZ (hw _ (List.mem_of_getElem? (i := 8) rfl))) (notFace_of_selects (args := #[]) (mvT hZ (hw _ (List.mem_of_getElem? (i := 10) rfl)))) (mvT hZ (hw _ (List.mem_of_getElem? (i := 10) rfl))) (mvT hZ (hw _ (List.mem_of_getElem? (i := 9) rfl))) (by decide) (backOf (W := 0) (rm2 l Z a0 hw [] (own_f k w_EMPTY w_BOUNDED w_FIXED w_NAMED w_STRUCT w_UNION w_ENUM w_SEQUENCE w_ALIAS w_VALUE) w_STRUCT w_UNION w_ENUM w_VALUE h0 n0 Z0 S_STRUCT S_UNION S_ENUM S_VALUE) hZ (hw _ (List.mem_of_getElem? (i := 11) rfl)) (hw _ (List.mem_of_getElem? (i := 3) rfl)) (by decide) (by decide)) q29a q29c (g := (mkF m 67 #[.val (.int p1), .val (.int p2), .val (.int k), .val (.ref (own_f k w_EMPTY w_BOUNDED w_FIXED w_NAMED w_STRUCT w_UNION w_ENUM w_SEQUENCE w_ALIAS w_VALUE)), .val (.int (0 : Int32))] [(.ref (own_f k w_EMPTY w_BOUNDED w_FIXED w_NAMED w_STRUCT w_UNION w_ENUM w_SEQUENCE w_ALIAS w_VALUE))])) rfl (by rw [hml]; rfl) (Steps.refl _) (argsL := []) (rest := []) (lenOf own_pd2 rfl) rfl (by show 2 * 0 + _ ≤ _; exact Nat.le_of_eq rfl) (hb hby at_67) (fun _ _ => ⟨rfl, e16, (by decide : 0 + 0 ≤ _), (by decide : 0 + 0 ≤ _)⟩)
                dsimp only [Pt.U, Pt.locs, Pt.cells, Pt.slots] at X29 l29 y29 z29 st29 hQ29
                subst l29 y29 z29
                obtain ⟨hv29, Nc29, e29⟩ := hQ29
                have N29 := Fr.app N16 Nc29
                obtain rfl : v29 = some (.int (0 : Int32)) := hv29.trans (congrArg (fun z => some (Value.int z)) (if_neg (own_no k w_EMPTY w_BOUNDED w_FIXED w_NAMED w_STRUCT w_UNION w_ENUM w_SEQUENCE w_ALIAS w_VALUE ne_EMPTY_STRUCT ne_EMPTY_UNION ne_EMPTY_ENUM ne_EMPTY_VALUE ne_BOUNDED_STRUCT ne_BOUNDED_UNION ne_BOUNDED_ENUM ne_BOUNDED_VALUE ne_FIXED_STRUCT ne_FIXED_UNION ne_FIXED_ENUM ne_FIXED_VALUE ne_NAMED_STRUCT ne_NAMED_UNION ne_NAMED_ENUM ne_NAMED_VALUE ne_SEQUENCE_STRUCT ne_SEQUENCE_UNION ne_SEQUENCE_ENUM ne_SEQUENCE_VALUE ne_ALIAS_STRUCT ne_ALIAS_UNION ne_ALIAS_ENUM ne_ALIAS_VALUE hc26_17 hc32_19 hc38_21 hc44_23 hc50_25 hc56_27)))
                refine own_by (f' := (mkF m 70 #[.val (.int p1), .val (.int p2), .val (.int k), .val (.ref (own_f k w_EMPTY w_BOUNDED w_FIXED w_NAMED w_STRUCT w_UNION w_ENUM w_SEQUENCE w_ALIAS w_VALUE)), .val (.int (0 : Int32))] [(.int (0 : Int32))])) (fun t h => st29.trans h) ?_
                refine own_by (f' := (mkF m 72 #[.val (.int p1), .val (.int p2), .val (.int k), .val (.ref (own_f k w_EMPTY w_BOUNDED w_FIXED w_NAMED w_STRUCT w_UNION w_ENUM w_SEQUENCE w_ALIAS w_VALUE)), .val (.int (0 : Int32))] [(.int (0 : Int32)), (.int (0 : Int32))])) (fun t h => XS.iload X29.here hx rfl (hb hby at_70) rfl h) ?_
                refine own_by (f' := (mkF m 75 #[.val (.int p1), .val (.int p2), .val (.int k), .val (.ref (own_f k w_EMPTY w_BOUNDED w_FIXED w_NAMED w_STRUCT w_UNION w_ENUM w_SEQUENCE w_ALIAS w_VALUE)), .val (.int (0 : Int32))] [])) (fun t h => XS.icmpNo X29.here hx rfl (hb hby at_72) rfl (by decide) h) ?_
                refine own_by (f' := (mkF m 76 #[.val (.int p1), .val (.int p2), .val (.int k), .val (.ref (own_f k w_EMPTY w_BOUNDED w_FIXED w_NAMED w_STRUCT w_UNION w_ENUM w_SEQUENCE w_ALIAS w_VALUE)), .val (.int (0 : Int32))] [(.int (1 : Int32))])) (fun t h => XS.iconst X29.here hx rfl (hb hby at_75) h) ?_
                refine own_by (f' := (mkF m 80 #[.val (.int p1), .val (.int p2), .val (.int k), .val (.ref (own_f k w_EMPTY w_BOUNDED w_FIXED w_NAMED w_STRUCT w_UNION w_ENUM w_SEQUENCE w_ALIAS w_VALUE)), .val (.int (0 : Int32))] [(.int (1 : Int32))])) (fun t h => XS.goto X29.here hx rfl (pc0 := 76) (pc' := 80) rfl (hb hby at_76) (by decide) (by decide) h) ?_
                obtain ⟨fs, hr, hrun, hended, hW, hsame⟩ := X29.leave (v := some (.int (1 : Int32))) (fun h => by rw [Bd.returns] at h; cases h)
                refine own_mk ⟨_, _, retN X29 hx (t := .boolean) Bd.returns (by simp) (hb hby at_80) hr, hrun, hended, _, _, rfl, ?_, ⟨_, rfl⟩, hW, hsame.mono (by decide) (by decide)⟩
                show Q0 n0 _ T29.heap _
                rw [e29]
                exact ⟨rfl, N29⟩
set_option maxRecDepth 65536 in
set_option maxHeartbeats 40000000 in
theorem comes_1 {Post : Tables → Env → Array Value → State → Outcome → State → Prop} (hpost : ∀ tb e args s v u, (limb_1_1.after args s (.returned v) u = true ∧ limb_1_2.after args s (.returned v) u = true ∧ True) → FrameEnd s (.returned v) u (Jvm.fieldLocs frame_1_writes args s ++ Jvm.arrayLocs frame_1_arrays args s ++ Jvm.staticLocs frame_1_statics s) 0 0 → Post tb e args s (.returned v) u) :
    ArmFor flags0 classFile x code maxLocals ret World_1 tables_1 room_1 Calls_1 rest_1 Pre_1 Post := by
  intro l hfl _ _ p e ha hc hk s m args below hf hA hF happ hP
  obtain ⟨hcalls, hrest, hpre⟩ := hP
  obtain ⟨-, -, -, hnamed, -, -, -, hat⟩ := (Spec.applies_iff hf).mp happ
  obtain ⟨hg, hn⟩ := and_e (Cond.before_iff.mp (show (Jvm.Cond.and given_1 narrow_1).before args s = true from hpre))
  obtain ⟨hcount, hg⟩ := and_e hg
  obtain ⟨hk0, hg⟩ := and_e hg
  have hk1 := hg
  obtain ⟨w0, w1, rfl⟩ : ∃ w0 w1 : Value, args = #[w0, w1] := by
    have hs : args.size = 2 := by simpa [Cond.value, given_1] using hcount
    obtain ⟨L⟩ := args
    match L, hs with
    | [w0, w1], _ => exact ⟨w0, w1, rfl⟩
  have hw := fun d (hd : d ∈ tables_1) => atoms_spec (ws := Jvm.Cond.code x code maxLocals ret :: tables_1) hat d (List.mem_cons_of_mem _ hd)
  obtain ⟨i0, ei0⟩ := is_v hk0
  obtain rfl : w0 = (.int i0) := Option.some.inj ei0
  obtain ⟨i1, ei1⟩ := is_v hk1
  obtain rfl : w1 = (.int i1) := Option.some.inj ei1
  obtain ⟨hn0, hn⟩ := and_e hn
  obtain ⟨hn1, hn⟩ := and_e hn
  obtain ⟨hn2, hn⟩ := and_e hn
  obtain ⟨hn3, hn⟩ := and_e hn
  obtain ⟨hn4, hn⟩ := and_e hn
  obtain ⟨hn5, hn⟩ := and_e hn
  obtain ⟨hn6, hn⟩ := and_e hn
  obtain ⟨hn7, hn⟩ := and_e hn
  obtain ⟨hn8, hn⟩ := and_e hn
  obtain ⟨hn9, hn⟩ := and_e hn
  obtain ⟨hn10, hn⟩ := and_e hn
  obtain ⟨hn11, hn⟩ := and_e hn
  obtain ⟨hn12, hn⟩ := and_e hn
  obtain ⟨hn13, hn⟩ := and_e hn
  obtain ⟨hn14, hn⟩ := and_e hn
  obtain ⟨hn15, hn⟩ := and_e hn
  obtain ⟨hn16, hn⟩ := and_e hn
  obtain ⟨hn17, hn⟩ := and_e hn
  obtain ⟨hn18, hn⟩ := and_e hn
  have hn19 := hn
  obtain ⟨w_EMPTY, ev_EMPTY⟩ := exa_v hn0
  have E_EMPTY := Exa.start ev_EMPTY hn0
  have S_EMPTY := Sta.start ev_EMPTY (Or.inr ⟨(hw _ (List.mem_of_getElem? (i := 3) rfl)), (hw _ (List.mem_of_getElem? (i := 6) rfl))⟩)
  obtain ⟨w_STRUCT, ev_STRUCT⟩ := exa_v hn1
  have E_STRUCT := Exa.start ev_STRUCT hn1
  have S_STRUCT := Sta.start ev_STRUCT (Or.inr ⟨(hw _ (List.mem_of_getElem? (i := 3) rfl)), (hw _ (List.mem_of_getElem? (i := 13) rfl))⟩)
  obtain ⟨w_UNION, ev_UNION⟩ := exa_v hn4
  have E_UNION := Exa.start ev_UNION hn4
  have S_UNION := Sta.start ev_UNION (Or.inr ⟨(hw _ (List.mem_of_getElem? (i := 3) rfl)), (hw _ (List.mem_of_getElem? (i := 15) rfl))⟩)
  obtain ⟨w_ENUM, ev_ENUM⟩ := exa_v hn6
  have E_ENUM := Exa.start ev_ENUM hn6
  have S_ENUM := Sta.start ev_ENUM (Or.inr ⟨(hw _ (List.mem_of_getElem? (i := 3) rfl)), (hw _ (List.mem_of_getElem? (i := 17) rfl))⟩)
  obtain ⟨w_VALUE, ev_VALUE⟩ := exa_v hn8
  have E_VALUE := Exa.start ev_VALUE hn8
  have S_VALUE := Sta.start ev_VALUE (Or.inr ⟨(hw _ (List.mem_of_getElem? (i := 3) rfl)), (hw _ (List.mem_of_getElem? (i := 19) rfl))⟩)
  obtain ⟨w_NAMED, ev_NAMED⟩ := exa_v hn10
  have E_NAMED := Exa.start ev_NAMED hn10
  have S_NAMED := Sta.start ev_NAMED (Or.inr ⟨(hw _ (List.mem_of_getElem? (i := 3) rfl)), (hw _ (List.mem_of_getElem? (i := 21) rfl))⟩)
  obtain ⟨w_FIXED, ev_FIXED⟩ := exa_v hn12
  have E_FIXED := Exa.start ev_FIXED hn12
  have S_FIXED := Sta.start ev_FIXED (Or.inr ⟨(hw _ (List.mem_of_getElem? (i := 3) rfl)), (hw _ (List.mem_of_getElem? (i := 23) rfl))⟩)
  obtain ⟨w_ALIAS, ev_ALIAS⟩ := exa_v hn14
  have E_ALIAS := Exa.start ev_ALIAS hn14
  have S_ALIAS := Sta.start ev_ALIAS (Or.inr ⟨(hw _ (List.mem_of_getElem? (i := 3) rfl)), (hw _ (List.mem_of_getElem? (i := 25) rfl))⟩)
  obtain ⟨w_BOUNDED, ev_BOUNDED⟩ := exa_v hn16
  have E_BOUNDED := Exa.start ev_BOUNDED hn16
  have S_BOUNDED := Sta.start ev_BOUNDED (Or.inr ⟨(hw _ (List.mem_of_getElem? (i := 3) rfl)), (hw _ (List.mem_of_getElem? (i := 27) rfl))⟩)
  obtain ⟨w_SEQUENCE, ev_SEQUENCE⟩ := exa_v hn18
  have E_SEQUENCE := Exa.start ev_SEQUENCE hn18
  have S_SEQUENCE := Sta.start ev_SEQUENCE (Or.inr ⟨(hw _ (List.mem_of_getElem? (i := 3) rfl)), (hw _ (List.mem_of_getElem? (i := 29) rfl))⟩)
  have F_ordinal_EMPTY := own_fld ev_EMPTY hn2
  have F_ordinal_STRUCT := own_fld ev_STRUCT hn3
  have F_ordinal_UNION := own_fld ev_UNION hn5
  have F_ordinal_ENUM := own_fld ev_ENUM hn7
  have F_ordinal_VALUE := own_fld ev_VALUE hn9
  have F_ordinal_NAMED := own_fld ev_NAMED hn11
  have F_ordinal_FIXED := own_fld ev_FIXED hn13
  have F_ordinal_ALIAS := own_fld ev_ALIAS hn15
  have F_ordinal_BOUNDED := own_fld ev_BOUNDED hn17
  have F_ordinal_SEQUENCE := own_fld ev_SEQUENCE hn19
  have ne_EMPTY_STRUCT : ¬ (w_EMPTY = w_STRUCT) := Fld.ne F_ordinal_EMPTY F_ordinal_STRUCT (by decide)
  have ne_EMPTY_UNION : ¬ (w_EMPTY = w_UNION) := Fld.ne F_ordinal_EMPTY F_ordinal_UNION (by decide)
  have ne_EMPTY_ENUM : ¬ (w_EMPTY = w_ENUM) := Fld.ne F_ordinal_EMPTY F_ordinal_ENUM (by decide)
  have ne_EMPTY_VALUE : ¬ (w_EMPTY = w_VALUE) := Fld.ne F_ordinal_EMPTY F_ordinal_VALUE (by decide)
  have ne_BOUNDED_STRUCT : ¬ (w_BOUNDED = w_STRUCT) := Fld.ne F_ordinal_BOUNDED F_ordinal_STRUCT (by decide)
  have ne_BOUNDED_UNION : ¬ (w_BOUNDED = w_UNION) := Fld.ne F_ordinal_BOUNDED F_ordinal_UNION (by decide)
  have ne_BOUNDED_ENUM : ¬ (w_BOUNDED = w_ENUM) := Fld.ne F_ordinal_BOUNDED F_ordinal_ENUM (by decide)
  have ne_BOUNDED_VALUE : ¬ (w_BOUNDED = w_VALUE) := Fld.ne F_ordinal_BOUNDED F_ordinal_VALUE (by decide)
  have ne_FIXED_STRUCT : ¬ (w_FIXED = w_STRUCT) := Fld.ne F_ordinal_FIXED F_ordinal_STRUCT (by decide)
  have ne_FIXED_UNION : ¬ (w_FIXED = w_UNION) := Fld.ne F_ordinal_FIXED F_ordinal_UNION (by decide)
  have ne_FIXED_ENUM : ¬ (w_FIXED = w_ENUM) := Fld.ne F_ordinal_FIXED F_ordinal_ENUM (by decide)
  have ne_FIXED_VALUE : ¬ (w_FIXED = w_VALUE) := Fld.ne F_ordinal_FIXED F_ordinal_VALUE (by decide)
  have ne_NAMED_STRUCT : ¬ (w_NAMED = w_STRUCT) := Fld.ne F_ordinal_NAMED F_ordinal_STRUCT (by decide)
  have ne_NAMED_UNION : ¬ (w_NAMED = w_UNION) := Fld.ne F_ordinal_NAMED F_ordinal_UNION (by decide)
  have ne_NAMED_ENUM : ¬ (w_NAMED = w_ENUM) := Fld.ne F_ordinal_NAMED F_ordinal_ENUM (by decide)
  have ne_NAMED_VALUE : ¬ (w_NAMED = w_VALUE) := Fld.ne F_ordinal_NAMED F_ordinal_VALUE (by decide)
  have ne_SEQUENCE_STRUCT : ¬ (w_SEQUENCE = w_STRUCT) := Fld.ne F_ordinal_SEQUENCE F_ordinal_STRUCT (by decide)
  have ne_SEQUENCE_UNION : ¬ (w_SEQUENCE = w_UNION) := Fld.ne F_ordinal_SEQUENCE F_ordinal_UNION (by decide)
  have ne_SEQUENCE_ENUM : ¬ (w_SEQUENCE = w_ENUM) := Fld.ne F_ordinal_SEQUENCE F_ordinal_ENUM (by decide)
  have ne_SEQUENCE_VALUE : ¬ (w_SEQUENCE = w_VALUE) := Fld.ne F_ordinal_SEQUENCE F_ordinal_VALUE (by decide)
  have ne_ALIAS_STRUCT : ¬ (w_ALIAS = w_STRUCT) := Fld.ne F_ordinal_ALIAS F_ordinal_STRUCT (by decide)
  have ne_ALIAS_UNION : ¬ (w_ALIAS = w_UNION) := Fld.ne F_ordinal_ALIAS F_ordinal_UNION (by decide)
  have ne_ALIAS_ENUM : ¬ (w_ALIAS = w_ENUM) := Fld.ne F_ordinal_ALIAS F_ordinal_ENUM (by decide)
  have ne_ALIAS_VALUE : ¬ (w_ALIAS = w_VALUE) := Fld.ne F_ordinal_ALIAS F_ordinal_VALUE (by decide)
  obtain ⟨n, o, h1, h2, h3, _, L, rfl, ⟨rfl, N⟩, hq⟩ := rm0 l s _ hw tables_1 i0 i1 w_EMPTY w_BOUNDED w_FIXED w_NAMED w_STRUCT w_UNION w_ENUM w_SEQUENCE w_ALIAS w_VALUE s.heap s.heap.size (Nat.le_refl _) S_EMPTY S_BOUNDED S_FIXED S_NAMED S_STRUCT S_UNION S_ENUM S_SEQUENCE S_ALIAS S_VALUE E_EMPTY E_BOUNDED E_FIXED E_NAMED E_STRUCT E_UNION E_ENUM E_SEQUENCE E_ALIAS E_VALUE ne_EMPTY_STRUCT ne_EMPTY_UNION ne_EMPTY_ENUM ne_EMPTY_VALUE ne_BOUNDED_STRUCT ne_BOUNDED_UNION ne_BOUNDED_ENUM ne_BOUNDED_VALUE ne_FIXED_STRUCT ne_FIXED_UNION ne_FIXED_ENUM ne_FIXED_VALUE ne_NAMED_STRUCT ne_NAMED_UNION ne_NAMED_ENUM ne_NAMED_VALUE ne_SEQUENCE_STRUCT ne_SEQUENCE_UNION ne_SEQUENCE_ENUM ne_SEQUENCE_VALUE ne_ALIAS_STRUCT ne_ALIAS_UNION ne_ALIAS_ENUM ne_ALIAS_VALUE p e ha hc hk s m _ below hf ((Spec.applies_iff_loose hf).mp happ).1 ⟨rfl, State.Warmed39.refl s, rfl⟩ trivial
  refine ⟨n, _, h1, h2, h3, hpost _ _ _ _ _ _ ⟨Cond.after_iff.mpr rfl, Cond.after_iff.mpr (eq_i res_at (Term.int_eval (1)) rfl), trivial⟩ ⟨hq.1, hq.2.1, (hq.2.2.sift fun y hy => Or.inr (N y hy)).mono (by decide) (by decide)⟩⟩
theorem main_1_1 : Claimed_1_1 := comes_1 fun _ _ _ _ _ _ h hF => ⟨h.1, hF⟩
theorem main_1_2 : Claimed_1_2 := comes_1 fun _ _ _ _ _ _ h hF => ⟨h.2.1, hF⟩
end Jvm.Pilot.@@N@@
namespace Jvm.Pilot.@@N@@
open Jvm Jvm.ClassFile Sem Op Lib Jvm.Free Jvm.Stand Jvm.Pilot.@@N@@.Jvm.D
/-! MADE BY PROGRAM (witnessworld.py) out of the Statement's table words and the real class files: 12 classes; the members and pool entries that the words name. The judged class is class 1, her method 1. -/
namespace start1
open Jvm.ClassFile
def u (s : String) : CpInfo := .utf8 (stringToUtf16 s)
/-- a pool by its gaps: so many unusable entries, then the entry; so many at the end -/
def gap : Nat → List CpInfo → List CpInfo
  | 0, r => r
  | n + 1, r => .unusable :: gap n r
def poolList (es : List (Nat × CpInfo)) (last : Nat) : List CpInfo := es.foldr (fun e r => gap e.1 (e.2 :: r)) (gap last [])
def pool (es : List (Nat × CpInfo)) (last : Nat) : Array CpInfo := ⟨poolList es last⟩
def fileOf (pool : Array CpInfo) (this : Nat) (attrs : Array Attribute := #[]) (ms : Array MethodInfo := #[]) (fl : Nat := 33) (sup : Nat := 0) (ifs : Array Nat := #[]) (fds : Array FieldInfo := #[]) : ClassFile where
  minorVersion := 0
  majorVersion := 65
  constantPool := pool
  accessFlags := fl
  thisClass := this
  superClass := sup
  interfaces := ifs
  fields := fds
  methods := ms
  attributes := attrs
def plain (name : String) (sup : Option ClassId) : Class where
  name := name
  kind := .ordinary
  loader := none
  accessFlags := 33
  super := sup
  interfaces := #[]
  cf := none
  fields := #[]
  methods := #[]
  instanceTypes := #[]
  staticTypes := #[]
  resolved := #[]
  callSites := []
  init := .initialized
  statics := none
  mirror := none

def pool0 : Array CpInfo := pool [(5, u "<init>"), (0, u "()V"), (1, .class_ 10), (1, u "java/lang/Object")] 113

def k0m0 : Method := { name := "<init>", desc := "()V", sig := { parameters := [], returnType := none }, accessFlags := 1, code := none }
/-- java/lang/Object -/
def k0 : Class := { plain "java/lang/Object" none with
  accessFlags := 33
  interfaces := #[]
  cf := some (fileOf pool0 8 #[] #[{ accessFlags := 1, nameIndex := 5, descriptorIndex := 6, attributes := #[] }] 33 0 #[] #[])
  fields := #[]
  methods := #[k0m0]
  instanceTypes := #[]
  staticTypes := #[]
  resolved := Array.replicate 124 none
  statics := none }

def pool1 : Array CpInfo := pool [(2, .class_ 4), (1, u "java/lang/Object"), (0, u "<init>"), (0, u "()V"), (0, .integer 2147483647), (0, .methodref 9 10), (0, .class_ 11), (0, .nameAndType 12 13), (0, u "com/example/orbweave/orbweave/orb/TypeCodeShape"), (0, u "of"), (0, u "(I)Lcom/example/orbweave/orbweave/orb/TypeCodeShape;"), (2, .methodref 9 17), (0, .nameAndType 18 19), (0, u "hasMembers"), (0, u "()Z"), (0, .class_ 21), (0, u "com/example/orbweave/orbweave/orb/TypeCodeShapeHasMembersPinLaw"), (2, u "law"), (0, u "(II)Z")] 3

def k1m0 : Method := { name := "<init>", desc := "()V", sig := { parameters := [], returnType := none }, accessFlags := 2, code := none }
def k1c1 : Code := { maxStack := 2, maxLocals := 5, code := code, exceptionTable := #[], attributes := #[] }
def k1m1 : Method := { name := "law", desc := "(II)Z", sig := { parameters := [.int, .int], returnType := some .boolean }, accessFlags := 9, code := some k1c1 }
/-- com/example/orbweave/orbweave/orb/TypeCodeShapeHasMembersPinLaw -/
def k1 : Class := { plain "com/example/orbweave/orbweave/orb/TypeCodeShapeHasMembersPinLaw" (some 0) with
  accessFlags := 49
  interfaces := #[]
  cf := some (fileOf pool1 20 #[] #[{ accessFlags := 2, nameIndex := 5, descriptorIndex := 6, attributes := #[] }, { accessFlags := 9, nameIndex := 24, descriptorIndex := 25, attributes := #[] }] 49 2 #[] #[])
  fields := #[]
  methods := #[k1m0, k1m1]
  instanceTypes := #[]
  staticTypes := #[]
  resolved := Array.replicate 29 none
  statics := none }

def pool2 : Array CpInfo := pool [(1, .class_ 2), (0, u "java/lang/constant/Constable"), (0, .class_ 4), (0, u "java/lang/Object")] 6

/-- java/lang/constant/Constable -/
def k2 : Class := { plain "java/lang/constant/Constable" (some 0) with
  accessFlags := 1537
  interfaces := #[]
  cf := some (fileOf pool2 1 #[] #[] 1537 3 #[] #[])
  fields := #[]
  methods := #[]
  instanceTypes := #[]
  staticTypes := #[]
  resolved := Array.replicate 11 none
  statics := none }

def pool3 : Array CpInfo := pool [(1, .class_ 2), (0, u "java/lang/Comparable"), (0, .class_ 4), (0, u "java/lang/Object")] 7

/-- java/lang/Comparable -/
def k3 : Class := { plain "java/lang/Comparable" (some 0) with
  accessFlags := 1537
  interfaces := #[]
  cf := some (fileOf pool3 1 #[] #[] 1537 3 #[] #[])
  fields := #[]
  methods := #[]
  instanceTypes := #[]
  staticTypes := #[]
  resolved := Array.replicate 12 none
  statics := none }

def pool4 : Array CpInfo := pool [(1, .class_ 2), (0, u "java/io/Serializable"), (0, .class_ 4), (0, u "java/lang/Object")] 2

/-- java/io/Serializable -/
def k4 : Class := { plain "java/io/Serializable" (some 0) with
  accessFlags := 1537
  interfaces := #[]
  cf := some (fileOf pool4 1 #[] #[] 1537 3 #[] #[])
  fields := #[]
  methods := #[]
  instanceTypes := #[]
  staticTypes := #[]
  resolved := Array.replicate 7 none
  statics := none }

def pool5 : Array CpInfo := pool [(2, .class_ 4), (1, u "java/lang/Enum"), (0, u "name"), (0, u "Ljava/lang/String;"), (2, u "ordinal"), (0, u "I"), (1, .class_ 14), (1, u "java/lang/Object"), (4, u "hash"), (86, .class_ 108), (1, u "java/lang/Enum$EnumDesc"), (2, .class_ 112), (0, u "java/lang/constant/Constable"), (0, .class_ 114), (0, u "java/lang/Comparable"), (0, .class_ 116), (0, u "java/io/Serializable")] 87

/-- java/lang/Enum -/
def k5 : Class := { plain "java/lang/Enum" (some 0) with
  accessFlags := 1057
  interfaces := #[2, 3, 4]
  cf := some (fileOf pool5 2 #[.nestMembers #[106]] #[] 1057 12 #[111, 113, 115] #[{ accessFlags := 18, nameIndex := 5, descriptorIndex := 6, attributes := #[] }, { accessFlags := 18, nameIndex := 9, descriptorIndex := 10, attributes := #[] }, { accessFlags := 2, nameIndex := 19, descriptorIndex := 10, attributes := #[] }])
  fields := #[{ name := "name", type := (.object "java/lang/String"), accessFlags := 18, slot := 0, constantValue := 0 }, { name := "ordinal", type := .int, accessFlags := 18, slot := 1, constantValue := 0 }, { name := "hash", type := .int, accessFlags := 2, slot := 2, constantValue := 0 }]
  methods := #[]
  instanceTypes := #[(.object "java/lang/String"), .int, .int]
  staticTypes := #[]
  resolved := Array.replicate 204 none
  statics := none }

def pool6 : Array CpInfo := pool [(3, .class_ 4), (0, u "com/example/orbweave/orbweave/orb/TypeCodeShape"), (0, .fieldref 3 6), (0, .nameAndType 7 8), (0, u "EMPTY"), (0, u "Lcom/example/orbweave/orbweave/orb/TypeCodeShape;"), (0, .fieldref 3 10), (0, .nameAndType 11 8), (0, u "BOUNDED"), (0, .fieldref 3 13), (0, .nameAndType 14 8), (0, u "FIXED"), (0, .fieldref 3 16), (0, .nameAndType 17 8), (0, u "NAMED"), (0, .fieldref 3 19), (0, .nameAndType 20 8), (0, u "STRUCT"), (0, .fieldref 3 22), (0, .nameAndType 23 8), (0, u "UNION"), (0, .fieldref 3 25), (0, .nameAndType 26 8), (0, u "ENUM"), (0, .fieldref 3 28), (0, .nameAndType 29 8), (0, u "SEQUENCE"), (0, .fieldref 3 31), (0, .nameAndType 32 8), (0, u "ALIAS"), (0, .fieldref 3 34), (0, .nameAndType 35 8), (0, u "VALUE"), (2, u "$VALUES"), (0, u "[Lcom/example/orbweave/orbweave/orb/TypeCodeShape;"), (6, .class_ 48), (1, u "java/lang/Enum"), (12, u "of"), (0, u "(I)Lcom/example/orbweave/orbweave/orb/TypeCodeShape;"), (8, u "()Z"), (15, u "KINDS"), (0, u "I"), (14, u "hasMembers")] 7

def k6c0 : Code := { maxStack := 1, maxLocals := 1, code := prog_124_method_4_code, exceptionTable := #[], attributes := #[] }
def k6m0 : Method := { name := "of", desc := "(I)Lcom/example/orbweave/orbweave/orb/TypeCodeShape;", sig := { parameters := [.int], returnType := some (.object "com/example/orbweave/orbweave/orb/TypeCodeShape") }, accessFlags := 8, code := some k6c0 }
def k6c1 : Code := { maxStack := 2, maxLocals := 1, code := prog_124_method_9_code, exceptionTable := #[], attributes := #[] }
def k6m1 : Method := { name := "hasMembers", desc := "()Z", sig := { parameters := [], returnType := some .boolean }, accessFlags := 0, code := some k6c1 }
/-- com/example/orbweave/orbweave/orb/TypeCodeShape -/
def k6 : Class := { plain "com/example/orbweave/orbweave/orb/TypeCodeShape" (some 5) with
  accessFlags := 16432
  interfaces := #[]
  cf := some (fileOf pool6 3 #[] #[{ accessFlags := 8, nameIndex := 61, descriptorIndex := 62, attributes := #[] }, { accessFlags := 0, nameIndex := 103, descriptorIndex := 71, attributes := #[] }] 16432 46 #[] #[{ accessFlags := 16409, nameIndex := 7, descriptorIndex := 8, attributes := #[] }, { accessFlags := 16409, nameIndex := 11, descriptorIndex := 8, attributes := #[] }, { accessFlags := 16409, nameIndex := 14, descriptorIndex := 8, attributes := #[] }, { accessFlags := 16409, nameIndex := 17, descriptorIndex := 8, attributes := #[] }, { accessFlags := 16409, nameIndex := 20, descriptorIndex := 8, attributes := #[] }, { accessFlags := 16409, nameIndex := 23, descriptorIndex := 8, attributes := #[] }, { accessFlags := 16409, nameIndex := 26, descriptorIndex := 8, attributes := #[] }, { accessFlags := 16409, nameIndex := 29, descriptorIndex := 8, attributes := #[] }, { accessFlags := 16409, nameIndex := 32, descriptorIndex := 8, attributes := #[] }, { accessFlags := 16409, nameIndex := 35, descriptorIndex := 8, attributes := #[] }, { accessFlags := 26, nameIndex := 87, descriptorIndex := 88, attributes := #[] }, { accessFlags := 4122, nameIndex := 38, descriptorIndex := 39, attributes := #[] }])
  fields := #[{ name := "EMPTY", type := (.object "com/example/orbweave/orbweave/orb/TypeCodeShape"), accessFlags := 16409, slot := 0, constantValue := 0 }, { name := "BOUNDED", type := (.object "com/example/orbweave/orbweave/orb/TypeCodeShape"), accessFlags := 16409, slot := 1, constantValue := 0 }, { name := "FIXED", type := (.object "com/example/orbweave/orbweave/orb/TypeCodeShape"), accessFlags := 16409, slot := 2, constantValue := 0 }, { name := "NAMED", type := (.object "com/example/orbweave/orbweave/orb/TypeCodeShape"), accessFlags := 16409, slot := 3, constantValue := 0 }, { name := "STRUCT", type := (.object "com/example/orbweave/orbweave/orb/TypeCodeShape"), accessFlags := 16409, slot := 4, constantValue := 0 }, { name := "UNION", type := (.object "com/example/orbweave/orbweave/orb/TypeCodeShape"), accessFlags := 16409, slot := 5, constantValue := 0 }, { name := "ENUM", type := (.object "com/example/orbweave/orbweave/orb/TypeCodeShape"), accessFlags := 16409, slot := 6, constantValue := 0 }, { name := "SEQUENCE", type := (.object "com/example/orbweave/orbweave/orb/TypeCodeShape"), accessFlags := 16409, slot := 7, constantValue := 0 }, { name := "ALIAS", type := (.object "com/example/orbweave/orbweave/orb/TypeCodeShape"), accessFlags := 16409, slot := 8, constantValue := 0 }, { name := "VALUE", type := (.object "com/example/orbweave/orbweave/orb/TypeCodeShape"), accessFlags := 16409, slot := 9, constantValue := 0 }, { name := "KINDS", type := .int, accessFlags := 26, slot := 10, constantValue := 0 }, { name := "$VALUES", type := (.array (.object "com/example/orbweave/orbweave/orb/TypeCodeShape")), accessFlags := 4122, slot := 11, constantValue := 0 }]
  methods := #[k6m0, k6m1]
  instanceTypes := #[(.object "java/lang/String"), .int, .int]
  staticTypes := #[(.object "com/example/orbweave/orbweave/orb/TypeCodeShape"), (.object "com/example/orbweave/orbweave/orb/TypeCodeShape"), (.object "com/example/orbweave/orbweave/orb/TypeCodeShape"), (.object "com/example/orbweave/orbweave/orb/TypeCodeShape"), (.object "com/example/orbweave/orbweave/orb/TypeCodeShape"), (.object "com/example/orbweave/orbweave/orb/TypeCodeShape"), (.object "com/example/orbweave/orbweave/orb/TypeCodeShape"), (.object "com/example/orbweave/orbweave/orb/TypeCodeShape"), (.object "com/example/orbweave/orbweave/orb/TypeCodeShape"), (.object "com/example/orbweave/orbweave/orb/TypeCodeShape"), .int, (.array (.object "com/example/orbweave/orbweave/orb/TypeCodeShape"))]
  resolved := Array.replicate 111 none
  statics := some 0 }

def pool7 : Array CpInfo := pool [(1, u "java/lang/Cloneable"), (0, .class_ 1), (0, u "java/lang/Object"), (0, .class_ 3)] 3

/-- java/lang/Cloneable -/
def k7 : Class := { plain "java/lang/Cloneable" (some 0) with
  accessFlags := 1537
  interfaces := #[]
  cf := some (fileOf pool7 2 #[] #[] 1537 4 #[] #[])
  fields := #[]
  methods := #[]
  instanceTypes := #[]
  staticTypes := #[]
  resolved := Array.replicate 8 none
  statics := none }

/-- the primitive byte -/
def k8 : Class := { plain "byte" none with kind := .primitive 'B', accessFlags := 0x411 }
/-- [B -/
def k9 : Class := { plain "[B" (some 0) with kind := .array 8 .byte, interfaces := #[7, 4], accessFlags := 1041 }

/-- the primitive int -/
def k10 : Class := { plain "int" none with kind := .primitive 'I', accessFlags := 0x411 }
/-- [I -/
def k11 : Class := { plain "[I" (some 0) with kind := .array 10 .int, interfaces := #[7, 4], accessFlags := 1041 }

def heap : Heap := #[{ cls := 6, slots := #[.ref 1, .ref 2, .ref 3, .ref 4, .ref 5, .ref 6, .ref 7, .ref 8, .ref 9, .ref 10, .int 0, .null], vm := .statics 6 },
  { cls := 6, slots := #[.null, .int 0, .int 0], vm := .none },
  { cls := 6, slots := #[.null, .int 1, .int 0], vm := .none },
  { cls := 6, slots := #[.null, .int 2, .int 0], vm := .none },
  { cls := 6, slots := #[.null, .int 3, .int 0], vm := .none },
  { cls := 6, slots := #[.null, .int 4, .int 0], vm := .none },
  { cls := 6, slots := #[.null, .int 5, .int 0], vm := .none },
  { cls := 6, slots := #[.null, .int 6, .int 0], vm := .none },
  { cls := 6, slots := #[.null, .int 7, .int 0], vm := .none },
  { cls := 6, slots := #[.null, .int 8, .int 0], vm := .none },
  { cls := 6, slots := #[.null, .int 9, .int 0], vm := .none }]
def classes : Array Class := #[k0, k1, k2, k3, k4, k5, k6, k7, k8, k9, k10, k11]
def interned : List (Array UInt16 × Addr) := []
def slotsUsed : Nat := 42
def theMethod : MethodId := ⟨1, 1⟩
def args0 : Array Value := #[.int 5, .int 0]
def aboutOver (below : List Frame) : State where
  vm := { classes := classes, interned := interned.toArray }
  heap := heap
  slotsUsed := slotsUsed
  threads := #[{ frames := .invoking theMethod args0 :: below }]
def below0 : List Frame := [.native { method := ⟨0, 0⟩, args := #[] }]
def about1 : State := aboutOver below0
def p0 : Program := .bare "" "" ""
def e0 : Env := launch0.env 0 0 0
theorem w_frames : about1.frames = Frame.invoking theMethod args0 :: below0 := rfl
set_option maxRecDepth 65536 in
theorem w_args : argsFit about1.vm theMethod args0 = true := by decide +kernel
set_option maxRecDepth 65536 in
theorem w_heap : heapFits about1 = true := by decide +kernel
set_option maxRecDepth 65536 in
theorem w_runnable : about1.curStatus? = some .runnable := by decide +kernel
set_option maxRecDepth 65536 in
theorem w_alone : about1.alone = true := by decide +kernel
set_option maxRecDepth 65536 in
theorem w_named : about1.methodNamed? x = some theMethod := by decide +kernel
set_option maxRecDepth 65536 in
theorem w_hears : about1.hears theMethod below0 = true := by decide +kernel
set_option maxRecDepth 65536 in
theorem w_ripe : about1.ripe theMethod args0 below0 = true := by decide +kernel
theorem w_running : about1.status = .running := rfl
set_option maxRecDepth 65536 in
theorem w_room : about1.hasRoom e0.platform room_1 = true :=
  launch0.hasRoom_least _ room_1 (by decide +kernel) (by decide +kernel) (by decide +kernel) (by decide +kernel) (by decide +kernel) (by decide +kernel)
theorem allAtoms_all (ts : List Jvm.Cond) (a : Array Jvm.Value) (st : Jvm.State) : (allAtoms ts).before a st = ts.all (fun c => c.before a st) := by
  induction ts with
  | nil => rfl
  | cons c t ih =>
    show (Jvm.Cond.and c (allAtoms t)).before a st = _
    rw [Jvm.Cond.before_and, ih, List.all_cons]
def words1 : List Jvm.Cond := Jvm.Cond.code x code maxLocals ret :: tables_1
/-- a 'code' word, met by the world's own term for the bytes: nothing is compared byte by byte -/
theorem code_word {y : MethodName} {bytes : ByteArray} {mx : Nat} {rt : Option FieldType} {a : Array Value} {s : State} {m : MethodId} {meth : Method} {c : Code} (h1 : s.methodNamed? y = some m) (h2 : s.vm.method? m = some meth) (h3 : meth.code = some c) (h4 : c.code = bytes)
    (h5 : (c.maxLocals == mx && c.exceptionTable.isEmpty && decide (c.maxStack ≤ mostOperands) && decide (meth.sig.returnType = rt) && !meth.locks && decide (parseMethodDescriptor y.desc = some meth.sig)) = true) : (Jvm.Cond.code y bytes mx rt).before a s = true := by
  simp only [Bool.and_eq_true, beq_iff_eq, Bool.not_eq_true', decide_eq_true_eq] at h5
  obtain ⟨⟨⟨⟨⟨g1, g2⟩, g3⟩, g4⟩, g5⟩, g6⟩ := h5
  simp [Cond.before, Cond.holds, Cond.value, h1, h2, h3, h4, g1, g2, g3, g4, g5, g6]
def isCode : Jvm.Cond → Bool
  | .code _ _ _ _ => true
  | _ => false
theorem all_split {L : List Jvm.Cond} {P : Jvm.Cond → Bool} (h1 : L.all (fun c => isCode c || P c) = true) (h2 : ∀ c ∈ L.filter isCode, P c = true) : L.all P = true := by
  refine List.all_eq_true.mpr fun c hc => ?_
  have h := List.all_eq_true.mp h1 c hc
  rcases Bool.eq_false_or_eq_true (isCode c) with hi | hi
  · exact h2 c (List.mem_filter.mpr ⟨hc, hi⟩)
  · simpa [hi] using h
set_option maxRecDepth 65536 in
theorem w_c0 : (Jvm.Cond.code x code maxLocals ret).before args0 about1 = true := code_word (m := ⟨1, 1⟩) (meth := k1m1) (c := k1c1) (by decide +kernel) rfl rfl rfl (by decide +kernel)
set_option maxRecDepth 65536 in
theorem w_c1 : (Jvm.Cond.code ({ cls := "com/example/orbweave/orbweave/orb/TypeCodeShape", name := "of", desc := "(I)Lcom/example/orbweave/orbweave/orb/TypeCodeShape;" } : Jvm.MethodName) prog_124_method_4_code (1 : Nat) (Option.some (Jvm.ClassFile.FieldType.object "com/example/orbweave/orbweave/orb/TypeCodeShape"))).before args0 about1 = true := code_word (m := ⟨6, 0⟩) (meth := k6m0) (c := k6c0) (by decide +kernel) rfl rfl rfl (by decide +kernel)
set_option maxRecDepth 65536 in
theorem w_c2 : (Jvm.Cond.code ({ cls := "com/example/orbweave/orbweave/orb/TypeCodeShape", name := "hasMembers", desc := "()Z" } : Jvm.MethodName) prog_124_method_9_code (1 : Nat) (Option.some Jvm.ClassFile.FieldType.boolean)).before args0 about1 = true := code_word (m := ⟨6, 1⟩) (meth := k6m1) (c := k6c1) (by decide +kernel) rfl rfl rfl (by decide +kernel)
def codes1 : List Jvm.Cond := [Jvm.Cond.code x code maxLocals ret, Jvm.Cond.code ({ cls := "com/example/orbweave/orbweave/orb/TypeCodeShape", name := "of", desc := "(I)Lcom/example/orbweave/orbweave/orb/TypeCodeShape;" } : Jvm.MethodName) prog_124_method_4_code (1 : Nat) (Option.some (Jvm.ClassFile.FieldType.object "com/example/orbweave/orbweave/orb/TypeCodeShape")), Jvm.Cond.code ({ cls := "com/example/orbweave/orbweave/orb/TypeCodeShape", name := "hasMembers", desc := "()Z" } : Jvm.MethodName) prog_124_method_9_code (1 : Nat) (Option.some Jvm.ClassFile.FieldType.boolean)]
set_option maxRecDepth 65536 in
theorem codes_eq : words1.filter isCode = codes1 := rfl
theorem w_codes : ∀ c ∈ words1.filter isCode, c.before args0 about1 = true := by
  rw [codes_eq]
  intro c hc
  simp only [codes1, List.mem_cons, List.not_mem_nil, or_false] at hc
  rcases hc with rfl | rfl | rfl
  · exact w_c0
  · exact w_c1
  · exact w_c2
set_option maxRecDepth 65536 in
theorem w_t1 : (words1.take 24).all (fun c => isCode c || c.before args0 about1) = true := by decide +kernel
set_option maxRecDepth 65536 in
theorem w_t2 : (words1.drop 24).all (fun c => isCode c || c.before args0 about1) = true := by decide +kernel
theorem w_tables : (allAtoms (Jvm.Cond.code x code maxLocals ret :: tables_1)).before args0 about1 = true := by
  rw [allAtoms_all]
  show words1.all (fun c => c.before args0 about1) = true
  refine all_split ?_ w_codes
  rw [← List.take_append_drop 24 words1, List.all_append, w_t1, w_t2]
  rfl
set_option maxRecDepth 65536 in
theorem w_case : (Jvm.Cond.and given_1 narrow_1).before args0 about1 = true := by decide +kernel
theorem w_applies : (headSpec (Jvm.Cond.code x code maxLocals ret :: tables_1) room_1).applies x e0.platform about1 = true :=
  (Spec.applies_iff w_frames).mpr ⟨w_running, w_runnable, w_alone, w_named, w_hears, w_ripe, w_room, w_tables⟩
theorem atStart : AtStart classFile x code maxLocals ret World_1 tables_1 room_1 Calls_1 rest_1 Pre_1 launch0 p0 e0 about1 theMethod args0 below0 :=
  ⟨lists_1, trivial, launch0.admits_env _ _ _, launch0.least_env, fairChoices_fair.cas, fairChoices_fair.clock, w_frames, w_args, w_heap, w_applies, trivial, trivial, w_case⟩
end start1
theorem witness_1 : WitnessClaimed_1 := ⟨start1.p0, start1.e0, start1.about1, start1.theMethod, start1.args0, start1.below0, start1.atStart⟩
end Jvm.Pilot.@@N@@
