import JvmDerived
import JvmDerived.Pilot.@@N@@Statement
import JvmDerived.Pilot.@@N@@Code
set_option linter.unusedVariables false
set_option linter.unusedSimpArgs false
namespace Jvm.Pilot.@@N@@
open Jvm Jvm.ClassFile Sem Op Lib Jvm.Free Jvm.Stand Jvm.LawKit Jvm.RoadKit Bundle Jvm.Pilot.@@N@@.Jvm.D

/-- the run that stands at the frame f over T ends as Q says -/
def own_Go (p : Program) (e : Env) (below : List Frame) (s : State) (Q : Option Value → Heap → List Loc → Prop) (rc rs : Nat) (T : State) (f : JFrame) : Prop :=
  ∃ s₂ o, Steps p.tables e below (T.setTop f) s₂ ∧ s₂.status = .running ∧ Ended s₂ below o ∧ ∃ v L, o = .returned v ∧ Q v s₂.heap L ∧ FrameEnd s o s₂ L rc rs
theorem own_by {p : Program} {e : Env} {below : List Frame} {s : State} {Q : Option Value → Heap → List Loc → Prop} {rc rs : Nat} {T T' : State} {f f' : JFrame} (k : ∀ t, Steps p.tables e below (T'.setTop f') t → Steps p.tables e below (T.setTop f) t) (h : own_Go p e below s Q rc rs T' f') : own_Go p e below s Q rc rs T f := by
  obtain ⟨s₂, o, st, r⟩ := h
  exact ⟨s₂, o, k _ st, r⟩
theorem own_mk {p : Program} {e : Env} {below : List Frame} {s : State} {Q : Option Value → Heap → List Loc → Prop} {rc rs : Nat} {T : State} {f : JFrame} (h : ∃ s₂ o, Steps p.tables e below (T.setTop f) s₂ ∧ s₂.status = .running ∧ Ended s₂ below o ∧ ∃ v L, o = .returned v ∧ Q v s₂.heap L ∧ FrameEnd s o s₂ L rc rs) : own_Go p e below s Q rc rs T f := h
theorem own_open {p : Program} {e : Env} {below : List Frame} {s : State} {Q : Option Value → Heap → List Loc → Prop} {rc rs : Nat} {T : State} {f f0 : JFrame} (k : ∀ t, Steps p.tables e below (T.setTop f) t → Steps p.tables e below (T.setTop f0) t) (h : own_Go p e below s Q rc rs T f) : ∃ s₂ o, Steps p.tables e below (T.setTop f0) s₂ ∧ s₂.status = .running ∧ Ended s₂ below o ∧ ∃ v L, o = .returned v ∧ Q v s₂.heap L ∧ FrameEnd s o s₂ L rc rs := by
  obtain ⟨s₂, o, st, r⟩ := h
  exact ⟨s₂, o, k _ st, r⟩
theorem own_eqI {args : Array Value} {s : State} {a : Term} {k : Int32} (h : (Cond.eq a (.int k)).value args s none s [] = some true) : a.eval args s none [] s = some (.int k) := by
  obtain ⟨x, y, h1, h2, -, K⟩ := cmp_v (Or.inl h)
  have e : y = .int k := (Option.some.inj h2).symm
  subst e
  obtain ⟨z, rfl⟩ := K
  have q : z = k := by simpa [Cond.value, h1, h2] using h
  rw [h1, q]
theorem own_extt {h h' h'' : Heap} (E : Ext h h') (E' : Ext h' h'') : Ext h h'' := ⟨Nat.le_trans E.1 E'.1, fun a c q => E'.2 a c (E.2 a c q)⟩
theorem own_extw {h h' h'' : Heap} {a : Addr} {sl : Nat} {v : Value} (E : Ext h h') (W : Wr h' h'' a sl v) (g : h.size ≤ a) : Ext h h'' := by
  refine ⟨Nat.le_trans E.1 (Nat.le_of_eq W.size.symm), fun b c q => ?_⟩
  have ne : b ≠ a := Nat.ne_of_lt (Nat.lt_of_lt_of_le (Array.getElem?_eq_some_iff.mp q).1 g)
  obtain ⟨cell, -, -, -, rfl⟩ := W
  rw [Array.getElem?_setIfInBounds_ne (Ne.symm ne)]
  exact E.2 b c q
theorem own_eqL {args : Array Value} {s : State} {a : Term} {k : Int64} (h : (Cond.eq a (.long k)).value args s none s [] = some true) : a.eval args s none [] s = some (.long k) := by
  obtain ⟨x, y, h1, h2, -, K⟩ := cmp_v (Or.inl h)
  have e : y = .long k := (Option.some.inj h2).symm
  subst e
  obtain ⟨z, rfl⟩ := K
  have q : z = k := by simpa [Cond.value, h1, h2] using h
  rw [h1, q]
theorem own_eqR {args : Array Value} {s : State} {a b : Term} {r : Addr} (h : (Cond.eq a b).value args s none s [] = some true) (hb : b.eval args s none [] s = some (.ref r)) : a.eval args s none [] s = some (.ref r) := by
  obtain ⟨x, y, h1, h2, -, K⟩ := cmp_v (Or.inl h)
  cases hb.symm.trans h2
  rcases ref_cases K.2 with rfl | ⟨q, rfl⟩
  · simp [Cond.value, h1, h2] at h
  · have e : q = r := by simpa [Cond.value, h1, h2] using h
    rw [h1, e]
theorem own_cmp0 {x y : Int64} (h : x = y) : XT.cmpL x y = 0 := by subst h; unfold XT.cmpL; rw [if_neg (by simp), if_pos rfl]
theorem own_cmp1 {x y : Int64} (h : ¬ x = y) : ¬ XT.cmpL x y = 0 := by
  unfold XT.cmpL
  by_cases q : y < x
  · rw [if_pos q]; decide
  · rw [if_neg q, if_neg h]; decide
theorem own_fldL {args : Array Value} {s : State} {t : Term} {C n d : String} {x : Addr} {k : Int64} (ev : t.eval args s none [] s = some (.ref x)) (h : (Cond.eq (.field t C n d) (.long k)).value args s none s [] = some true) : Fld s s.heap x C n d (.long k) := Fld.start ((fld_at ev).symm.trans (own_eqL h))
theorem own_fld {args : Array Value} {s : State} {t : Term} {C n d : String} {x : Addr} {k : Int32} (ev : t.eval args s none [] s = some (.ref x)) (h : (Cond.eq (.field t C n d) (.int k)).value args s none s [] = some true) : Fld s s.heap x C n d (.int k) := Fld.start ((fld_at ev).symm.trans (own_eqI h))

theorem own_len {s : State} {args : Array Value} {t : Term} {a : Addr} {cl : Cell} {ty : FieldType} (Ar : Arr s s.heap a cl ty) (ev : t.eval args s none [] s = some (.ref a)) (h : (Term.length t).eval args s none [] s = some (.int 3)) : cl.slots.size = 3 := by
  have ha : s.arrayAt? a = some cl := Ar.fin (Vm.Alike.refl _)
  have q : cl.slots.size < 2 ^ 31 ∧ cl.slots.size.toInt32 = 3 := by simpa [Term.eval, ev, ha] using h
  have e := len_toInt q.1
  rw [q.2] at e
  have : (3 : Int32).toInt = 3 := rfl
  omega
theorem d1_0 : decode prog_6_method_6_code 0 = .ok (.aconst_null, 1) := by decide +kernel
theorem d1_1 : decode prog_6_method_6_code 1 = .ok (.astore_n 2, 1) := by decide +kernel
theorem d1_2 : decode prog_6_method_6_code 2 = .ok (.getstatic 44, 3) := by decide +kernel
theorem d1_5 : decode prog_6_method_6_code 5 = .ok (.astore_n 3, 1) := by decide +kernel
theorem d1_6 : decode prog_6_method_6_code 6 = .ok (.aload_n 3, 1) := by decide +kernel
theorem d1_7 : decode prog_6_method_6_code 7 = .ok (.arraylength, 1) := by decide +kernel
theorem d1_8 : decode prog_6_method_6_code 8 = .ok (.istore 4, 2) := by decide +kernel
theorem d1_10 : decode prog_6_method_6_code 10 = .ok (.iconst 0, 1) := by decide +kernel
theorem d1_11 : decode prog_6_method_6_code 11 = .ok (.istore 5, 2) := by decide +kernel
theorem d1_13 : decode prog_6_method_6_code 13 = .ok (.iload 5, 2) := by decide +kernel
theorem d1_15 : decode prog_6_method_6_code 15 = .ok (.iload 4, 2) := by decide +kernel
theorem d1_17 : decode prog_6_method_6_code 17 = .ok (.if_icmp .ge 28, 3) := by decide +kernel
theorem d1_20 : decode prog_6_method_6_code 20 = .ok (.aload_n 3, 1) := by decide +kernel
theorem d1_21 : decode prog_6_method_6_code 21 = .ok (.iload 5, 2) := by decide +kernel
theorem d1_23 : decode prog_6_method_6_code 23 = .ok (.aaload, 1) := by decide +kernel
theorem d1_24 : decode prog_6_method_6_code 24 = .ok (.astore 6, 2) := by decide +kernel
theorem d1_26 : decode prog_6_method_6_code 26 = .ok (.aload 6, 2) := by decide +kernel
theorem d1_28 : decode prog_6_method_6_code 28 = .ok (.getfield 32, 3) := by decide +kernel
theorem d1_31 : decode prog_6_method_6_code 31 = .ok (.lload_n 0, 1) := by decide +kernel
theorem d1_32 : decode prog_6_method_6_code 32 = .ok (.lcmp, 1) := by decide +kernel
theorem d1_33 : decode prog_6_method_6_code 33 = .ok (.ifCond .ne 6, 3) := by decide +kernel
theorem d1_36 : decode prog_6_method_6_code 36 = .ok (.aload 6, 2) := by decide +kernel
theorem d1_38 : decode prog_6_method_6_code 38 = .ok (.astore_n 2, 1) := by decide +kernel
theorem d1_39 : decode prog_6_method_6_code 39 = .ok (.iinc 5 1, 3) := by decide +kernel
theorem d1_42 : decode prog_6_method_6_code 42 = .ok (.goto (-29), 3) := by decide +kernel
theorem d1_45 : decode prog_6_method_6_code 45 = .ok (.aload_n 2, 1) := by decide +kernel
theorem d1_46 : decode prog_6_method_6_code 46 = .ok (.areturn, 1) := by decide +kernel
theorem own_pn1 : plainName "com/example/orbweave/orbweave/cdr/CodeSet" = true := by first | (simp [plainName, overriddenIn]; done) | decide +kernel
theorem own_ef1 (m : MethodId) (x0 : Int64) : entryFrame m #[(.long x0)] 7 = mkF m 0 #[.val (.long x0), .second, .unset, .unset, .unset, .unset, .unset] [] := by first | (simp [entryFrame, mkF, argsToLocals, Value.category, maxLocals]; done) | rfl
theorem own_pd1 : parseMethodDescriptor "(J)Lcom/example/orbweave/orbweave/cdr/CodeSet;" = some ⟨[.long], some (.object "com/example/orbweave/orbweave/cdr/CodeSet")⟩ := by decide +kernel
def Q1 (q1 : Int64) (w_ISO_8859_1 w_UTF_8 w_UTF_16 : Addr) (h0 : Heap) (n0 : Nat) (v : Option Value) (h : Heap) (L : List Loc) : Prop := v = some (if (65801 : Int64) = q1 then .ref w_UTF_16 else if (83951617 : Int64) = q1 then .ref w_UTF_8 else if (65537 : Int64) = q1 then .ref w_ISO_8859_1 else .null) ∧ Fr n0 L ∧ h = h0
set_option maxRecDepth 65536 in
set_option maxHeartbeats 40000000 in
theorem rm1 (l : Launch) (Z : State) (a0 : Array Value) (hw : ∀ d ∈ tables_1, d.before a0 Z = true) (ws : List Jvm.Cond) (q1 : Int64) (w_ISO_8859_1 w_UTF_8 w_UTF_16 w_VALUES : Addr) (h0 : Heap) (n0 : Nat) (Z0 : n0 ≤ h0.size) (S_VALUES : Sta Z h0 "com/example/orbweave/orbweave/cdr/CodeSet" "VALUES" "[Lcom/example/orbweave/orbweave/cdr/CodeSet;" (.ref w_VALUES)) (cl : Cell) (Ar : Arr Z h0 w_VALUES cl (.object "com/example/orbweave/orbweave/cdr/CodeSet")) (hlen : cl.slots.size = 3) (hat0 : cl.slots[(0 : Int32).toNatClampNeg]? = some (.ref w_ISO_8859_1)) (hat1 : cl.slots[(1 : Int32).toNatClampNeg]? = some (.ref w_UTF_8)) (hat2 : cl.slots[(2 : Int32).toNatClampNeg]? = some (.ref w_UTF_16)) (F_id_ISO_8859_1 : Fld Z h0 w_ISO_8859_1 "com/example/orbweave/orbweave/cdr/CodeSet" "id" "J" (.long (65537 : Int64))) (F_id_UTF_8 : Fld Z h0 w_UTF_8 "com/example/orbweave/orbweave/cdr/CodeSet" "id" "J" (.long (83951617 : Int64))) (F_id_UTF_16 : Fld Z h0 w_UTF_16 "com/example/orbweave/orbweave/cdr/CodeSet" "id" "J" (.long (65801 : Int64))) :
    MetFree l (⟨"com/example/orbweave/orbweave/cdr/CodeSet", "byId", "(J)Lcom/example/orbweave/orbweave/cdr/CodeSet;"⟩ : MethodName) (head1 (Jvm.Cond.code (⟨"com/example/orbweave/orbweave/cdr/CodeSet", "byId", "(J)Lcom/example/orbweave/orbweave/cdr/CodeSet;"⟩ : MethodName) prog_6_method_6_code 7 (Option.some (Jvm.ClassFile.FieldType.object "com/example/orbweave/orbweave/cdr/CodeSet")) :: ws) ({ frames := 0, cells := 0, slots := 0, locals := 0 } : Room)) (fun a U => a = #[(.long q1)] ∧ Z.Warmed39 U.vm ∧ U.heap = h0) (fun _ _ _ _ _ => True) (fun _ U o U' => ∃ v L, o = .returned v ∧ Q1 q1 w_ISO_8859_1 w_UTF_8 w_UTF_16 h0 n0 v U'.heap L ∧ FrameEnd U o U' L ({ frames := 0, cells := 0, slots := 0, locals := 0 } : Room).cells ({ frames := 0, cells := 0, slots := 0, locals := 0 } : Room).slots) := by
  refine MetFree.of_bodySF (plainFor_of_name own_pn1) hisR ?_
  intro p e s m args below meth c s₁ Bd hml0 hP hK
  obtain ⟨rfl, hZ, hh⟩ := hP
  have hx := Bd.exec
  have hby := Bd.bytes
  have hml : c.maxLocals = 7 := hml0
  have hown : s.vm.findClass "com/example/orbweave/orbweave/cdr/CodeSet" = some m.cls := findClass_of_methodNamed Bd.named
  have hnm := (name_of_methodNamed Bd.named Bd.method).1
  have X0 : Stand p l e ({ frames := 0, cells := 0, slots := 0, locals := 0 } : Room) s m #[(.long q1)] below meth c s₁ [] 0 0 := Stand.of_body Bd
  have e0 : s₁.heap = h0 := by rw [← hh, Bd.state]; rfl
  have N0 := Fr.nil n0
  refine own_open (f := (mkF m 0 #[.val (.long q1), .second, .unset, .unset, .unset, .unset, .unset] [])) (fun t k => castTop (own_ef1 m q1) k) ?_
  refine own_by (f' := (mkF m 1 #[.val (.long q1), .second, .unset, .unset, .unset, .unset, .unset] [.null])) (fun t h => XS.aconstNull X0.here hx rfl (hb hby d1_0) h) ?_
  refine own_by (f' := (mkF m 2 #[.val (.long q1), .second, .val .null, .unset, .unset, .unset, .unset] [])) (fun t h => XS.astoreN X0.here hx rfl (hb hby d1_1) rfl rfl (l' := #[.val (.long q1), .second, .val .null, .unset, .unset, .unset, .unset]) rfl h) ?_
  obtain ⟨T1, X1, e1, st1⟩ := getS2 X0 hx hZ hown (host := "") (Or.inl (hw _ (List.mem_of_getElem? (i := 9) rfl))) Via.refl e0 S_VALUES (g := (mkF m 2 #[.val (.long q1), .second, .val .null, .unset, .unset, .unset, .unset] [])) rfl (hb hby d1_2)
  refine own_by (f' := (mkF m 5 #[.val (.long q1), .second, .val .null, .unset, .unset, .unset, .unset] [(.ref w_VALUES)])) st1 ?_
  refine own_by (f' := (mkF m 6 #[.val (.long q1), .second, .val .null, .val (.ref w_VALUES), .unset, .unset, .unset] [])) (fun t h => XS.astoreN X1.here hx rfl (hb hby d1_5) rfl rfl (l' := #[.val (.long q1), .second, .val .null, .val (.ref w_VALUES), .unset, .unset, .unset]) rfl h) ?_
  refine own_by (f' := (mkF m 7 #[.val (.long q1), .second, .val .null, .val (.ref w_VALUES), .unset, .unset, .unset] [(.ref w_VALUES)])) (fun t h => XS.aloadN X1.here hx rfl (hb hby d1_6) rfl rfl h) ?_
  refine own_by (f' := (mkF m 8 #[.val (.long q1), .second, .val .null, .val (.ref w_VALUES), .unset, .unset, .unset] [(.int (3 : Int32))])) (fun t h => X1.arraylength hx (by rw [e1]; exact Ar.1) (State.isArrayOf_alike hZ.alike Ar.2.1) (g := (mkF m 7 #[.val (.long q1), .second, .val .null, .val (.ref w_VALUES), .unset, .unset, .unset] [(.ref w_VALUES)])) rfl rfl (hb hby d1_7) t (by rw [hlen]; exact h)) ?_
  refine own_by (f' := (mkF m 10 #[.val (.long q1), .second, .val .null, .val (.ref w_VALUES), .val (.int (3 : Int32)), .unset, .unset] [])) (fun t h => XS.istore X1.here hx rfl (hb hby d1_8) rfl (l' := #[.val (.long q1), .second, .val .null, .val (.ref w_VALUES), .val (.int (3 : Int32)), .unset, .unset]) rfl h) ?_
  refine own_by (f' := (mkF m 11 #[.val (.long q1), .second, .val .null, .val (.ref w_VALUES), .val (.int (3 : Int32)), .unset, .unset] [(.int (0 : Int32))])) (fun t h => XS.iconst X1.here hx rfl (hb hby d1_10) h) ?_
  refine own_by (f' := (mkF m 13 #[.val (.long q1), .second, .val .null, .val (.ref w_VALUES), .val (.int (3 : Int32)), .val (.int (0 : Int32)), .unset] [])) (fun t h => XS.istore X1.here hx rfl (hb hby d1_11) rfl (l' := #[.val (.long q1), .second, .val .null, .val (.ref w_VALUES), .val (.int (3 : Int32)), .val (.int (0 : Int32)), .unset]) rfl h) ?_
  refine own_by (f' := (mkF m 15 #[.val (.long q1), .second, .val .null, .val (.ref w_VALUES), .val (.int (3 : Int32)), .val (.int (0 : Int32)), .unset] [(.int (0 : Int32))])) (fun t h => XS.iload X1.here hx rfl (hb hby d1_13) rfl h) ?_
  refine own_by (f' := (mkF m 17 #[.val (.long q1), .second, .val .null, .val (.ref w_VALUES), .val (.int (3 : Int32)), .val (.int (0 : Int32)), .unset] [(.int (3 : Int32)), (.int (0 : Int32))])) (fun t h => XS.iload X1.here hx rfl (hb hby d1_15) rfl h) ?_
  refine own_by (f' := (mkF m 20 #[.val (.long q1), .second, .val .null, .val (.ref w_VALUES), .val (.int (3 : Int32)), .val (.int (0 : Int32)), .unset] [])) (fun t h => XS.icmpNo X1.here hx rfl (hb hby d1_17) rfl (by decide) h) ?_
  refine own_by (f' := (mkF m 21 #[.val (.long q1), .second, .val .null, .val (.ref w_VALUES), .val (.int (3 : Int32)), .val (.int (0 : Int32)), .unset] [(.ref w_VALUES)])) (fun t h => XS.aloadN X1.here hx rfl (hb hby d1_20) rfl rfl h) ?_
  refine own_by (f' := (mkF m 23 #[.val (.long q1), .second, .val .null, .val (.ref w_VALUES), .val (.int (3 : Int32)), .val (.int (0 : Int32)), .unset] [(.int (0 : Int32)), (.ref w_VALUES)])) (fun t h => XS.iload X1.here hx rfl (hb hby d1_21) rfl h) ?_
  refine own_by (f' := (mkF m 24 #[.val (.long q1), .second, .val .null, .val (.ref w_VALUES), .val (.int (3 : Int32)), .val (.int (0 : Int32)), .unset] [(.ref w_ISO_8859_1)])) (fun t h => X1.aaload hx (j := (0 : Int32)) (v := (.ref w_ISO_8859_1)) (by rw [e1]; exact Ar.1) (State.isArrayOf_alike hZ.alike Ar.2.1) rfl Ar.2.2 (by rw [hlen]; decide) hat0 (g := (mkF m 23 #[.val (.long q1), .second, .val .null, .val (.ref w_VALUES), .val (.int (3 : Int32)), .val (.int (0 : Int32)), .unset] [(.int (0 : Int32)), (.ref w_VALUES)])) rfl rfl (hb hby d1_23) t h) ?_
  refine own_by (f' := (mkF m 26 #[.val (.long q1), .second, .val .null, .val (.ref w_VALUES), .val (.int (3 : Int32)), .val (.int (0 : Int32)), .val (.ref w_ISO_8859_1)] [])) (fun t h => XS.astore X1.here hx rfl (hb hby d1_24) rfl rfl (l' := #[.val (.long q1), .second, .val .null, .val (.ref w_VALUES), .val (.int (3 : Int32)), .val (.int (0 : Int32)), .val (.ref w_ISO_8859_1)]) rfl h) ?_
  refine own_by (f' := (mkF m 28 #[.val (.long q1), .second, .val .null, .val (.ref w_VALUES), .val (.int (3 : Int32)), .val (.int (0 : Int32)), .val (.ref w_ISO_8859_1)] [(.ref w_ISO_8859_1)])) (fun t h => XS.aload X1.here hx rfl (hb hby d1_26) rfl rfl h) ?_
  obtain ⟨T2, X2, e2, st2⟩ := getF X1 hx hZ hown (host := "") (Or.inl (hw _ (List.mem_of_getElem? (i := 12) rfl))) Via.refl e1 F_id_ISO_8859_1 (g := (mkF m 28 #[.val (.long q1), .second, .val .null, .val (.ref w_VALUES), .val (.int (3 : Int32)), .val (.int (0 : Int32)), .val (.ref w_ISO_8859_1)] [(.ref w_ISO_8859_1)])) rfl rfl (hb hby d1_28)
  refine own_by (f' := (mkF m 31 #[.val (.long q1), .second, .val .null, .val (.ref w_VALUES), .val (.int (3 : Int32)), .val (.int (0 : Int32)), .val (.ref w_ISO_8859_1)] [(.long (65537 : Int64))])) st2 ?_
  refine own_by (f' := (mkF m 32 #[.val (.long q1), .second, .val .null, .val (.ref w_VALUES), .val (.int (3 : Int32)), .val (.int (0 : Int32)), .val (.ref w_ISO_8859_1)] [(.long q1), (.long (65537 : Int64))])) (fun t h => XT.lloadN X2.here hx rfl (hb hby d1_31) rfl h) ?_
  refine own_by (f' := (mkF m 33 #[.val (.long q1), .second, .val .null, .val (.ref w_VALUES), .val (.int (3 : Int32)), .val (.int (0 : Int32)), .val (.ref w_ISO_8859_1)] [(.int (XT.cmpL (65537 : Int64) q1))])) (fun t h => XT.lcmp X2.here hx rfl (hb hby d1_32) rfl h) ?_
  by_cases hc33_3 : (65537 : Int64) = q1
  · refine own_by (f' := (mkF m 36 #[.val (.long q1), .second, .val .null, .val (.ref w_VALUES), .val (.int (3 : Int32)), .val (.int (0 : Int32)), .val (.ref w_ISO_8859_1)] [])) (fun t h => XS.ifNo X2.here hx rfl (hb hby d1_33) rfl ((if0 _ _).trans (teq (own_cmp0 hc33_3)).2) h) ?_
    refine own_by (f' := (mkF m 38 #[.val (.long q1), .second, .val .null, .val (.ref w_VALUES), .val (.int (3 : Int32)), .val (.int (0 : Int32)), .val (.ref w_ISO_8859_1)] [(.ref w_ISO_8859_1)])) (fun t h => XS.aload X2.here hx rfl (hb hby d1_36) rfl rfl h) ?_
    refine own_by (f' := (mkF m 39 #[.val (.long q1), .second, .val (.ref w_ISO_8859_1), .val (.ref w_VALUES), .val (.int (3 : Int32)), .val (.int (0 : Int32)), .val (.ref w_ISO_8859_1)] [])) (fun t h => XS.astoreN X2.here hx rfl (hb hby d1_38) rfl rfl (l' := #[.val (.long q1), .second, .val (.ref w_ISO_8859_1), .val (.ref w_VALUES), .val (.int (3 : Int32)), .val (.int (0 : Int32)), .val (.ref w_ISO_8859_1)]) rfl h) ?_
    refine own_by (f' := (mkF m 42 #[.val (.long q1), .second, .val (.ref w_ISO_8859_1), .val (.ref w_VALUES), .val (.int (3 : Int32)), .val (.int (1 : Int32)), .val (.ref w_ISO_8859_1)] [])) (fun t h => XT.iincV X2.here hx rfl (1 : Int32) (hb hby d1_39) rfl rfl (l' := #[.val (.long q1), .second, .val (.ref w_ISO_8859_1), .val (.ref w_VALUES), .val (.int (3 : Int32)), .val (.int (1 : Int32)), .val (.ref w_ISO_8859_1)]) rfl h) ?_
    refine own_by (f' := (mkF m 13 #[.val (.long q1), .second, .val (.ref w_ISO_8859_1), .val (.ref w_VALUES), .val (.int (3 : Int32)), .val (.int (1 : Int32)), .val (.ref w_ISO_8859_1)] [])) (fun t h => XS.goto X2.here hx rfl (pc0 := 42) (pc' := 13) rfl (hb hby d1_42) (by decide) (by decide) h) ?_
    refine own_by (f' := (mkF m 15 #[.val (.long q1), .second, .val (.ref w_ISO_8859_1), .val (.ref w_VALUES), .val (.int (3 : Int32)), .val (.int (1 : Int32)), .val (.ref w_ISO_8859_1)] [(.int (1 : Int32))])) (fun t h => XS.iload X2.here hx rfl (hb hby d1_13) rfl h) ?_
    refine own_by (f' := (mkF m 17 #[.val (.long q1), .second, .val (.ref w_ISO_8859_1), .val (.ref w_VALUES), .val (.int (3 : Int32)), .val (.int (1 : Int32)), .val (.ref w_ISO_8859_1)] [(.int (3 : Int32)), (.int (1 : Int32))])) (fun t h => XS.iload X2.here hx rfl (hb hby d1_15) rfl h) ?_
    refine own_by (f' := (mkF m 20 #[.val (.long q1), .second, .val (.ref w_ISO_8859_1), .val (.ref w_VALUES), .val (.int (3 : Int32)), .val (.int (1 : Int32)), .val (.ref w_ISO_8859_1)] [])) (fun t h => XS.icmpNo X2.here hx rfl (hb hby d1_17) rfl (by decide) h) ?_
    refine own_by (f' := (mkF m 21 #[.val (.long q1), .second, .val (.ref w_ISO_8859_1), .val (.ref w_VALUES), .val (.int (3 : Int32)), .val (.int (1 : Int32)), .val (.ref w_ISO_8859_1)] [(.ref w_VALUES)])) (fun t h => XS.aloadN X2.here hx rfl (hb hby d1_20) rfl rfl h) ?_
    refine own_by (f' := (mkF m 23 #[.val (.long q1), .second, .val (.ref w_ISO_8859_1), .val (.ref w_VALUES), .val (.int (3 : Int32)), .val (.int (1 : Int32)), .val (.ref w_ISO_8859_1)] [(.int (1 : Int32)), (.ref w_VALUES)])) (fun t h => XS.iload X2.here hx rfl (hb hby d1_21) rfl h) ?_
    refine own_by (f' := (mkF m 24 #[.val (.long q1), .second, .val (.ref w_ISO_8859_1), .val (.ref w_VALUES), .val (.int (3 : Int32)), .val (.int (1 : Int32)), .val (.ref w_ISO_8859_1)] [(.ref w_UTF_8)])) (fun t h => X2.aaload hx (j := (1 : Int32)) (v := (.ref w_UTF_8)) (by rw [e2]; exact Ar.1) (State.isArrayOf_alike hZ.alike Ar.2.1) rfl Ar.2.2 (by rw [hlen]; decide) hat1 (g := (mkF m 23 #[.val (.long q1), .second, .val (.ref w_ISO_8859_1), .val (.ref w_VALUES), .val (.int (3 : Int32)), .val (.int (1 : Int32)), .val (.ref w_ISO_8859_1)] [(.int (1 : Int32)), (.ref w_VALUES)])) rfl rfl (hb hby d1_23) t h) ?_
    refine own_by (f' := (mkF m 26 #[.val (.long q1), .second, .val (.ref w_ISO_8859_1), .val (.ref w_VALUES), .val (.int (3 : Int32)), .val (.int (1 : Int32)), .val (.ref w_UTF_8)] [])) (fun t h => XS.astore X2.here hx rfl (hb hby d1_24) rfl rfl (l' := #[.val (.long q1), .second, .val (.ref w_ISO_8859_1), .val (.ref w_VALUES), .val (.int (3 : Int32)), .val (.int (1 : Int32)), .val (.ref w_UTF_8)]) rfl h) ?_
    refine own_by (f' := (mkF m 28 #[.val (.long q1), .second, .val (.ref w_ISO_8859_1), .val (.ref w_VALUES), .val (.int (3 : Int32)), .val (.int (1 : Int32)), .val (.ref w_UTF_8)] [(.ref w_UTF_8)])) (fun t h => XS.aload X2.here hx rfl (hb hby d1_26) rfl rfl h) ?_
    obtain ⟨T4, X4, e4, st4⟩ := getF X2 hx hZ hown (host := "") (Or.inl (hw _ (List.mem_of_getElem? (i := 12) rfl))) Via.refl e2 F_id_UTF_8 (g := (mkF m 28 #[.val (.long q1), .second, .val (.ref w_ISO_8859_1), .val (.ref w_VALUES), .val (.int (3 : Int32)), .val (.int (1 : Int32)), .val (.ref w_UTF_8)] [(.ref w_UTF_8)])) rfl rfl (hb hby d1_28)
    refine own_by (f' := (mkF m 31 #[.val (.long q1), .second, .val (.ref w_ISO_8859_1), .val (.ref w_VALUES), .val (.int (3 : Int32)), .val (.int (1 : Int32)), .val (.ref w_UTF_8)] [(.long (83951617 : Int64))])) st4 ?_
    refine own_by (f' := (mkF m 32 #[.val (.long q1), .second, .val (.ref w_ISO_8859_1), .val (.ref w_VALUES), .val (.int (3 : Int32)), .val (.int (1 : Int32)), .val (.ref w_UTF_8)] [(.long q1), (.long (83951617 : Int64))])) (fun t h => XT.lloadN X4.here hx rfl (hb hby d1_31) rfl h) ?_
    refine own_by (f' := (mkF m 33 #[.val (.long q1), .second, .val (.ref w_ISO_8859_1), .val (.ref w_VALUES), .val (.int (3 : Int32)), .val (.int (1 : Int32)), .val (.ref w_UTF_8)] [(.int (XT.cmpL (83951617 : Int64) q1))])) (fun t h => XT.lcmp X4.here hx rfl (hb hby d1_32) rfl h) ?_
    by_cases hc33_5 : (83951617 : Int64) = q1
    · refine own_by (f' := (mkF m 36 #[.val (.long q1), .second, .val (.ref w_ISO_8859_1), .val (.ref w_VALUES), .val (.int (3 : Int32)), .val (.int (1 : Int32)), .val (.ref w_UTF_8)] [])) (fun t h => XS.ifNo X4.here hx rfl (hb hby d1_33) rfl ((if0 _ _).trans (teq (own_cmp0 hc33_5)).2) h) ?_
      refine own_by (f' := (mkF m 38 #[.val (.long q1), .second, .val (.ref w_ISO_8859_1), .val (.ref w_VALUES), .val (.int (3 : Int32)), .val (.int (1 : Int32)), .val (.ref w_UTF_8)] [(.ref w_UTF_8)])) (fun t h => XS.aload X4.here hx rfl (hb hby d1_36) rfl rfl h) ?_
      refine own_by (f' := (mkF m 39 #[.val (.long q1), .second, .val (.ref w_UTF_8), .val (.ref w_VALUES), .val (.int (3 : Int32)), .val (.int (1 : Int32)), .val (.ref w_UTF_8)] [])) (fun t h => XS.astoreN X4.here hx rfl (hb hby d1_38) rfl rfl (l' := #[.val (.long q1), .second, .val (.ref w_UTF_8), .val (.ref w_VALUES), .val (.int (3 : Int32)), .val (.int (1 : Int32)), .val (.ref w_UTF_8)]) rfl h) ?_
      refine own_by (f' := (mkF m 42 #[.val (.long q1), .second, .val (.ref w_UTF_8), .val (.ref w_VALUES), .val (.int (3 : Int32)), .val (.int (2 : Int32)), .val (.ref w_UTF_8)] [])) (fun t h => XT.iincV X4.here hx rfl (1 : Int32) (hb hby d1_39) rfl rfl (l' := #[.val (.long q1), .second, .val (.ref w_UTF_8), .val (.ref w_VALUES), .val (.int (3 : Int32)), .val (.int (2 : Int32)), .val (.ref w_UTF_8)]) rfl h) ?_
      refine own_by (f' := (mkF m 13 #[.val (.long q1), .second, .val (.ref w_UTF_8), .val (.ref w_VALUES), .val (.int (3 : Int32)), .val (.int (2 : Int32)), .val (.ref w_UTF_8)] [])) (fun t h => XS.goto X4.here hx rfl (pc0 := 42) (pc' := 13) rfl (hb hby d1_42) (by decide) (by decide) h) ?_
      refine own_by (f' := (mkF m 15 #[.val (.long q1), .second, .val (.ref w_UTF_8), .val (.ref w_VALUES), .val (.int (3 : Int32)), .val (.int (2 : Int32)), .val (.ref w_UTF_8)] [(.int (2 : Int32))])) (fun t h => XS.iload X4.here hx rfl (hb hby d1_13) rfl h) ?_
      refine own_by (f' := (mkF m 17 #[.val (.long q1), .second, .val (.ref w_UTF_8), .val (.ref w_VALUES), .val (.int (3 : Int32)), .val (.int (2 : Int32)), .val (.ref w_UTF_8)] [(.int (3 : Int32)), (.int (2 : Int32))])) (fun t h => XS.iload X4.here hx rfl (hb hby d1_15) rfl h) ?_
      refine own_by (f' := (mkF m 20 #[.val (.long q1), .second, .val (.ref w_UTF_8), .val (.ref w_VALUES), .val (.int (3 : Int32)), .val (.int (2 : Int32)), .val (.ref w_UTF_8)] [])) (fun t h => XS.icmpNo X4.here hx rfl (hb hby d1_17) rfl (by decide) h) ?_
      refine own_by (f' := (mkF m 21 #[.val (.long q1), .second, .val (.ref w_UTF_8), .val (.ref w_VALUES), .val (.int (3 : Int32)), .val (.int (2 : Int32)), .val (.ref w_UTF_8)] [(.ref w_VALUES)])) (fun t h => XS.aloadN X4.here hx rfl (hb hby d1_20) rfl rfl h) ?_
      refine own_by (f' := (mkF m 23 #[.val (.long q1), .second, .val (.ref w_UTF_8), .val (.ref w_VALUES), .val (.int (3 : Int32)), .val (.int (2 : Int32)), .val (.ref w_UTF_8)] [(.int (2 : Int32)), (.ref w_VALUES)])) (fun t h => XS.iload X4.here hx rfl (hb hby d1_21) rfl h) ?_
      refine own_by (f' := (mkF m 24 #[.val (.long q1), .second, .val (.ref w_UTF_8), .val (.ref w_VALUES), .val (.int (3 : Int32)), .val (.int (2 : Int32)), .val (.ref w_UTF_8)] [(.ref w_UTF_16)])) (fun t h => X4.aaload hx (j := (2 : Int32)) (v := (.ref w_UTF_16)) (by rw [e4]; exact Ar.1) (State.isArrayOf_alike hZ.alike Ar.2.1) rfl Ar.2.2 (by rw [hlen]; decide) hat2 (g := (mkF m 23 #[.val (.long q1), .second, .val (.ref w_UTF_8), .val (.ref w_VALUES), .val (.int (3 : Int32)), .val (.int (2 : Int32)), .val (.ref w_UTF_8)] [(.int (2 : Int32)), (.ref w_VALUES)])) rfl rfl (hb hby d1_23) t h) ?_
      refine own_by (f' := (mkF m 26 #[.val (.long q1), .second, .val (.ref w_UTF_8), .val (.ref w_VALUES), .val (.int (3 : Int32)), .val (.int (2 : Int32)), .val (.ref w_UTF_16)] [])) (fun t h => XS.astore X4.here hx rfl (hb hby d1_24) rfl rfl (l' := #[.val (.long q1), .second, .val (.ref w_UTF_8), .val (.ref w_VALUES), .val (.int (3 : Int32)), .val (.int (2 : Int32)), .val (.ref w_UTF_16)]) rfl h) ?_
      refine own_by (f' := (mkF m 28 #[.val (.long q1), .second, .val (.ref w_UTF_8), .val (.ref w_VALUES), .val (.int (3 : Int32)), .val (.int (2 : Int32)), .val (.ref w_UTF_16)] [(.ref w_UTF_16)])) (fun t h => XS.aload X4.here hx rfl (hb hby d1_26) rfl rfl h) ?_
      obtain ⟨T6, X6, e6, st6⟩ := getF X4 hx hZ hown (host := "") (Or.inl (hw _ (List.mem_of_getElem? (i := 12) rfl))) Via.refl e4 F_id_UTF_16 (g := (mkF m 28 #[.val (.long q1), .second, .val (.ref w_UTF_8), .val (.ref w_VALUES), .val (.int (3 : Int32)), .val (.int (2 : Int32)), .val (.ref w_UTF_16)] [(.ref w_UTF_16)])) rfl rfl (hb hby d1_28)
      refine own_by (f' := (mkF m 31 #[.val (.long q1), .second, .val (.ref w_UTF_8), .val (.ref w_VALUES), .val (.int (3 : Int32)), .val (.int (2 : Int32)), .val (.ref w_UTF_16)] [(.long (65801 : Int64))])) st6 ?_
      refine own_by (f' := (mkF m 32 #[.val (.long q1), .second, .val (.ref w_UTF_8), .val (.ref w_VALUES), .val (.int (3 : Int32)), .val (.int (2 : Int32)), .val (.ref w_UTF_16)] [(.long q1), (.long (65801 : Int64))])) (fun t h => XT.lloadN X6.here hx rfl (hb hby d1_31) rfl h) ?_
      refine own_by (f' := (mkF m 33 #[.val (.long q1), .second, .val (.ref w_UTF_8), .val (.ref w_VALUES), .val (.int (3 : Int32)), .val (.int (2 : Int32)), .val (.ref w_UTF_16)] [(.int (XT.cmpL (65801 : Int64) q1))])) (fun t h => XT.lcmp X6.here hx rfl (hb hby d1_32) rfl h) ?_
      by_cases hc33_7 : (65801 : Int64) = q1
      · refine own_by (f' := (mkF m 36 #[.val (.long q1), .second, .val (.ref w_UTF_8), .val (.ref w_VALUES), .val (.int (3 : Int32)), .val (.int (2 : Int32)), .val (.ref w_UTF_16)] [])) (fun t h => XS.ifNo X6.here hx rfl (hb hby d1_33) rfl ((if0 _ _).trans (teq (own_cmp0 hc33_7)).2) h) ?_
        refine own_by (f' := (mkF m 38 #[.val (.long q1), .second, .val (.ref w_UTF_8), .val (.ref w_VALUES), .val (.int (3 : Int32)), .val (.int (2 : Int32)), .val (.ref w_UTF_16)] [(.ref w_UTF_16)])) (fun t h => XS.aload X6.here hx rfl (hb hby d1_36) rfl rfl h) ?_
        refine own_by (f' := (mkF m 39 #[.val (.long q1), .second, .val (.ref w_UTF_16), .val (.ref w_VALUES), .val (.int (3 : Int32)), .val (.int (2 : Int32)), .val (.ref w_UTF_16)] [])) (fun t h => XS.astoreN X6.here hx rfl (hb hby d1_38) rfl rfl (l' := #[.val (.long q1), .second, .val (.ref w_UTF_16), .val (.ref w_VALUES), .val (.int (3 : Int32)), .val (.int (2 : Int32)), .val (.ref w_UTF_16)]) rfl h) ?_
        refine own_by (f' := (mkF m 42 #[.val (.long q1), .second, .val (.ref w_UTF_16), .val (.ref w_VALUES), .val (.int (3 : Int32)), .val (.int (3 : Int32)), .val (.ref w_UTF_16)] [])) (fun t h => XT.iincV X6.here hx rfl (1 : Int32) (hb hby d1_39) rfl rfl (l' := #[.val (.long q1), .second, .val (.ref w_UTF_16), .val (.ref w_VALUES), .val (.int (3 : Int32)), .val (.int (3 : Int32)), .val (.ref w_UTF_16)]) rfl h) ?_
        refine own_by (f' := (mkF m 13 #[.val (.long q1), .second, .val (.ref w_UTF_16), .val (.ref w_VALUES), .val (.int (3 : Int32)), .val (.int (3 : Int32)), .val (.ref w_UTF_16)] [])) (fun t h => XS.goto X6.here hx rfl (pc0 := 42) (pc' := 13) rfl (hb hby d1_42) (by decide) (by decide) h) ?_
        refine own_by (f' := (mkF m 15 #[.val (.long q1), .second, .val (.ref w_UTF_16), .val (.ref w_VALUES), .val (.int (3 : Int32)), .val (.int (3 : Int32)), .val (.ref w_UTF_16)] [(.int (3 : Int32))])) (fun t h => XS.iload X6.here hx rfl (hb hby d1_13) rfl h) ?_
        refine own_by (f' := (mkF m 17 #[.val (.long q1), .second, .val (.ref w_UTF_16), .val (.ref w_VALUES), .val (.int (3 : Int32)), .val (.int (3 : Int32)), .val (.ref w_UTF_16)] [(.int (3 : Int32)), (.int (3 : Int32))])) (fun t h => XS.iload X6.here hx rfl (hb hby d1_15) rfl h) ?_
        refine own_by (f' := (mkF m 45 #[.val (.long q1), .second, .val (.ref w_UTF_16), .val (.ref w_VALUES), .val (.int (3 : Int32)), .val (.int (3 : Int32)), .val (.ref w_UTF_16)] [])) (fun t h => XS.icmpYes X6.here hx rfl (pc0 := 17) (pc' := 45) rfl (hb hby d1_17) rfl (by decide) (by decide) (by decide) h) ?_
        refine own_by (f' := (mkF m 46 #[.val (.long q1), .second, .val (.ref w_UTF_16), .val (.ref w_VALUES), .val (.int (3 : Int32)), .val (.int (3 : Int32)), .val (.ref w_UTF_16)] [(.ref w_UTF_16)])) (fun t h => XS.aloadN X6.here hx rfl (hb hby d1_45) rfl rfl h) ?_
        obtain ⟨fs, hr, hrun, hended, hW, hsame⟩ := X6.leave (v := some (.ref w_UTF_16)) (fun h => by rw [Bd.returns] at h; cases h)
        refine own_mk ⟨_, _, retOut X6 hx Bd.returns rfl (Or.inr (Or.inr (Or.inr (Or.inr ⟨rfl, rfl, rfl⟩)))) (hb hby d1_46) hr, hrun, hended, _, _, rfl, ?_, ⟨_, rfl⟩, hW, hsame.mono (by decide) (by decide)⟩
        show Q1 q1 w_ISO_8859_1 w_UTF_8 w_UTF_16 h0 n0 _ T6.heap _
        rw [e6]
        exact ⟨(congrArg some (if_pos hc33_7)).symm, N0, rfl⟩
      · refine own_by (f' := (mkF m 39 #[.val (.long q1), .second, .val (.ref w_UTF_8), .val (.ref w_VALUES), .val (.int (3 : Int32)), .val (.int (2 : Int32)), .val (.ref w_UTF_16)] [])) (fun t h => XS.ifYes X6.here hx rfl (pc0 := 33) (pc' := 39) rfl (hb hby d1_33) rfl ((if0 _ _).trans (feq (own_cmp1 hc33_7)).2) (by decide) (by decide) h) ?_
        refine own_by (f' := (mkF m 42 #[.val (.long q1), .second, .val (.ref w_UTF_8), .val (.ref w_VALUES), .val (.int (3 : Int32)), .val (.int (3 : Int32)), .val (.ref w_UTF_16)] [])) (fun t h => XT.iincV X6.here hx rfl (1 : Int32) (hb hby d1_39) rfl rfl (l' := #[.val (.long q1), .second, .val (.ref w_UTF_8), .val (.ref w_VALUES), .val (.int (3 : Int32)), .val (.int (3 : Int32)), .val (.ref w_UTF_16)]) rfl h) ?_
        refine own_by (f' := (mkF m 13 #[.val (.long q1), .second, .val (.ref w_UTF_8), .val (.ref w_VALUES), .val (.int (3 : Int32)), .val (.int (3 : Int32)), .val (.ref w_UTF_16)] [])) (fun t h => XS.goto X6.here hx rfl (pc0 := 42) (pc' := 13) rfl (hb hby d1_42) (by decide) (by decide) h) ?_
        refine own_by (f' := (mkF m 15 #[.val (.long q1), .second, .val (.ref w_UTF_8), .val (.ref w_VALUES), .val (.int (3 : Int32)), .val (.int (3 : Int32)), .val (.ref w_UTF_16)] [(.int (3 : Int32))])) (fun t h => XS.iload X6.here hx rfl (hb hby d1_13) rfl h) ?_
        refine own_by (f' := (mkF m 17 #[.val (.long q1), .second, .val (.ref w_UTF_8), .val (.ref w_VALUES), .val (.int (3 : Int32)), .val (.int (3 : Int32)), .val (.ref w_UTF_16)] [(.int (3 : Int32)), (.int (3 : Int32))])) (fun t h => XS.iload X6.here hx rfl (hb hby d1_15) rfl h) ?_
        refine own_by (f' := (mkF m 45 #[.val (.long q1), .second, .val (.ref w_UTF_8), .val (.ref w_VALUES), .val (.int (3 : Int32)), .val (.int (3 : Int32)), .val (.ref w_UTF_16)] [])) (fun t h => XS.icmpYes X6.here hx rfl (pc0 := 17) (pc' := 45) rfl (hb hby d1_17) rfl (by decide) (by decide) (by decide) h) ?_
        refine own_by (f' := (mkF m 46 #[.val (.long q1), .second, .val (.ref w_UTF_8), .val (.ref w_VALUES), .val (.int (3 : Int32)), .val (.int (3 : Int32)), .val (.ref w_UTF_16)] [(.ref w_UTF_8)])) (fun t h => XS.aloadN X6.here hx rfl (hb hby d1_45) rfl rfl h) ?_
        obtain ⟨fs, hr, hrun, hended, hW, hsame⟩ := X6.leave (v := some (.ref w_UTF_8)) (fun h => by rw [Bd.returns] at h; cases h)
        refine own_mk ⟨_, _, retOut X6 hx Bd.returns rfl (Or.inr (Or.inr (Or.inr (Or.inr ⟨rfl, rfl, rfl⟩)))) (hb hby d1_46) hr, hrun, hended, _, _, rfl, ?_, ⟨_, rfl⟩, hW, hsame.mono (by decide) (by decide)⟩
        show Q1 q1 w_ISO_8859_1 w_UTF_8 w_UTF_16 h0 n0 _ T6.heap _
        rw [e6]
        exact ⟨(congrArg some ((if_neg hc33_7).trans (if_pos hc33_5))).symm, N0, rfl⟩
    · refine own_by (f' := (mkF m 39 #[.val (.long q1), .second, .val (.ref w_ISO_8859_1), .val (.ref w_VALUES), .val (.int (3 : Int32)), .val (.int (1 : Int32)), .val (.ref w_UTF_8)] [])) (fun t h => XS.ifYes X4.here hx rfl (pc0 := 33) (pc' := 39) rfl (hb hby d1_33) rfl ((if0 _ _).trans (feq (own_cmp1 hc33_5)).2) (by decide) (by decide) h) ?_
      refine own_by (f' := (mkF m 42 #[.val (.long q1), .second, .val (.ref w_ISO_8859_1), .val (.ref w_VALUES), .val (.int (3 : Int32)), .val (.int (2 : Int32)), .val (.ref w_UTF_8)] [])) (fun t h => XT.iincV X4.here hx rfl (1 : Int32) (hb hby d1_39) rfl rfl (l' := #[.val (.long q1), .second, .val (.ref w_ISO_8859_1), .val (.ref w_VALUES), .val (.int (3 : Int32)), .val (.int (2 : Int32)), .val (.ref w_UTF_8)]) rfl h) ?_
      refine own_by (f' := (mkF m 13 #[.val (.long q1), .second, .val (.ref w_ISO_8859_1), .val (.ref w_VALUES), .val (.int (3 : Int32)), .val (.int (2 : Int32)), .val (.ref w_UTF_8)] [])) (fun t h => XS.goto X4.here hx rfl (pc0 := 42) (pc' := 13) rfl (hb hby d1_42) (by decide) (by decide) h) ?_
      refine own_by (f' := (mkF m 15 #[.val (.long q1), .second, .val (.ref w_ISO_8859_1), .val (.ref w_VALUES), .val (.int (3 : Int32)), .val (.int (2 : Int32)), .val (.ref w_UTF_8)] [(.int (2 : Int32))])) (fun t h => XS.iload X4.here hx rfl (hb hby d1_13) rfl h) ?_
      refine own_by (f' := (mkF m 17 #[.val (.long q1), .second, .val (.ref w_ISO_8859_1), .val (.ref w_VALUES), .val (.int (3 : Int32)), .val (.int (2 : Int32)), .val (.ref w_UTF_8)] [(.int (3 : Int32)), (.int (2 : Int32))])) (fun t h => XS.iload X4.here hx rfl (hb hby d1_15) rfl h) ?_
      refine own_by (f' := (mkF m 20 #[.val (.long q1), .second, .val (.ref w_ISO_8859_1), .val (.ref w_VALUES), .val (.int (3 : Int32)), .val (.int (2 : Int32)), .val (.ref w_UTF_8)] [])) (fun t h => XS.icmpNo X4.here hx rfl (hb hby d1_17) rfl (by decide) h) ?_
      refine own_by (f' := (mkF m 21 #[.val (.long q1), .second, .val (.ref w_ISO_8859_1), .val (.ref w_VALUES), .val (.int (3 : Int32)), .val (.int (2 : Int32)), .val (.ref w_UTF_8)] [(.ref w_VALUES)])) (fun t h => XS.aloadN X4.here hx rfl (hb hby d1_20) rfl rfl h) ?_
      refine own_by (f' := (mkF m 23 #[.val (.long q1), .second, .val (.ref w_ISO_8859_1), .val (.ref w_VALUES), .val (.int (3 : Int32)), .val (.int (2 : Int32)), .val (.ref w_UTF_8)] [(.int (2 : Int32)), (.ref w_VALUES)])) (fun t h => XS.iload X4.here hx rfl (hb hby d1_21) rfl h) ?_
      refine own_by (f' := (mkF m 24 #[.val (.long q1), .second, .val (.ref w_ISO_8859_1), .val (.ref w_VALUES), .val (.int (3 : Int32)), .val (.int (2 : Int32)), .val (.ref w_UTF_8)] [(.ref w_UTF_16)])) (fun t h => X4.aaload hx (j := (2 : Int32)) (v := (.ref w_UTF_16)) (by rw [e4]; exact Ar.1) (State.isArrayOf_alike hZ.alike Ar.2.1) rfl Ar.2.2 (by rw [hlen]; decide) hat2 (g := (mkF m 23 #[.val (.long q1), .second, .val (.ref w_ISO_8859_1), .val (.ref w_VALUES), .val (.int (3 : Int32)), .val (.int (2 : Int32)), .val (.ref w_UTF_8)] [(.int (2 : Int32)), (.ref w_VALUES)])) rfl rfl (hb hby d1_23) t h) ?_
      refine own_by (f' := (mkF m 26 #[.val (.long q1), .second, .val (.ref w_ISO_8859_1), .val (.ref w_VALUES), .val (.int (3 : Int32)), .val (.int (2 : Int32)), .val (.ref w_UTF_16)] [])) (fun t h => XS.astore X4.here hx rfl (hb hby d1_24) rfl rfl (l' := #[.val (.long q1), .second, .val (.ref w_ISO_8859_1), .val (.ref w_VALUES), .val (.int (3 : Int32)), .val (.int (2 : Int32)), .val (.ref w_UTF_16)]) rfl h) ?_
      refine own_by (f' := (mkF m 28 #[.val (.long q1), .second, .val (.ref w_ISO_8859_1), .val (.ref w_VALUES), .val (.int (3 : Int32)), .val (.int (2 : Int32)), .val (.ref w_UTF_16)] [(.ref w_UTF_16)])) (fun t h => XS.aload X4.here hx rfl (hb hby d1_26) rfl rfl h) ?_
      obtain ⟨T8, X8, e8, st8⟩ := getF X4 hx hZ hown (host := "") (Or.inl (hw _ (List.mem_of_getElem? (i := 12) rfl))) Via.refl e4 F_id_UTF_16 (g := (mkF m 28 #[.val (.long q1), .second, .val (.ref w_ISO_8859_1), .val (.ref w_VALUES), .val (.int (3 : Int32)), .val (.int (2 : Int32)), .val (.ref w_UTF_16)] [(.ref w_UTF_16)])) rfl rfl (hb hby d1_28)
      refine own_by (f' := (mkF m 31 #[.val (.long q1), .second, .val (.ref w_ISO_8859_1), .val (.ref w_VALUES), .val (.int (3 : Int32)), .val (.int (2 : Int32)), .val (.ref w_UTF_16)] [(.long (65801 : Int64))])) st8 ?_
      refine own_by (f' := (mkF m 32 #[.val (.long q1), .second, .val (.ref w_ISO_8859_1), .val (.ref w_VALUES), .val (.int (3 : Int32)), .val (.int (2 : Int32)), .val (.ref w_UTF_16)] [(.long q1), (.long (65801 : Int64))])) (fun t h => XT.lloadN X8.here hx rfl (hb hby d1_31) rfl h) ?_
      refine own_by (f' := (mkF m 33 #[.val (.long q1), .second, .val (.ref w_ISO_8859_1), .val (.ref w_VALUES), .val (.int (3 : Int32)), .val (.int (2 : Int32)), .val (.ref w_UTF_16)] [(.int (XT.cmpL (65801 : Int64) q1))])) (fun t h => XT.lcmp X8.here hx rfl (hb hby d1_32) rfl h) ?_
      by_cases hc33_9 : (65801 : Int64) = q1
      · refine own_by (f' := (mkF m 36 #[.val (.long q1), .second, .val (.ref w_ISO_8859_1), .val (.ref w_VALUES), .val (.int (3 : Int32)), .val (.int (2 : Int32)), .val (.ref w_UTF_16)] [])) (fun t h => XS.ifNo X8.here hx rfl (hb hby d1_33) rfl ((if0 _ _).trans (teq (own_cmp0 hc33_9)).2) h) ?_
        refine own_by (f' := (mkF m 38 #[.val (.long q1), .second, .val (.ref w_ISO_8859_1), .val (.ref w_VALUES), .val (.int (3 : Int32)), .val (.int (2 : Int32)), .val (.ref w_UTF_16)] [(.ref w_UTF_16)])) (fun t h => XS.aload X8.here hx rfl (hb hby d1_36) rfl rfl h) ?_
        refine own_by (f' := (mkF m 39 #[.val (.long q1), .second, .val (.ref w_UTF_16), .val (.ref w_VALUES), .val (.int (3 : Int32)), .val (.int (2 : Int32)), .val (.ref w_UTF_16)] [])) (fun t h => XS.astoreN X8.here hx rfl (hb hby d1_38) rfl rfl (l' := #[.val (.long q1), .second, .val (.ref w_UTF_16), .val (.ref w_VALUES), .val (.int (3 : Int32)), .val (.int (2 : Int32)), .val (.ref w_UTF_16)]) rfl h) ?_
        refine own_by (f' := (mkF m 42 #[.val (.long q1), .second, .val (.ref w_UTF_16), .val (.ref w_VALUES), .val (.int (3 : Int32)), .val (.int (3 : Int32)), .val (.ref w_UTF_16)] [])) (fun t h => XT.iincV X8.here hx rfl (1 : Int32) (hb hby d1_39) rfl rfl (l' := #[.val (.long q1), .second, .val (.ref w_UTF_16), .val (.ref w_VALUES), .val (.int (3 : Int32)), .val (.int (3 : Int32)), .val (.ref w_UTF_16)]) rfl h) ?_
        refine own_by (f' := (mkF m 13 #[.val (.long q1), .second, .val (.ref w_UTF_16), .val (.ref w_VALUES), .val (.int (3 : Int32)), .val (.int (3 : Int32)), .val (.ref w_UTF_16)] [])) (fun t h => XS.goto X8.here hx rfl (pc0 := 42) (pc' := 13) rfl (hb hby d1_42) (by decide) (by decide) h) ?_
        refine own_by (f' := (mkF m 15 #[.val (.long q1), .second, .val (.ref w_UTF_16), .val (.ref w_VALUES), .val (.int (3 : Int32)), .val (.int (3 : Int32)), .val (.ref w_UTF_16)] [(.int (3 : Int32))])) (fun t h => XS.iload X8.here hx rfl (hb hby d1_13) rfl h) ?_
        refine own_by (f' := (mkF m 17 #[.val (.long q1), .second, .val (.ref w_UTF_16), .val (.ref w_VALUES), .val (.int (3 : Int32)), .val (.int (3 : Int32)), .val (.ref w_UTF_16)] [(.int (3 : Int32)), (.int (3 : Int32))])) (fun t h => XS.iload X8.here hx rfl (hb hby d1_15) rfl h) ?_
        refine own_by (f' := (mkF m 45 #[.val (.long q1), .second, .val (.ref w_UTF_16), .val (.ref w_VALUES), .val (.int (3 : Int32)), .val (.int (3 : Int32)), .val (.ref w_UTF_16)] [])) (fun t h => XS.icmpYes X8.here hx rfl (pc0 := 17) (pc' := 45) rfl (hb hby d1_17) rfl (by decide) (by decide) (by decide) h) ?_
        refine own_by (f' := (mkF m 46 #[.val (.long q1), .second, .val (.ref w_UTF_16), .val (.ref w_VALUES), .val (.int (3 : Int32)), .val (.int (3 : Int32)), .val (.ref w_UTF_16)] [(.ref w_UTF_16)])) (fun t h => XS.aloadN X8.here hx rfl (hb hby d1_45) rfl rfl h) ?_
        obtain ⟨fs, hr, hrun, hended, hW, hsame⟩ := X8.leave (v := some (.ref w_UTF_16)) (fun h => by rw [Bd.returns] at h; cases h)
        refine own_mk ⟨_, _, retOut X8 hx Bd.returns rfl (Or.inr (Or.inr (Or.inr (Or.inr ⟨rfl, rfl, rfl⟩)))) (hb hby d1_46) hr, hrun, hended, _, _, rfl, ?_, ⟨_, rfl⟩, hW, hsame.mono (by decide) (by decide)⟩
        show Q1 q1 w_ISO_8859_1 w_UTF_8 w_UTF_16 h0 n0 _ T8.heap _
        rw [e8]
        exact ⟨(congrArg some (if_pos hc33_9)).symm, N0, rfl⟩
      · refine own_by (f' := (mkF m 39 #[.val (.long q1), .second, .val (.ref w_ISO_8859_1), .val (.ref w_VALUES), .val (.int (3 : Int32)), .val (.int (2 : Int32)), .val (.ref w_UTF_16)] [])) (fun t h => XS.ifYes X8.here hx rfl (pc0 := 33) (pc' := 39) rfl (hb hby d1_33) rfl ((if0 _ _).trans (feq (own_cmp1 hc33_9)).2) (by decide) (by decide) h) ?_
        refine own_by (f' := (mkF m 42 #[.val (.long q1), .second, .val (.ref w_ISO_8859_1), .val (.ref w_VALUES), .val (.int (3 : Int32)), .val (.int (3 : Int32)), .val (.ref w_UTF_16)] [])) (fun t h => XT.iincV X8.here hx rfl (1 : Int32) (hb hby d1_39) rfl rfl (l' := #[.val (.long q1), .second, .val (.ref w_ISO_8859_1), .val (.ref w_VALUES), .val (.int (3 : Int32)), .val (.int (3 : Int32)), .val (.ref w_UTF_16)]) rfl h) ?_
        refine own_by (f' := (mkF m 13 #[.val (.long q1), .second, .val (.ref w_ISO_8859_1), .val (.ref w_VALUES), .val (.int (3 : Int32)), .val (.int (3 : Int32)), .val (.ref w_UTF_16)] [])) (fun t h => XS.goto X8.here hx rfl (pc0 := 42) (pc' := 13) rfl (hb hby d1_42) (by decide) (by decide) h) ?_
        refine own_by (f' := (mkF m 15 #[.val (.long q1), .second, .val (.ref w_ISO_8859_1), .val (.ref w_VALUES), .val (.int (3 : Int32)), .val (.int (3 : Int32)), .val (.ref w_UTF_16)] [(.int (3 : Int32))])) (fun t h => XS.iload X8.here hx rfl (hb hby d1_13) rfl h) ?_
        refine own_by (f' := (mkF m 17 #[.val (.long q1), .second, .val (.ref w_ISO_8859_1), .val (.ref w_VALUES), .val (.int (3 : Int32)), .val (.int (3 : Int32)), .val (.ref w_UTF_16)] [(.int (3 : Int32)), (.int (3 : Int32))])) (fun t h => XS.iload X8.here hx rfl (hb hby d1_15) rfl h) ?_
        refine own_by (f' := (mkF m 45 #[.val (.long q1), .second, .val (.ref w_ISO_8859_1), .val (.ref w_VALUES), .val (.int (3 : Int32)), .val (.int (3 : Int32)), .val (.ref w_UTF_16)] [])) (fun t h => XS.icmpYes X8.here hx rfl (pc0 := 17) (pc' := 45) rfl (hb hby d1_17) rfl (by decide) (by decide) (by decide) h) ?_
        refine own_by (f' := (mkF m 46 #[.val (.long q1), .second, .val (.ref w_ISO_8859_1), .val (.ref w_VALUES), .val (.int (3 : Int32)), .val (.int (3 : Int32)), .val (.ref w_UTF_16)] [(.ref w_ISO_8859_1)])) (fun t h => XS.aloadN X8.here hx rfl (hb hby d1_45) rfl rfl h) ?_
        obtain ⟨fs, hr, hrun, hended, hW, hsame⟩ := X8.leave (v := some (.ref w_ISO_8859_1)) (fun h => by rw [Bd.returns] at h; cases h)
        refine own_mk ⟨_, _, retOut X8 hx Bd.returns rfl (Or.inr (Or.inr (Or.inr (Or.inr ⟨rfl, rfl, rfl⟩)))) (hb hby d1_46) hr, hrun, hended, _, _, rfl, ?_, ⟨_, rfl⟩, hW, hsame.mono (by decide) (by decide)⟩
        show Q1 q1 w_ISO_8859_1 w_UTF_8 w_UTF_16 h0 n0 _ T8.heap _
        rw [e8]
        exact ⟨(congrArg some ((if_neg hc33_9).trans ((if_neg hc33_5).trans (if_pos hc33_3)))).symm, N0, rfl⟩
  · refine own_by (f' := (mkF m 39 #[.val (.long q1), .second, .val .null, .val (.ref w_VALUES), .val (.int (3 : Int32)), .val (.int (0 : Int32)), .val (.ref w_ISO_8859_1)] [])) (fun t h => XS.ifYes X2.here hx rfl (pc0 := 33) (pc' := 39) rfl (hb hby d1_33) rfl ((if0 _ _).trans (feq (own_cmp1 hc33_3)).2) (by decide) (by decide) h) ?_
    refine own_by (f' := (mkF m 42 #[.val (.long q1), .second, .val .null, .val (.ref w_VALUES), .val (.int (3 : Int32)), .val (.int (1 : Int32)), .val (.ref w_ISO_8859_1)] [])) (fun t h => XT.iincV X2.here hx rfl (1 : Int32) (hb hby d1_39) rfl rfl (l' := #[.val (.long q1), .second, .val .null, .val (.ref w_VALUES), .val (.int (3 : Int32)), .val (.int (1 : Int32)), .val (.ref w_ISO_8859_1)]) rfl h) ?_
    refine own_by (f' := (mkF m 13 #[.val (.long q1), .second, .val .null, .val (.ref w_VALUES), .val (.int (3 : Int32)), .val (.int (1 : Int32)), .val (.ref w_ISO_8859_1)] [])) (fun t h => XS.goto X2.here hx rfl (pc0 := 42) (pc' := 13) rfl (hb hby d1_42) (by decide) (by decide) h) ?_
    refine own_by (f' := (mkF m 15 #[.val (.long q1), .second, .val .null, .val (.ref w_VALUES), .val (.int (3 : Int32)), .val (.int (1 : Int32)), .val (.ref w_ISO_8859_1)] [(.int (1 : Int32))])) (fun t h => XS.iload X2.here hx rfl (hb hby d1_13) rfl h) ?_
    refine own_by (f' := (mkF m 17 #[.val (.long q1), .second, .val .null, .val (.ref w_VALUES), .val (.int (3 : Int32)), .val (.int (1 : Int32)), .val (.ref w_ISO_8859_1)] [(.int (3 : Int32)), (.int (1 : Int32))])) (fun t h => XS.iload X2.here hx rfl (hb hby d1_15) rfl h) ?_
    refine own_by (f' := (mkF m 20 #[.val (.long q1), .second, .val .null, .val (.ref w_VALUES), .val (.int (3 : Int32)), .val (.int (1 : Int32)), .val (.ref w_ISO_8859_1)] [])) (fun t h => XS.icmpNo X2.here hx rfl (hb hby d1_17) rfl (by decide) h) ?_
    refine own_by (f' := (mkF m 21 #[.val (.long q1), .second, .val .null, .val (.ref w_VALUES), .val (.int (3 : Int32)), .val (.int (1 : Int32)), .val (.ref w_ISO_8859_1)] [(.ref w_VALUES)])) (fun t h => XS.aloadN X2.here hx rfl (hb hby d1_20) rfl rfl h) ?_
    refine own_by (f' := (mkF m 23 #[.val (.long q1), .second, .val .null, .val (.ref w_VALUES), .val (.int (3 : Int32)), .val (.int (1 : Int32)), .val (.ref w_ISO_8859_1)] [(.int (1 : Int32)), (.ref w_VALUES)])) (fun t h => XS.iload X2.here hx rfl (hb hby d1_21) rfl h) ?_
    refine own_by (f' := (mkF m 24 #[.val (.long q1), .second, .val .null, .val (.ref w_VALUES), .val (.int (3 : Int32)), .val (.int (1 : Int32)), .val (.ref w_ISO_8859_1)] [(.ref w_UTF_8)])) (fun t h => X2.aaload hx (j := (1 : Int32)) (v := (.ref w_UTF_8)) (by rw [e2]; exact Ar.1) (State.isArrayOf_alike hZ.alike Ar.2.1) rfl Ar.2.2 (by rw [hlen]; decide) hat1 (g := (mkF m 23 #[.val (.long q1), .second, .val .null, .val (.ref w_VALUES), .val (.int (3 : Int32)), .val (.int (1 : Int32)), .val (.ref w_ISO_8859_1)] [(.int (1 : Int32)), (.ref w_VALUES)])) rfl rfl (hb hby d1_23) t h) ?_
    refine own_by (f' := (mkF m 26 #[.val (.long q1), .second, .val .null, .val (.ref w_VALUES), .val (.int (3 : Int32)), .val (.int (1 : Int32)), .val (.ref w_UTF_8)] [])) (fun t h => XS.astore X2.here hx rfl (hb hby d1_24) rfl rfl (l' := #[.val (.long q1), .second, .val .null, .val (.ref w_VALUES), .val (.int (3 : Int32)), .val (.int (1 : Int32)), .val (.ref w_UTF_8)]) rfl h) ?_
    refine own_by (f' := (mkF m 28 #[.val (.long q1), .second, .val .null, .val (.ref w_VALUES), .val (.int (3 : Int32)), .val (.int (1 : Int32)), .val (.ref w_UTF_8)] [(.ref w_UTF_8)])) (fun t h => XS.aload X2.here hx rfl (hb hby d1_26) rfl rfl h) ?_
    obtain ⟨T10, X10, e10, st10⟩ := getF X2 hx hZ hown (host := "") (Or.inl (hw _ (List.mem_of_getElem? (i := 12) rfl))) Via.refl e2 F_id_UTF_8 (g := (mkF m 28 #[.val (.long q1), .second, .val .null, .val (.ref w_VALUES), .val (.int (3 : Int32)), .val (.int (1 : Int32)), .val (.ref w_UTF_8)] [(.ref w_UTF_8)])) rfl rfl (hb hby d1_28)
    refine own_by (f' := (mkF m 31 #[.val (.long q1), .second, .val .null, .val (.ref w_VALUES), .val (.int (3 : Int32)), .val (.int (1 : Int32)), .val (.ref w_UTF_8)] [(.long (83951617 : Int64))])) st10 ?_
    refine own_by (f' := (mkF m 32 #[.val (.long q1), .second, .val .null, .val (.ref w_VALUES), .val (.int (3 : Int32)), .val (.int (1 : Int32)), .val (.ref w_UTF_8)] [(.long q1), (.long (83951617 : Int64))])) (fun t h => XT.lloadN X10.here hx rfl (hb hby d1_31) rfl h) ?_
    refine own_by (f' := (mkF m 33 #[.val (.long q1), .second, .val .null, .val (.ref w_VALUES), .val (.int (3 : Int32)), .val (.int (1 : Int32)), .val (.ref w_UTF_8)] [(.int (XT.cmpL (83951617 : Int64) q1))])) (fun t h => XT.lcmp X10.here hx rfl (hb hby d1_32) rfl h) ?_
    by_cases hc33_11 : (83951617 : Int64) = q1
    · refine own_by (f' := (mkF m 36 #[.val (.long q1), .second, .val .null, .val (.ref w_VALUES), .val (.int (3 : Int32)), .val (.int (1 : Int32)), .val (.ref w_UTF_8)] [])) (fun t h => XS.ifNo X10.here hx rfl (hb hby d1_33) rfl ((if0 _ _).trans (teq (own_cmp0 hc33_11)).2) h) ?_
      refine own_by (f' := (mkF m 38 #[.val (.long q1), .second, .val .null, .val (.ref w_VALUES), .val (.int (3 : Int32)), .val (.int (1 : Int32)), .val (.ref w_UTF_8)] [(.ref w_UTF_8)])) (fun t h => XS.aload X10.here hx rfl (hb hby d1_36) rfl rfl h) ?_
      refine own_by (f' := (mkF m 39 #[.val (.long q1), .second, .val (.ref w_UTF_8), .val (.ref w_VALUES), .val (.int (3 : Int32)), .val (.int (1 : Int32)), .val (.ref w_UTF_8)] [])) (fun t h => XS.astoreN X10.here hx rfl (hb hby d1_38) rfl rfl (l' := #[.val (.long q1), .second, .val (.ref w_UTF_8), .val (.ref w_VALUES), .val (.int (3 : Int32)), .val (.int (1 : Int32)), .val (.ref w_UTF_8)]) rfl h) ?_
      refine own_by (f' := (mkF m 42 #[.val (.long q1), .second, .val (.ref w_UTF_8), .val (.ref w_VALUES), .val (.int (3 : Int32)), .val (.int (2 : Int32)), .val (.ref w_UTF_8)] [])) (fun t h => XT.iincV X10.here hx rfl (1 : Int32) (hb hby d1_39) rfl rfl (l' := #[.val (.long q1), .second, .val (.ref w_UTF_8), .val (.ref w_VALUES), .val (.int (3 : Int32)), .val (.int (2 : Int32)), .val (.ref w_UTF_8)]) rfl h) ?_
      refine own_by (f' := (mkF m 13 #[.val (.long q1), .second, .val (.ref w_UTF_8), .val (.ref w_VALUES), .val (.int (3 : Int32)), .val (.int (2 : Int32)), .val (.ref w_UTF_8)] [])) (fun t h => XS.goto X10.here hx rfl (pc0 := 42) (pc' := 13) rfl (hb hby d1_42) (by decide) (by decide) h) ?_
      refine own_by (f' := (mkF m 15 #[.val (.long q1), .second, .val (.ref w_UTF_8), .val (.ref w_VALUES), .val (.int (3 : Int32)), .val (.int (2 : Int32)), .val (.ref w_UTF_8)] [(.int (2 : Int32))])) (fun t h => XS.iload X10.here hx rfl (hb hby d1_13) rfl h) ?_
      refine own_by (f' := (mkF m 17 #[.val (.long q1), .second, .val (.ref w_UTF_8), .val (.ref w_VALUES), .val (.int (3 : Int32)), .val (.int (2 : Int32)), .val (.ref w_UTF_8)] [(.int (3 : Int32)), (.int (2 : Int32))])) (fun t h => XS.iload X10.here hx rfl (hb hby d1_15) rfl h) ?_
      refine own_by (f' := (mkF m 20 #[.val (.long q1), .second, .val (.ref w_UTF_8), .val (.ref w_VALUES), .val (.int (3 : Int32)), .val (.int (2 : Int32)), .val (.ref w_UTF_8)] [])) (fun t h => XS.icmpNo X10.here hx rfl (hb hby d1_17) rfl (by decide) h) ?_
      refine own_by (f' := (mkF m 21 #[.val (.long q1), .second, .val (.ref w_UTF_8), .val (.ref w_VALUES), .val (.int (3 : Int32)), .val (.int (2 : Int32)), .val (.ref w_UTF_8)] [(.ref w_VALUES)])) (fun t h => XS.aloadN X10.here hx rfl (hb hby d1_20) rfl rfl h) ?_
      refine own_by (f' := (mkF m 23 #[.val (.long q1), .second, .val (.ref w_UTF_8), .val (.ref w_VALUES), .val (.int (3 : Int32)), .val (.int (2 : Int32)), .val (.ref w_UTF_8)] [(.int (2 : Int32)), (.ref w_VALUES)])) (fun t h => XS.iload X10.here hx rfl (hb hby d1_21) rfl h) ?_
      refine own_by (f' := (mkF m 24 #[.val (.long q1), .second, .val (.ref w_UTF_8), .val (.ref w_VALUES), .val (.int (3 : Int32)), .val (.int (2 : Int32)), .val (.ref w_UTF_8)] [(.ref w_UTF_16)])) (fun t h => X10.aaload hx (j := (2 : Int32)) (v := (.ref w_UTF_16)) (by rw [e10]; exact Ar.1) (State.isArrayOf_alike hZ.alike Ar.2.1) rfl Ar.2.2 (by rw [hlen]; decide) hat2 (g := (mkF m 23 #[.val (.long q1), .second, .val (.ref w_UTF_8), .val (.ref w_VALUES), .val (.int (3 : Int32)), .val (.int (2 : Int32)), .val (.ref w_UTF_8)] [(.int (2 : Int32)), (.ref w_VALUES)])) rfl rfl (hb hby d1_23) t h) ?_
      refine own_by (f' := (mkF m 26 #[.val (.long q1), .second, .val (.ref w_UTF_8), .val (.ref w_VALUES), .val (.int (3 : Int32)), .val (.int (2 : Int32)), .val (.ref w_UTF_16)] [])) (fun t h => XS.astore X10.here hx rfl (hb hby d1_24) rfl rfl (l' := #[.val (.long q1), .second, .val (.ref w_UTF_8), .val (.ref w_VALUES), .val (.int (3 : Int32)), .val (.int (2 : Int32)), .val (.ref w_UTF_16)]) rfl h) ?_
      refine own_by (f' := (mkF m 28 #[.val (.long q1), .second, .val (.ref w_UTF_8), .val (.ref w_VALUES), .val (.int (3 : Int32)), .val (.int (2 : Int32)), .val (.ref w_UTF_16)] [(.ref w_UTF_16)])) (fun t h => XS.aload X10.here hx rfl (hb hby d1_26) rfl rfl h) ?_
      obtain ⟨T12, X12, e12, st12⟩ := getF X10 hx hZ hown (host := "") (Or.inl (hw _ (List.mem_of_getElem? (i := 12) rfl))) Via.refl e10 F_id_UTF_16 (g := (mkF m 28 #[.val (.long q1), .second, .val (.ref w_UTF_8), .val (.ref w_VALUES), .val (.int (3 : Int32)), .val (.int (2 : Int32)), .val (.ref w_UTF_16)] [(.ref w_UTF_16)])) rfl rfl (hb hby d1_28)
      refine own_by (f' := (mkF m 31 #[.val (.long q1), .second, .val (.ref w_UTF_8), .val (.ref w_VALUES), .val (.int (3 : Int32)), .val (.int (2 : Int32)), .val (.ref w_UTF_16)] [(.long (65801 : Int64))])) st12 ?_
      refine own_by (f' := (mkF m 32 #[.val (.long q1), .second, .val (.ref w_UTF_8), .val (.ref w_VALUES), .val (.int (3 : Int32)), .val (.int (2 : Int32)), .val (.ref w_UTF_16)] [(.long q1), (.long (65801 : Int64))])) (fun t h => XT.lloadN X12.here hx rfl (hb hby d1_31) rfl h) ?_
      refine own_by (f' := (mkF m 33 #[.val (.long q1), .second, .val (.ref w_UTF_8), .val (.ref w_VALUES), .val (.int (3 : Int32)), .val (.int (2 : Int32)), .val (.ref w_UTF_16)] [(.int (XT.cmpL (65801 : Int64) q1))])) (fun t h => XT.lcmp X12.here hx rfl (hb hby d1_32) rfl h) ?_
      by_cases hc33_13 : (65801 : Int64) = q1
      · refine own_by (f' := (mkF m 36 #[.val (.long q1), .second, .val (.ref w_UTF_8), .val (.ref w_VALUES), .val (.int (3 : Int32)), .val (.int (2 : Int32)), .val (.ref w_UTF_16)] [])) (fun t h => XS.ifNo X12.here hx rfl (hb hby d1_33) rfl ((if0 _ _).trans (teq (own_cmp0 hc33_13)).2) h) ?_
        refine own_by (f' := (mkF m 38 #[.val (.long q1), .second, .val (.ref w_UTF_8), .val (.ref w_VALUES), .val (.int (3 : Int32)), .val (.int (2 : Int32)), .val (.ref w_UTF_16)] [(.ref w_UTF_16)])) (fun t h => XS.aload X12.here hx rfl (hb hby d1_36) rfl rfl h) ?_
        refine own_by (f' := (mkF m 39 #[.val (.long q1), .second, .val (.ref w_UTF_16), .val (.ref w_VALUES), .val (.int (3 : Int32)), .val (.int (2 : Int32)), .val (.ref w_UTF_16)] [])) (fun t h => XS.astoreN X12.here hx rfl (hb hby d1_38) rfl rfl (l' := #[.val (.long q1), .second, .val (.ref w_UTF_16), .val (.ref w_VALUES), .val (.int (3 : Int32)), .val (.int (2 : Int32)), .val (.ref w_UTF_16)]) rfl h) ?_
        refine own_by (f' := (mkF m 42 #[.val (.long q1), .second, .val (.ref w_UTF_16), .val (.ref w_VALUES), .val (.int (3 : Int32)), .val (.int (3 : Int32)), .val (.ref w_UTF_16)] [])) (fun t h => XT.iincV X12.here hx rfl (1 : Int32) (hb hby d1_39) rfl rfl (l' := #[.val (.long q1), .second, .val (.ref w_UTF_16), .val (.ref w_VALUES), .val (.int (3 : Int32)), .val (.int (3 : Int32)), .val (.ref w_UTF_16)]) rfl h) ?_
        refine own_by (f' := (mkF m 13 #[.val (.long q1), .second, .val (.ref w_UTF_16), .val (.ref w_VALUES), .val (.int (3 : Int32)), .val (.int (3 : Int32)), .val (.ref w_UTF_16)] [])) (fun t h => XS.goto X12.here hx rfl (pc0 := 42) (pc' := 13) rfl (hb hby d1_42) (by decide) (by decide) h) ?_
        refine own_by (f' := (mkF m 15 #[.val (.long q1), .second, .val (.ref w_UTF_16), .val (.ref w_VALUES), .val (.int (3 : Int32)), .val (.int (3 : Int32)), .val (.ref w_UTF_16)] [(.int (3 : Int32))])) (fun t h => XS.iload X12.here hx rfl (hb hby d1_13) rfl h) ?_
        refine own_by (f' := (mkF m 17 #[.val (.long q1), .second, .val (.ref w_UTF_16), .val (.ref w_VALUES), .val (.int (3 : Int32)), .val (.int (3 : Int32)), .val (.ref w_UTF_16)] [(.int (3 : Int32)), (.int (3 : Int32))])) (fun t h => XS.iload X12.here hx rfl (hb hby d1_15) rfl h) ?_
        refine own_by (f' := (mkF m 45 #[.val (.long q1), .second, .val (.ref w_UTF_16), .val (.ref w_VALUES), .val (.int (3 : Int32)), .val (.int (3 : Int32)), .val (.ref w_UTF_16)] [])) (fun t h => XS.icmpYes X12.here hx rfl (pc0 := 17) (pc' := 45) rfl (hb hby d1_17) rfl (by decide) (by decide) (by decide) h) ?_
        refine own_by (f' := (mkF m 46 #[.val (.long q1), .second, .val (.ref w_UTF_16), .val (.ref w_VALUES), .val (.int (3 : Int32)), .val (.int (3 : Int32)), .val (.ref w_UTF_16)] [(.ref w_UTF_16)])) (fun t h => XS.aloadN X12.here hx rfl (hb hby d1_45) rfl rfl h) ?_
        obtain ⟨fs, hr, hrun, hended, hW, hsame⟩ := X12.leave (v := some (.ref w_UTF_16)) (fun h => by rw [Bd.returns] at h; cases h)
        refine own_mk ⟨_, _, retOut X12 hx Bd.returns rfl (Or.inr (Or.inr (Or.inr (Or.inr ⟨rfl, rfl, rfl⟩)))) (hb hby d1_46) hr, hrun, hended, _, _, rfl, ?_, ⟨_, rfl⟩, hW, hsame.mono (by decide) (by decide)⟩
        show Q1 q1 w_ISO_8859_1 w_UTF_8 w_UTF_16 h0 n0 _ T12.heap _
        rw [e12]
        exact ⟨(congrArg some (if_pos hc33_13)).symm, N0, rfl⟩
      · refine own_by (f' := (mkF m 39 #[.val (.long q1), .second, .val (.ref w_UTF_8), .val (.ref w_VALUES), .val (.int (3 : Int32)), .val (.int (2 : Int32)), .val (.ref w_UTF_16)] [])) (fun t h => XS.ifYes X12.here hx rfl (pc0 := 33) (pc' := 39) rfl (hb hby d1_33) rfl ((if0 _ _).trans (feq (own_cmp1 hc33_13)).2) (by decide) (by decide) h) ?_
        refine own_by (f' := (mkF m 42 #[.val (.long q1), .second, .val (.ref w_UTF_8), .val (.ref w_VALUES), .val (.int (3 : Int32)), .val (.int (3 : Int32)), .val (.ref w_UTF_16)] [])) (fun t h => XT.iincV X12.here hx rfl (1 : Int32) (hb hby d1_39) rfl rfl (l' := #[.val (.long q1), .second, .val (.ref w_UTF_8), .val (.ref w_VALUES), .val (.int (3 : Int32)), .val (.int (3 : Int32)), .val (.ref w_UTF_16)]) rfl h) ?_
        refine own_by (f' := (mkF m 13 #[.val (.long q1), .second, .val (.ref w_UTF_8), .val (.ref w_VALUES), .val (.int (3 : Int32)), .val (.int (3 : Int32)), .val (.ref w_UTF_16)] [])) (fun t h => XS.goto X12.here hx rfl (pc0 := 42) (pc' := 13) rfl (hb hby d1_42) (by decide) (by decide) h) ?_
        refine own_by (f' := (mkF m 15 #[.val (.long q1), .second, .val (.ref w_UTF_8), .val (.ref w_VALUES), .val (.int (3 : Int32)), .val (.int (3 : Int32)), .val (.ref w_UTF_16)] [(.int (3 : Int32))])) (fun t h => XS.iload X12.here hx rfl (hb hby d1_13) rfl h) ?_
        refine own_by (f' := (mkF m 17 #[.val (.long q1), .second, .val (.ref w_UTF_8), .val (.ref w_VALUES), .val (.int (3 : Int32)), .val (.int (3 : Int32)), .val (.ref w_UTF_16)] [(.int (3 : Int32)), (.int (3 : Int32))])) (fun t h => XS.iload X12.here hx rfl (hb hby d1_15) rfl h) ?_
        refine own_by (f' := (mkF m 45 #[.val (.long q1), .second, .val (.ref w_UTF_8), .val (.ref w_VALUES), .val (.int (3 : Int32)), .val (.int (3 : Int32)), .val (.ref w_UTF_16)] [])) (fun t h => XS.icmpYes X12.here hx rfl (pc0 := 17) (pc' := 45) rfl (hb hby d1_17) rfl (by decide) (by decide) (by decide) h) ?_
        refine own_by (f' := (mkF m 46 #[.val (.long q1), .second, .val (.ref w_UTF_8), .val (.ref w_VALUES), .val (.int (3 : Int32)), .val (.int (3 : Int32)), .val (.ref w_UTF_16)] [(.ref w_UTF_8)])) (fun t h => XS.aloadN X12.here hx rfl (hb hby d1_45) rfl rfl h) ?_
        obtain ⟨fs, hr, hrun, hended, hW, hsame⟩ := X12.leave (v := some (.ref w_UTF_8)) (fun h => by rw [Bd.returns] at h; cases h)
        refine own_mk ⟨_, _, retOut X12 hx Bd.returns rfl (Or.inr (Or.inr (Or.inr (Or.inr ⟨rfl, rfl, rfl⟩)))) (hb hby d1_46) hr, hrun, hended, _, _, rfl, ?_, ⟨_, rfl⟩, hW, hsame.mono (by decide) (by decide)⟩
        show Q1 q1 w_ISO_8859_1 w_UTF_8 w_UTF_16 h0 n0 _ T12.heap _
        rw [e12]
        exact ⟨(congrArg some ((if_neg hc33_13).trans (if_pos hc33_11))).symm, N0, rfl⟩
    · refine own_by (f' := (mkF m 39 #[.val (.long q1), .second, .val .null, .val (.ref w_VALUES), .val (.int (3 : Int32)), .val (.int (1 : Int32)), .val (.ref w_UTF_8)] [])) (fun t h => XS.ifYes X10.here hx rfl (pc0 := 33) (pc' := 39) rfl (hb hby d1_33) rfl ((if0 _ _).trans (feq (own_cmp1 hc33_11)).2) (by decide) (by decide) h) ?_
      refine own_by (f' := (mkF m 42 #[.val (.long q1), .second, .val .null, .val (.ref w_VALUES), .val (.int (3 : Int32)), .val (.int (2 : Int32)), .val (.ref w_UTF_8)] [])) (fun t h => XT.iincV X10.here hx rfl (1 : Int32) (hb hby d1_39) rfl rfl (l' := #[.val (.long q1), .second, .val .null, .val (.ref w_VALUES), .val (.int (3 : Int32)), .val (.int (2 : Int32)), .val (.ref w_UTF_8)]) rfl h) ?_
      refine own_by (f' := (mkF m 13 #[.val (.long q1), .second, .val .null, .val (.ref w_VALUES), .val (.int (3 : Int32)), .val (.int (2 : Int32)), .val (.ref w_UTF_8)] [])) (fun t h => XS.goto X10.here hx rfl (pc0 := 42) (pc' := 13) rfl (hb hby d1_42) (by decide) (by decide) h) ?_
      refine own_by (f' := (mkF m 15 #[.val (.long q1), .second, .val .null, .val (.ref w_VALUES), .val (.int (3 : Int32)), .val (.int (2 : Int32)), .val (.ref w_UTF_8)] [(.int (2 : Int32))])) (fun t h => XS.iload X10.here hx rfl (hb hby d1_13) rfl h) ?_
      refine own_by (f' := (mkF m 17 #[.val (.long q1), .second, .val .null, .val (.ref w_VALUES), .val (.int (3 : Int32)), .val (.int (2 : Int32)), .val (.ref w_UTF_8)] [(.int (3 : Int32)), (.int (2 : Int32))])) (fun t h => XS.iload X10.here hx rfl (hb hby d1_15) rfl h) ?_
      refine own_by (f' := (mkF m 20 #[.val (.long q1), .second, .val .null, .val (.ref w_VALUES), .val (.int (3 : Int32)), .val (.int (2 : Int32)), .val (.ref w_UTF_8)] [])) (fun t h => XS.icmpNo X10.here hx rfl (hb hby d1_17) rfl (by decide) h) ?_
      refine own_by (f' := (mkF m 21 #[.val (.long q1), .second, .val .null, .val (.ref w_VALUES), .val (.int (3 : Int32)), .val (.int (2 : Int32)), .val (.ref w_UTF_8)] [(.ref w_VALUES)])) (fun t h => XS.aloadN X10.here hx rfl (hb hby d1_20) rfl rfl h) ?_
      refine own_by (f' := (mkF m 23 #[.val (.long q1), .second, .val .null, .val (.ref w_VALUES), .val (.int (3 : Int32)), .val (.int (2 : Int32)), .val (.ref w_UTF_8)] [(.int (2 : Int32)), (.ref w_VALUES)])) (fun t h => XS.iload X10.here hx rfl (hb hby d1_21) rfl h) ?_
      refine own_by (f' := (mkF m 24 #[.val (.long q1), .second, .val .null, .val (.ref w_VALUES), .val (.int (3 : Int32)), .val (.int (2 : Int32)), .val (.ref w_UTF_8)] [(.ref w_UTF_16)])) (fun t h => X10.aaload hx (j := (2 : Int32)) (v := (.ref w_UTF_16)) (by rw [e10]; exact Ar.1) (State.isArrayOf_alike hZ.alike Ar.2.1) rfl Ar.2.2 (by rw [hlen]; decide) hat2 (g := (mkF m 23 #[.val (.long q1), .second, .val .null, .val (.ref w_VALUES), .val (.int (3 : Int32)), .val (.int (2 : Int32)), .val (.ref w_UTF_8)] [(.int (2 : Int32)), (.ref w_VALUES)])) rfl rfl (hb hby d1_23) t h) ?_
      refine own_by (f' := (mkF m 26 #[.val (.long q1), .second, .val .null, .val (.ref w_VALUES), .val (.int (3 : Int32)), .val (.int (2 : Int32)), .val (.ref w_UTF_16)] [])) (fun t h => XS.astore X10.here hx rfl (hb hby d1_24) rfl rfl (l' := #[.val (.long q1), .second, .val .null, .val (.ref w_VALUES), .val (.int (3 : Int32)), .val (.int (2 : Int32)), .val (.ref w_UTF_16)]) rfl h) ?_
      refine own_by (f' := (mkF m 28 #[.val (.long q1), .second, .val .null, .val (.ref w_VALUES), .val (.int (3 : Int32)), .val (.int (2 : Int32)), .val (.ref w_UTF_16)] [(.ref w_UTF_16)])) (fun t h => XS.aload X10.here hx rfl (hb hby d1_26) rfl rfl h) ?_
      obtain ⟨T14, X14, e14, st14⟩ := getF X10 hx hZ hown (host := "") (Or.inl (hw _ (List.mem_of_getElem? (i := 12) rfl))) Via.refl e10 F_id_UTF_16 (g := (mkF m 28 #[.val (.long q1), .second, .val .null, .val (.ref w_VALUES), .val (.int (3 : Int32)), .val (.int (2 : Int32)), .val (.ref w_UTF_16)] [(.ref w_UTF_16)])) rfl rfl (hb hby d1_28)
      refine own_by (f' := (mkF m 31 #[.val (.long q1), .second, .val .null, .val (.ref w_VALUES), .val (.int (3 : Int32)), .val (.int (2 : Int32)), .val (.ref w_UTF_16)] [(.long (65801 : Int64))])) st14 ?_
      refine own_by (f' := (mkF m 32 #[.val (.long q1), .second, .val .null, .val (.ref w_VALUES), .val (.int (3 : Int32)), .val (.int (2 : Int32)), .val (.ref w_UTF_16)] [(.long q1), (.long (65801 : Int64))])) (fun t h => XT.lloadN X14.here hx rfl (hb hby d1_31) rfl h) ?_
      refine own_by (f' := (mkF m 33 #[.val (.long q1), .second, .val .null, .val (.ref w_VALUES), .val (.int (3 : Int32)), .val (.int (2 : Int32)), .val (.ref w_UTF_16)] [(.int (XT.cmpL (65801 : Int64) q1))])) (fun t h => XT.lcmp X14.here hx rfl (hb hby d1_32) rfl h) ?_
      by_cases hc33_15 : (65801 : Int64) = q1
      · refine own_by (f' := (mkF m 36 #[.val (.long q1), .second, .val .null, .val (.ref w_VALUES), .val (.int (3 : Int32)), .val (.int (2 : Int32)), .val (.ref w_UTF_16)] [])) (fun t h => XS.ifNo X14.here hx rfl (hb hby d1_33) rfl ((if0 _ _).trans (teq (own_cmp0 hc33_15)).2) h) ?_
        refine own_by (f' := (mkF m 38 #[.val (.long q1), .second, .val .null, .val (.ref w_VALUES), .val (.int (3 : Int32)), .val (.int (2 : Int32)), .val (.ref w_UTF_16)] [(.ref w_UTF_16)])) (fun t h => XS.aload X14.here hx rfl (hb hby d1_36) rfl rfl h) ?_
        refine own_by (f' := (mkF m 39 #[.val (.long q1), .second, .val (.ref w_UTF_16), .val (.ref w_VALUES), .val (.int (3 : Int32)), .val (.int (2 : Int32)), .val (.ref w_UTF_16)] [])) (fun t h => XS.astoreN X14.here hx rfl (hb hby d1_38) rfl rfl (l' := #[.val (.long q1), .second, .val (.ref w_UTF_16), .val (.ref w_VALUES), .val (.int (3 : Int32)), .val (.int (2 : Int32)), .val (.ref w_UTF_16)]) rfl h) ?_
        refine own_by (f' := (mkF m 42 #[.val (.long q1), .second, .val (.ref w_UTF_16), .val (.ref w_VALUES), .val (.int (3 : Int32)), .val (.int (3 : Int32)), .val (.ref w_UTF_16)] [])) (fun t h => XT.iincV X14.here hx rfl (1 : Int32) (hb hby d1_39) rfl rfl (l' := #[.val (.long q1), .second, .val (.ref w_UTF_16), .val (.ref w_VALUES), .val (.int (3 : Int32)), .val (.int (3 : Int32)), .val (.ref w_UTF_16)]) rfl h) ?_
        refine own_by (f' := (mkF m 13 #[.val (.long q1), .second, .val (.ref w_UTF_16), .val (.ref w_VALUES), .val (.int (3 : Int32)), .val (.int (3 : Int32)), .val (.ref w_UTF_16)] [])) (fun t h => XS.goto X14.here hx rfl (pc0 := 42) (pc' := 13) rfl (hb hby d1_42) (by decide) (by decide) h) ?_
        refine own_by (f' := (mkF m 15 #[.val (.long q1), .second, .val (.ref w_UTF_16), .val (.ref w_VALUES), .val (.int (3 : Int32)), .val (.int (3 : Int32)), .val (.ref w_UTF_16)] [(.int (3 : Int32))])) (fun t h => XS.iload X14.here hx rfl (hb hby d1_13) rfl h) ?_
        refine own_by (f' := (mkF m 17 #[.val (.long q1), .second, .val (.ref w_UTF_16), .val (.ref w_VALUES), .val (.int (3 : Int32)), .val (.int (3 : Int32)), .val (.ref w_UTF_16)] [(.int (3 : Int32)), (.int (3 : Int32))])) (fun t h => XS.iload X14.here hx rfl (hb hby d1_15) rfl h) ?_
        refine own_by (f' := (mkF m 45 #[.val (.long q1), .second, .val (.ref w_UTF_16), .val (.ref w_VALUES), .val (.int (3 : Int32)), .val (.int (3 : Int32)), .val (.ref w_UTF_16)] [])) (fun t h => XS.icmpYes X14.here hx rfl (pc0 := 17) (pc' := 45) rfl (hb hby d1_17) rfl (by decide) (by decide) (by decide) h) ?_
        refine own_by (f' := (mkF m 46 #[.val (.long q1), .second, .val (.ref w_UTF_16), .val (.ref w_VALUES), .val (.int (3 : Int32)), .val (.int (3 : Int32)), .val (.ref w_UTF_16)] [(.ref w_UTF_16)])) (fun t h => XS.aloadN X14.here hx rfl (hb hby d1_45) rfl rfl h) ?_
        obtain ⟨fs, hr, hrun, hended, hW, hsame⟩ := X14.leave (v := some (.ref w_UTF_16)) (fun h => by rw [Bd.returns] at h; cases h)
        refine own_mk ⟨_, _, retOut X14 hx Bd.returns rfl (Or.inr (Or.inr (Or.inr (Or.inr ⟨rfl, rfl, rfl⟩)))) (hb hby d1_46) hr, hrun, hended, _, _, rfl, ?_, ⟨_, rfl⟩, hW, hsame.mono (by decide) (by decide)⟩
        show Q1 q1 w_ISO_8859_1 w_UTF_8 w_UTF_16 h0 n0 _ T14.heap _
        rw [e14]
        exact ⟨(congrArg some (if_pos hc33_15)).symm, N0, rfl⟩
      · refine own_by (f' := (mkF m 39 #[.val (.long q1), .second, .val .null, .val (.ref w_VALUES), .val (.int (3 : Int32)), .val (.int (2 : Int32)), .val (.ref w_UTF_16)] [])) (fun t h => XS.ifYes X14.here hx rfl (pc0 := 33) (pc' := 39) rfl (hb hby d1_33) rfl ((if0 _ _).trans (feq (own_cmp1 hc33_15)).2) (by decide) (by decide) h) ?_
        refine own_by (f' := (mkF m 42 #[.val (.long q1), .second, .val .null, .val (.ref w_VALUES), .val (.int (3 : Int32)), .val (.int (3 : Int32)), .val (.ref w_UTF_16)] [])) (fun t h => XT.iincV X14.here hx rfl (1 : Int32) (hb hby d1_39) rfl rfl (l' := #[.val (.long q1), .second, .val .null, .val (.ref w_VALUES), .val (.int (3 : Int32)), .val (.int (3 : Int32)), .val (.ref w_UTF_16)]) rfl h) ?_
        refine own_by (f' := (mkF m 13 #[.val (.long q1), .second, .val .null, .val (.ref w_VALUES), .val (.int (3 : Int32)), .val (.int (3 : Int32)), .val (.ref w_UTF_16)] [])) (fun t h => XS.goto X14.here hx rfl (pc0 := 42) (pc' := 13) rfl (hb hby d1_42) (by decide) (by decide) h) ?_
        refine own_by (f' := (mkF m 15 #[.val (.long q1), .second, .val .null, .val (.ref w_VALUES), .val (.int (3 : Int32)), .val (.int (3 : Int32)), .val (.ref w_UTF_16)] [(.int (3 : Int32))])) (fun t h => XS.iload X14.here hx rfl (hb hby d1_13) rfl h) ?_
        refine own_by (f' := (mkF m 17 #[.val (.long q1), .second, .val .null, .val (.ref w_VALUES), .val (.int (3 : Int32)), .val (.int (3 : Int32)), .val (.ref w_UTF_16)] [(.int (3 : Int32)), (.int (3 : Int32))])) (fun t h => XS.iload X14.here hx rfl (hb hby d1_15) rfl h) ?_
        refine own_by (f' := (mkF m 45 #[.val (.long q1), .second, .val .null, .val (.ref w_VALUES), .val (.int (3 : Int32)), .val (.int (3 : Int32)), .val (.ref w_UTF_16)] [])) (fun t h => XS.icmpYes X14.here hx rfl (pc0 := 17) (pc' := 45) rfl (hb hby d1_17) rfl (by decide) (by decide) (by decide) h) ?_
        refine own_by (f' := (mkF m 46 #[.val (.long q1), .second, .val .null, .val (.ref w_VALUES), .val (.int (3 : Int32)), .val (.int (3 : Int32)), .val (.ref w_UTF_16)] [.null])) (fun t h => XS.aloadN X14.here hx rfl (hb hby d1_45) rfl rfl h) ?_
        obtain ⟨fs, hr, hrun, hended, hW, hsame⟩ := X14.leave (v := some .null) (fun h => by rw [Bd.returns] at h; cases h)
        refine own_mk ⟨_, _, retOut X14 hx Bd.returns rfl (Or.inr (Or.inr (Or.inr (Or.inr ⟨rfl, rfl, rfl⟩)))) (hb hby d1_46) hr, hrun, hended, _, _, rfl, ?_, ⟨_, rfl⟩, hW, hsame.mono (by decide) (by decide)⟩
        show Q1 q1 w_ISO_8859_1 w_UTF_8 w_UTF_16 h0 n0 _ T14.heap _
        rw [e14]
        exact ⟨(congrArg some ((if_neg hc33_15).trans ((if_neg hc33_11).trans (if_neg hc33_3)))).symm, N0, rfl⟩
theorem own_pn0 : plainName "com/example/orbweave/orbweave/cdr/CodeSetByIdPinLaw" = true := by first | (simp [plainName, overriddenIn]; done) | decide +kernel
theorem own_ef0 (m : MethodId) (x0 : Int64) (x1 : Int32) : entryFrame m #[(.long x0), (.int x1)] maxLocals = mkF m 0 #[.val (.long x0), .second, .val (.int x1), .unset, .unset, .unset, .unset, .unset, .unset] [] := by first | (simp [entryFrame, mkF, argsToLocals, Value.category, maxLocals]; done) | rfl
def Q0 (n0 : Nat) (v : Option Value) (h : Heap) (L : List Loc) : Prop := v = some (.int 1) ∧ Fr n0 L
set_option maxRecDepth 65536 in
set_option maxHeartbeats 40000000 in
theorem rm0 (l : Launch) (Z : State) (a0 : Array Value) (hw : ∀ d ∈ tables_1, d.before a0 Z = true) (ws : List Jvm.Cond) (q1 : Int64) (p2 : Int32) (w_ISO_8859_1 w_UTF_8 w_UTF_16 w_VALUES : Addr) (h0 : Heap) (n0 : Nat) (Z0 : n0 ≤ h0.size) (S_ISO_8859_1 : Sta Z h0 "com/example/orbweave/orbweave/cdr/CodeSet" "ISO_8859_1" "Lcom/example/orbweave/orbweave/cdr/CodeSet;" (.ref w_ISO_8859_1)) (S_UTF_8 : Sta Z h0 "com/example/orbweave/orbweave/cdr/CodeSet" "UTF_8" "Lcom/example/orbweave/orbweave/cdr/CodeSet;" (.ref w_UTF_8)) (S_UTF_16 : Sta Z h0 "com/example/orbweave/orbweave/cdr/CodeSet" "UTF_16" "Lcom/example/orbweave/orbweave/cdr/CodeSet;" (.ref w_UTF_16)) (S_VALUES : Sta Z h0 "com/example/orbweave/orbweave/cdr/CodeSet" "VALUES" "[Lcom/example/orbweave/orbweave/cdr/CodeSet;" (.ref w_VALUES)) (cl : Cell) (Ar : Arr Z h0 w_VALUES cl (.object "com/example/orbweave/orbweave/cdr/CodeSet")) (hlen : cl.slots.size = 3) (hat0 : cl.slots[(0 : Int32).toNatClampNeg]? = some (.ref w_ISO_8859_1)) (hat1 : cl.slots[(1 : Int32).toNatClampNeg]? = some (.ref w_UTF_8)) (hat2 : cl.slots[(2 : Int32).toNatClampNeg]? = some (.ref w_UTF_16)) (F_id_ISO_8859_1 : Fld Z h0 w_ISO_8859_1 "com/example/orbweave/orbweave/cdr/CodeSet" "id" "J" (.long (65537 : Int64))) (F_id_UTF_8 : Fld Z h0 w_UTF_8 "com/example/orbweave/orbweave/cdr/CodeSet" "id" "J" (.long (83951617 : Int64))) (F_id_UTF_16 : Fld Z h0 w_UTF_16 "com/example/orbweave/orbweave/cdr/CodeSet" "id" "J" (.long (65801 : Int64))) :
    MetFree l x (head1 (Jvm.Cond.code x code maxLocals ret :: ws) room_1) (fun a U => a = #[(.long q1), (.int p2)] ∧ Z.Warmed39 U.vm ∧ U.heap = h0) (fun _ _ _ _ _ => True) (fun _ U o U' => ∃ v L, o = .returned v ∧ Q0 n0 v U'.heap L ∧ FrameEnd U o U' L room_1.cells room_1.slots) := by
  refine MetFree.of_bodySF (plainFor_of_name own_pn0) hisR ?_
  intro p e s m args below meth c s₁ Bd hml0 hP hK
  obtain ⟨rfl, hZ, hh⟩ := hP
  have hx := Bd.exec
  have hby := Bd.bytes
  have hml : c.maxLocals = 9 := hml0
  have hown : s.vm.findClass "com/example/orbweave/orbweave/cdr/CodeSetByIdPinLaw" = some m.cls := findClass_of_methodNamed Bd.named
  have hnm := (name_of_methodNamed Bd.named Bd.method).1
  have X0 : Stand p l e room_1 s m #[(.long q1), (.int p2)] below meth c s₁ [] 0 0 := Stand.of_body Bd
  have e0 : s₁.heap = h0 := by rw [← hh, Bd.state]; rfl
  have N0 := Fr.nil n0
  refine own_open (f := (mkF m 0 #[.val (.long q1), .second, .val (.int p2), .unset, .unset, .unset, .unset, .unset, .unset] [])) (fun t k => castTop (own_ef0 m q1 p2) k) ?_
  refine own_by (f' := (mkF m 1 #[.val (.long q1), .second, .val (.int p2), .unset, .unset, .unset, .unset, .unset, .unset] [(.int p2)])) (fun t h => XS.iloadN X0.here hx rfl (hb hby at_0) rfl h) ?_
  refine own_by (f' := (mkF m 3 #[.val (.long q1), .second, .val (.int p2), .unset, .unset, .unset, .unset, .unset, .unset] [(.int (7 : Int32)), (.int p2)])) (fun t h => XT.bipushV X0.here hx rfl (7 : Int32) (hb hby at_1) rfl h) ?_
  refine own_by (f' := (mkF m 4 #[.val (.long q1), .second, .val (.int p2), .unset, .unset, .unset, .unset, .unset, .unset] [(.int (p2 &&& (7 : Int32)))])) (fun t h => XS.iand X0.here hx rfl (hb hby at_3) rfl h) ?_
  refine own_by (f' := (mkF m 5 #[.val (.long q1), .second, .val (.int p2), .val (.int (p2 &&& (7 : Int32))), .unset, .unset, .unset, .unset, .unset] [])) (fun t h => XS.istoreN X0.here hx rfl (hb hby at_4) rfl (l' := #[.val (.long q1), .second, .val (.int p2), .val (.int (p2 &&& (7 : Int32))), .unset, .unset, .unset, .unset, .unset]) rfl h) ?_
  refine own_by (f' := (mkF m 6 #[.val (.long q1), .second, .val (.int p2), .val (.int (p2 &&& (7 : Int32))), .unset, .unset, .unset, .unset, .unset] [(.long q1)])) (fun t h => XT.lloadN X0.here hx rfl (hb hby at_5) rfl h) ?_
  refine own_by (f' := (mkF m 9 #[.val (.long q1), .second, .val (.int p2), .val (.int (p2 &&& (7 : Int32))), .unset, .unset, .unset, .unset, .unset] [(.long (63 : Int64)), (.long q1)])) (fun t h => X0.ldc2J hx hown (mvT hZ (hw _ (List.mem_of_getElem? (i := 0) rfl))) rfl (hb hby at_6) h) ?_
  refine own_by (f' := (mkF m 10 #[.val (.long q1), .second, .val (.int p2), .val (.int (p2 &&& (7 : Int32))), .unset, .unset, .unset, .unset, .unset] [(.long (q1 &&& (63 : Int64)))])) (fun t h => XT.land X0.here hx rfl (hb hby at_9) rfl h) ?_
  refine own_by (f' := (mkF m 11 #[.val (.long q1), .second, .val (.int p2), .val (.int (p2 &&& (7 : Int32))), .unset, .unset, .unset, .unset, .unset] [(.int ((q1 &&& (63 : Int64))).toInt32)])) (fun t h => XT.l2i X0.here hx rfl (hb hby at_10) rfl h) ?_
  refine own_by (f' := (mkF m 13 #[.val (.long q1), .second, .val (.int p2), .val (.int (p2 &&& (7 : Int32))), .val (.int ((q1 &&& (63 : Int64))).toInt32), .unset, .unset, .unset, .unset] [])) (fun t h => XS.istore X0.here hx rfl (hb hby at_11) rfl (l' := #[.val (.long q1), .second, .val (.int p2), .val (.int (p2 &&& (7 : Int32))), .val (.int ((q1 &&& (63 : Int64))).toInt32), .unset, .unset, .unset, .unset]) rfl h) ?_
  have K : ∀ id : Int64, own_Go p e below s (Q0 n0) room_1.cells room_1.slots s₁ (mkF m 110 #[.val (.long q1), .second, .val (.int p2), .val (.int (p2 &&& (7 : Int32))), .val (.int ((q1 &&& (63 : Int64))).toInt32), .val (.long id), .second, .unset, .unset] []) := by
    intro id
    refine own_by (f' := (mkF m 111 #[.val (.long q1), .second, .val (.int p2), .val (.int (p2 &&& (7 : Int32))), .val (.int ((q1 &&& (63 : Int64))).toInt32), .val (.long id), .second, .unset, .unset] [.null])) (fun t h => XS.aconstNull X0.here hx rfl (hb hby at_110) h) ?_
    refine own_by (f' := (mkF m 113 #[.val (.long q1), .second, .val (.int p2), .val (.int (p2 &&& (7 : Int32))), .val (.int ((q1 &&& (63 : Int64))).toInt32), .val (.long id), .second, .val .null, .unset] [])) (fun t h => XS.astore X0.here hx rfl (hb hby at_111) rfl rfl (l' := #[.val (.long q1), .second, .val (.int p2), .val (.int (p2 &&& (7 : Int32))), .val (.int ((q1 &&& (63 : Int64))).toInt32), .val (.long id), .second, .val .null, .unset]) rfl h) ?_
    refine own_by (f' := (mkF m 115 #[.val (.long q1), .second, .val (.int p2), .val (.int (p2 &&& (7 : Int32))), .val (.int ((q1 &&& (63 : Int64))).toInt32), .val (.long id), .second, .val .null, .unset] [(.long id)])) (fun t h => XT.lload X0.here hx rfl (hb hby at_113) rfl h) ?_
    refine own_by (f' := (mkF m 118 #[.val (.long q1), .second, .val (.int p2), .val (.int (p2 &&& (7 : Int32))), .val (.int ((q1 &&& (63 : Int64))).toInt32), .val (.long id), .second, .val .null, .unset] [(.long (65537 : Int64)), (.long id)])) (fun t h => X0.ldc2J hx hown (mvT hZ (hw _ (List.mem_of_getElem? (i := 2) rfl))) rfl (hb hby at_115) h) ?_
    refine own_by (f' := (mkF m 119 #[.val (.long q1), .second, .val (.int p2), .val (.int (p2 &&& (7 : Int32))), .val (.int ((q1 &&& (63 : Int64))).toInt32), .val (.long id), .second, .val .null, .unset] [(.int (XT.cmpL id (65537 : Int64)))])) (fun t h => XT.lcmp X0.here hx rfl (hb hby at_118) rfl h) ?_
    by_cases hc119_1 : id = (65537 : Int64)
    · refine own_by (f' := (mkF m 122 #[.val (.long q1), .second, .val (.int p2), .val (.int (p2 &&& (7 : Int32))), .val (.int ((q1 &&& (63 : Int64))).toInt32), .val (.long id), .second, .val .null, .unset] [])) (fun t h => XS.ifNo X0.here hx rfl (hb hby at_119) rfl ((if0 _ _).trans (teq (own_cmp0 hc119_1)).2) h) ?_
      obtain ⟨T2, X2, e2, st2⟩ := getS2 X0 hx hZ hown (host := "") (Or.inl (hw _ (List.mem_of_getElem? (i := 17) rfl))) Via.refl e0 S_ISO_8859_1 (g := (mkF m 122 #[.val (.long q1), .second, .val (.int p2), .val (.int (p2 &&& (7 : Int32))), .val (.int ((q1 &&& (63 : Int64))).toInt32), .val (.long id), .second, .val .null, .unset] [])) rfl (hb hby at_122)
      refine own_by (f' := (mkF m 125 #[.val (.long q1), .second, .val (.int p2), .val (.int (p2 &&& (7 : Int32))), .val (.int ((q1 &&& (63 : Int64))).toInt32), .val (.long id), .second, .val .null, .unset] [(.ref w_ISO_8859_1)])) st2 ?_
      refine own_by (f' := (mkF m 127 #[.val (.long q1), .second, .val (.int p2), .val (.int (p2 &&& (7 : Int32))), .val (.int ((q1 &&& (63 : Int64))).toInt32), .val (.long id), .second, .val (.ref w_ISO_8859_1), .unset] [])) (fun t h => XS.astore X2.here hx rfl (hb hby at_125) rfl rfl (l' := #[.val (.long q1), .second, .val (.int p2), .val (.int (p2 &&& (7 : Int32))), .val (.int ((q1 &&& (63 : Int64))).toInt32), .val (.long id), .second, .val (.ref w_ISO_8859_1), .unset]) rfl h) ?_
      refine own_by (f' := (mkF m 161 #[.val (.long q1), .second, .val (.int p2), .val (.int (p2 &&& (7 : Int32))), .val (.int ((q1 &&& (63 : Int64))).toInt32), .val (.long id), .second, .val (.ref w_ISO_8859_1), .unset] [])) (fun t h => XS.goto X2.here hx rfl (pc0 := 127) (pc' := 161) rfl (hb hby at_127) (by decide) (by decide) h) ?_
      refine own_by (f' := (mkF m 163 #[.val (.long q1), .second, .val (.int p2), .val (.int (p2 &&& (7 : Int32))), .val (.int ((q1 &&& (63 : Int64))).toInt32), .val (.long id), .second, .val (.ref w_ISO_8859_1), .unset] [(.long id)])) (fun t h => XT.lload X2.here hx rfl (hb hby at_161) rfl h) ?_
      obtain ⟨v3, _, ⟨T3, L3, k3, n3⟩, -, X3, ⟨Lc3, hQ3, l3, y3, z3⟩, st3⟩ := Jvm.LawKit.callS X2 hx (y := (⟨"com/example/orbweave/orbweave/cdr/CodeSet", "byId", "(J)Lcom/example/orbweave/orbweave/cdr/CodeSet;"⟩ : MethodName)) hown (mvT hZ (hw _ (List.mem_of_getElem? (i := 6) rfl))) (mvT hZ (hw _ (List.mem_of_getElem? (i := 7) rfl))) (mvT hZ (hw _ (List.mem_of_getElem? (i := 4) rfl))) (mvT hZ (hw _ (List.mem_of_getElem? (i := 8) rfl))) (by decide) (backOf (W := 0) (rm1 l Z a0 hw [] id w_ISO_8859_1 w_UTF_8 w_UTF_16 w_VALUES h0 n0 Z0 S_VALUES cl Ar hlen hat0 hat1 hat2 F_id_ISO_8859_1 F_id_UTF_8 F_id_UTF_16) hZ (hw _ (List.mem_of_getElem? (i := 8) rfl)) (hw _ (List.mem_of_getElem? (i := 4) rfl)) (by decide) (by decide)) (g := (mkF m 163 #[.val (.long q1), .second, .val (.int p2), .val (.int (p2 &&& (7 : Int32))), .val (.int ((q1 &&& (63 : Int64))).toInt32), .val (.long id), .second, .val (.ref w_ISO_8859_1), .unset] [(.long id)])) rfl (by rw [hml]; rfl) (argsL := [(.long id)]) (rest := []) (lenOf own_pd1 rfl) rfl (by show 2 * 0 + _ ≤ _; exact Nat.le_of_eq rfl) (hb hby at_163) (fun _ _ => ⟨rfl, e2, (by decide : 0 + 0 ≤ _), (by decide : 0 + 0 ≤ _)⟩)
      dsimp only [Pt.U, Pt.locs, Pt.cells, Pt.slots] at X3 l3 y3 z3 st3 hQ3
      subst l3 y3 z3
      obtain ⟨hv3, Nc3, e3⟩ := hQ3
      have N3 := Fr.app N0 Nc3
      obtain rfl : v3 = some (.ref w_ISO_8859_1) := hv3.trans (congrArg some ((if_neg (by rw [hc119_1]; decide)).trans ((if_neg (by rw [hc119_1]; decide)).trans (if_pos hc119_1.symm))))
      refine own_by (f' := (mkF m 166 #[.val (.long q1), .second, .val (.int p2), .val (.int (p2 &&& (7 : Int32))), .val (.int ((q1 &&& (63 : Int64))).toInt32), .val (.long id), .second, .val (.ref w_ISO_8859_1), .unset] [(.ref w_ISO_8859_1)])) st3 ?_
      refine own_by (f' := (mkF m 168 #[.val (.long q1), .second, .val (.int p2), .val (.int (p2 &&& (7 : Int32))), .val (.int ((q1 &&& (63 : Int64))).toInt32), .val (.long id), .second, .val (.ref w_ISO_8859_1), .val (.ref w_ISO_8859_1)] [])) (fun t h => XS.astore X3.here hx rfl (hb hby at_166) rfl rfl (l' := #[.val (.long q1), .second, .val (.int p2), .val (.int (p2 &&& (7 : Int32))), .val (.int ((q1 &&& (63 : Int64))).toInt32), .val (.long id), .second, .val (.ref w_ISO_8859_1), .val (.ref w_ISO_8859_1)]) rfl h) ?_
      refine own_by (f' := (mkF m 170 #[.val (.long q1), .second, .val (.int p2), .val (.int (p2 &&& (7 : Int32))), .val (.int ((q1 &&& (63 : Int64))).toInt32), .val (.long id), .second, .val (.ref w_ISO_8859_1), .val (.ref w_ISO_8859_1)] [(.ref w_ISO_8859_1)])) (fun t h => XS.aload X3.here hx rfl (hb hby at_168) rfl rfl h) ?_
      refine own_by (f' := (mkF m 172 #[.val (.long q1), .second, .val (.int p2), .val (.int (p2 &&& (7 : Int32))), .val (.int ((q1 &&& (63 : Int64))).toInt32), .val (.long id), .second, .val (.ref w_ISO_8859_1), .val (.ref w_ISO_8859_1)] [(.ref w_ISO_8859_1), (.ref w_ISO_8859_1)])) (fun t h => XS.aload X3.here hx rfl (hb hby at_170) rfl rfl h) ?_
      refine own_by (f' := (mkF m 175 #[.val (.long q1), .second, .val (.int p2), .val (.int (p2 &&& (7 : Int32))), .val (.int ((q1 &&& (63 : Int64))).toInt32), .val (.long id), .second, .val (.ref w_ISO_8859_1), .val (.ref w_ISO_8859_1)] [])) (fun t h => Jvm.RoadKit.acmp (g := (mkF m 172 #[.val (.long q1), .second, .val (.int p2), .val (.int (p2 &&& (7 : Int32))), .val (.int ((q1 &&& (63 : Int64))).toInt32), .val (.long id), .second, .val (.ref w_ISO_8859_1), .val (.ref w_ISO_8859_1)] [(.ref w_ISO_8859_1), (.ref w_ISO_8859_1)])) X3 hx rfl rfl rfl (pc0 := 172) (pc' := 175) (same := true) rfl (hb hby at_172) rfl (decide_eq_true rfl) (by decide) (by decide) h) ?_
      refine own_by (f' := (mkF m 176 #[.val (.long q1), .second, .val (.int p2), .val (.int (p2 &&& (7 : Int32))), .val (.int ((q1 &&& (63 : Int64))).toInt32), .val (.long id), .second, .val (.ref w_ISO_8859_1), .val (.ref w_ISO_8859_1)] [(.int (1 : Int32))])) (fun t h => XS.iconst X3.here hx rfl (hb hby at_175) h) ?_
      refine own_by (f' := (mkF m 180 #[.val (.long q1), .second, .val (.int p2), .val (.int (p2 &&& (7 : Int32))), .val (.int ((q1 &&& (63 : Int64))).toInt32), .val (.long id), .second, .val (.ref w_ISO_8859_1), .val (.ref w_ISO_8859_1)] [(.int (1 : Int32))])) (fun t h => XS.goto X3.here hx rfl (pc0 := 176) (pc' := 180) rfl (hb hby at_176) (by decide) (by decide) h) ?_
      obtain ⟨fs, hr, hrun, hended, hW, hsame⟩ := X3.leave (v := some (.int (1 : Int32))) (fun h => by rw [Bd.returns] at h; cases h)
      refine own_mk ⟨_, _, retN X3 hx (t := .boolean) Bd.returns (by simp) (hb hby at_180) hr, hrun, hended, _, _, rfl, ?_, ⟨_, rfl⟩, hW, hsame.mono (by decide) (by decide)⟩
      show Q0 n0 _ T3.heap _
      rw [e3]
      exact ⟨rfl, N3⟩
    · refine own_by (f' := (mkF m 130 #[.val (.long q1), .second, .val (.int p2), .val (.int (p2 &&& (7 : Int32))), .val (.int ((q1 &&& (63 : Int64))).toInt32), .val (.long id), .second, .val .null, .unset] [])) (fun t h => XS.ifYes X0.here hx rfl (pc0 := 119) (pc' := 130) rfl (hb hby at_119) rfl ((if0 _ _).trans (feq (own_cmp1 hc119_1)).2) (by decide) (by decide) h) ?_
      refine own_by (f' := (mkF m 132 #[.val (.long q1), .second, .val (.int p2), .val (.int (p2 &&& (7 : Int32))), .val (.int ((q1 &&& (63 : Int64))).toInt32), .val (.long id), .second, .val .null, .unset] [(.long id)])) (fun t h => XT.lload X0.here hx rfl (hb hby at_130) rfl h) ?_
      refine own_by (f' := (mkF m 135 #[.val (.long q1), .second, .val (.int p2), .val (.int (p2 &&& (7 : Int32))), .val (.int ((q1 &&& (63 : Int64))).toInt32), .val (.long id), .second, .val .null, .unset] [(.long (83951617 : Int64)), (.long id)])) (fun t h => X0.ldc2J hx hown (mvT hZ (hw _ (List.mem_of_getElem? (i := 1) rfl))) rfl (hb hby at_132) h) ?_
      refine own_by (f' := (mkF m 136 #[.val (.long q1), .second, .val (.int p2), .val (.int (p2 &&& (7 : Int32))), .val (.int ((q1 &&& (63 : Int64))).toInt32), .val (.long id), .second, .val .null, .unset] [(.int (XT.cmpL id (83951617 : Int64)))])) (fun t h => XT.lcmp X0.here hx rfl (hb hby at_135) rfl h) ?_
      by_cases hc136_4 : id = (83951617 : Int64)
      · refine own_by (f' := (mkF m 139 #[.val (.long q1), .second, .val (.int p2), .val (.int (p2 &&& (7 : Int32))), .val (.int ((q1 &&& (63 : Int64))).toInt32), .val (.long id), .second, .val .null, .unset] [])) (fun t h => XS.ifNo X0.here hx rfl (hb hby at_136) rfl ((if0 _ _).trans (teq (own_cmp0 hc136_4)).2) h) ?_
        obtain ⟨T5, X5, e5, st5⟩ := getS2 X0 hx hZ hown (host := "") (Or.inl (hw _ (List.mem_of_getElem? (i := 3) rfl))) Via.refl e0 S_UTF_8 (g := (mkF m 139 #[.val (.long q1), .second, .val (.int p2), .val (.int (p2 &&& (7 : Int32))), .val (.int ((q1 &&& (63 : Int64))).toInt32), .val (.long id), .second, .val .null, .unset] [])) rfl (hb hby at_139)
        refine own_by (f' := (mkF m 142 #[.val (.long q1), .second, .val (.int p2), .val (.int (p2 &&& (7 : Int32))), .val (.int ((q1 &&& (63 : Int64))).toInt32), .val (.long id), .second, .val .null, .unset] [(.ref w_UTF_8)])) st5 ?_
        refine own_by (f' := (mkF m 144 #[.val (.long q1), .second, .val (.int p2), .val (.int (p2 &&& (7 : Int32))), .val (.int ((q1 &&& (63 : Int64))).toInt32), .val (.long id), .second, .val (.ref w_UTF_8), .unset] [])) (fun t h => XS.astore X5.here hx rfl (hb hby at_142) rfl rfl (l' := #[.val (.long q1), .second, .val (.int p2), .val (.int (p2 &&& (7 : Int32))), .val (.int ((q1 &&& (63 : Int64))).toInt32), .val (.long id), .second, .val (.ref w_UTF_8), .unset]) rfl h) ?_
        refine own_by (f' := (mkF m 161 #[.val (.long q1), .second, .val (.int p2), .val (.int (p2 &&& (7 : Int32))), .val (.int ((q1 &&& (63 : Int64))).toInt32), .val (.long id), .second, .val (.ref w_UTF_8), .unset] [])) (fun t h => XS.goto X5.here hx rfl (pc0 := 144) (pc' := 161) rfl (hb hby at_144) (by decide) (by decide) h) ?_
        refine own_by (f' := (mkF m 163 #[.val (.long q1), .second, .val (.int p2), .val (.int (p2 &&& (7 : Int32))), .val (.int ((q1 &&& (63 : Int64))).toInt32), .val (.long id), .second, .val (.ref w_UTF_8), .unset] [(.long id)])) (fun t h => XT.lload X5.here hx rfl (hb hby at_161) rfl h) ?_
        obtain ⟨v6, _, ⟨T6, L6, k6, n6⟩, -, X6, ⟨Lc6, hQ6, l6, y6, z6⟩, st6⟩ := Jvm.LawKit.callS X5 hx (y := (⟨"com/example/orbweave/orbweave/cdr/CodeSet", "byId", "(J)Lcom/example/orbweave/orbweave/cdr/CodeSet;"⟩ : MethodName)) hown (mvT hZ (hw _ (List.mem_of_getElem? (i := 6) rfl))) (mvT hZ (hw _ (List.mem_of_getElem? (i := 7) rfl))) (mvT hZ (hw _ (List.mem_of_getElem? (i := 4) rfl))) (mvT hZ (hw _ (List.mem_of_getElem? (i := 8) rfl))) (by decide) (backOf (W := 0) (rm1 l Z a0 hw [] id w_ISO_8859_1 w_UTF_8 w_UTF_16 w_VALUES h0 n0 Z0 S_VALUES cl Ar hlen hat0 hat1 hat2 F_id_ISO_8859_1 F_id_UTF_8 F_id_UTF_16) hZ (hw _ (List.mem_of_getElem? (i := 8) rfl)) (hw _ (List.mem_of_getElem? (i := 4) rfl)) (by decide) (by decide)) (g := (mkF m 163 #[.val (.long q1), .second, .val (.int p2), .val (.int (p2 &&& (7 : Int32))), .val (.int ((q1 &&& (63 : Int64))).toInt32), .val (.long id), .second, .val (.ref w_UTF_8), .unset] [(.long id)])) rfl (by rw [hml]; rfl) (argsL := [(.long id)]) (rest := []) (lenOf own_pd1 rfl) rfl (by show 2 * 0 + _ ≤ _; exact Nat.le_of_eq rfl) (hb hby at_163) (fun _ _ => ⟨rfl, e5, (by decide : 0 + 0 ≤ _), (by decide : 0 + 0 ≤ _)⟩)
        dsimp only [Pt.U, Pt.locs, Pt.cells, Pt.slots] at X6 l6 y6 z6 st6 hQ6
        subst l6 y6 z6
        obtain ⟨hv6, Nc6, e6⟩ := hQ6
        have N6 := Fr.app N0 Nc6
        obtain rfl : v6 = some (.ref w_UTF_8) := hv6.trans (congrArg some ((if_neg (by rw [hc136_4]; decide)).trans (if_pos hc136_4.symm)))
        refine own_by (f' := (mkF m 166 #[.val (.long q1), .second, .val (.int p2), .val (.int (p2 &&& (7 : Int32))), .val (.int ((q1 &&& (63 : Int64))).toInt32), .val (.long id), .second, .val (.ref w_UTF_8), .unset] [(.ref w_UTF_8)])) st6 ?_
        refine own_by (f' := (mkF m 168 #[.val (.long q1), .second, .val (.int p2), .val (.int (p2 &&& (7 : Int32))), .val (.int ((q1 &&& (63 : Int64))).toInt32), .val (.long id), .second, .val (.ref w_UTF_8), .val (.ref w_UTF_8)] [])) (fun t h => XS.astore X6.here hx rfl (hb hby at_166) rfl rfl (l' := #[.val (.long q1), .second, .val (.int p2), .val (.int (p2 &&& (7 : Int32))), .val (.int ((q1 &&& (63 : Int64))).toInt32), .val (.long id), .second, .val (.ref w_UTF_8), .val (.ref w_UTF_8)]) rfl h) ?_
        refine own_by (f' := (mkF m 170 #[.val (.long q1), .second, .val (.int p2), .val (.int (p2 &&& (7 : Int32))), .val (.int ((q1 &&& (63 : Int64))).toInt32), .val (.long id), .second, .val (.ref w_UTF_8), .val (.ref w_UTF_8)] [(.ref w_UTF_8)])) (fun t h => XS.aload X6.here hx rfl (hb hby at_168) rfl rfl h) ?_
        refine own_by (f' := (mkF m 172 #[.val (.long q1), .second, .val (.int p2), .val (.int (p2 &&& (7 : Int32))), .val (.int ((q1 &&& (63 : Int64))).toInt32), .val (.long id), .second, .val (.ref w_UTF_8), .val (.ref w_UTF_8)] [(.ref w_UTF_8), (.ref w_UTF_8)])) (fun t h => XS.aload X6.here hx rfl (hb hby at_170) rfl rfl h) ?_
        refine own_by (f' := (mkF m 175 #[.val (.long q1), .second, .val (.int p2), .val (.int (p2 &&& (7 : Int32))), .val (.int ((q1 &&& (63 : Int64))).toInt32), .val (.long id), .second, .val (.ref w_UTF_8), .val (.ref w_UTF_8)] [])) (fun t h => Jvm.RoadKit.acmp (g := (mkF m 172 #[.val (.long q1), .second, .val (.int p2), .val (.int (p2 &&& (7 : Int32))), .val (.int ((q1 &&& (63 : Int64))).toInt32), .val (.long id), .second, .val (.ref w_UTF_8), .val (.ref w_UTF_8)] [(.ref w_UTF_8), (.ref w_UTF_8)])) X6 hx rfl rfl rfl (pc0 := 172) (pc' := 175) (same := true) rfl (hb hby at_172) rfl (decide_eq_true rfl) (by decide) (by decide) h) ?_
        refine own_by (f' := (mkF m 176 #[.val (.long q1), .second, .val (.int p2), .val (.int (p2 &&& (7 : Int32))), .val (.int ((q1 &&& (63 : Int64))).toInt32), .val (.long id), .second, .val (.ref w_UTF_8), .val (.ref w_UTF_8)] [(.int (1 : Int32))])) (fun t h => XS.iconst X6.here hx rfl (hb hby at_175) h) ?_
        refine own_by (f' := (mkF m 180 #[.val (.long q1), .second, .val (.int p2), .val (.int (p2 &&& (7 : Int32))), .val (.int ((q1 &&& (63 : Int64))).toInt32), .val (.long id), .second, .val (.ref w_UTF_8), .val (.ref w_UTF_8)] [(.int (1 : Int32))])) (fun t h => XS.goto X6.here hx rfl (pc0 := 176) (pc' := 180) rfl (hb hby at_176) (by decide) (by decide) h) ?_
        obtain ⟨fs, hr, hrun, hended, hW, hsame⟩ := X6.leave (v := some (.int (1 : Int32))) (fun h => by rw [Bd.returns] at h; cases h)
        refine own_mk ⟨_, _, retN X6 hx (t := .boolean) Bd.returns (by simp) (hb hby at_180) hr, hrun, hended, _, _, rfl, ?_, ⟨_, rfl⟩, hW, hsame.mono (by decide) (by decide)⟩
        show Q0 n0 _ T6.heap _
        rw [e6]
        exact ⟨rfl, N6⟩
      · refine own_by (f' := (mkF m 147 #[.val (.long q1), .second, .val (.int p2), .val (.int (p2 &&& (7 : Int32))), .val (.int ((q1 &&& (63 : Int64))).toInt32), .val (.long id), .second, .val .null, .unset] [])) (fun t h => XS.ifYes X0.here hx rfl (pc0 := 136) (pc' := 147) rfl (hb hby at_136) rfl ((if0 _ _).trans (feq (own_cmp1 hc136_4)).2) (by decide) (by decide) h) ?_
        refine own_by (f' := (mkF m 149 #[.val (.long q1), .second, .val (.int p2), .val (.int (p2 &&& (7 : Int32))), .val (.int ((q1 &&& (63 : Int64))).toInt32), .val (.long id), .second, .val .null, .unset] [(.long id)])) (fun t h => XT.lload X0.here hx rfl (hb hby at_147) rfl h) ?_
        refine own_by (f' := (mkF m 152 #[.val (.long q1), .second, .val (.int p2), .val (.int (p2 &&& (7 : Int32))), .val (.int ((q1 &&& (63 : Int64))).toInt32), .val (.long id), .second, .val .null, .unset] [(.long (65801 : Int64)), (.long id)])) (fun t h => X0.ldc2J hx hown (mvT hZ (hw _ (List.mem_of_getElem? (i := 15) rfl))) rfl (hb hby at_149) h) ?_
        refine own_by (f' := (mkF m 153 #[.val (.long q1), .second, .val (.int p2), .val (.int (p2 &&& (7 : Int32))), .val (.int ((q1 &&& (63 : Int64))).toInt32), .val (.long id), .second, .val .null, .unset] [(.int (XT.cmpL id (65801 : Int64)))])) (fun t h => XT.lcmp X0.here hx rfl (hb hby at_152) rfl h) ?_
        by_cases hc153_7 : id = (65801 : Int64)
        · refine own_by (f' := (mkF m 156 #[.val (.long q1), .second, .val (.int p2), .val (.int (p2 &&& (7 : Int32))), .val (.int ((q1 &&& (63 : Int64))).toInt32), .val (.long id), .second, .val .null, .unset] [])) (fun t h => XS.ifNo X0.here hx rfl (hb hby at_153) rfl ((if0 _ _).trans (teq (own_cmp0 hc153_7)).2) h) ?_
          obtain ⟨T8, X8, e8, st8⟩ := getS2 X0 hx hZ hown (host := "") (Or.inl (hw _ (List.mem_of_getElem? (i := 16) rfl))) Via.refl e0 S_UTF_16 (g := (mkF m 156 #[.val (.long q1), .second, .val (.int p2), .val (.int (p2 &&& (7 : Int32))), .val (.int ((q1 &&& (63 : Int64))).toInt32), .val (.long id), .second, .val .null, .unset] [])) rfl (hb hby at_156)
          refine own_by (f' := (mkF m 159 #[.val (.long q1), .second, .val (.int p2), .val (.int (p2 &&& (7 : Int32))), .val (.int ((q1 &&& (63 : Int64))).toInt32), .val (.long id), .second, .val .null, .unset] [(.ref w_UTF_16)])) st8 ?_
          refine own_by (f' := (mkF m 161 #[.val (.long q1), .second, .val (.int p2), .val (.int (p2 &&& (7 : Int32))), .val (.int ((q1 &&& (63 : Int64))).toInt32), .val (.long id), .second, .val (.ref w_UTF_16), .unset] [])) (fun t h => XS.astore X8.here hx rfl (hb hby at_159) rfl rfl (l' := #[.val (.long q1), .second, .val (.int p2), .val (.int (p2 &&& (7 : Int32))), .val (.int ((q1 &&& (63 : Int64))).toInt32), .val (.long id), .second, .val (.ref w_UTF_16), .unset]) rfl h) ?_
          refine own_by (f' := (mkF m 163 #[.val (.long q1), .second, .val (.int p2), .val (.int (p2 &&& (7 : Int32))), .val (.int ((q1 &&& (63 : Int64))).toInt32), .val (.long id), .second, .val (.ref w_UTF_16), .unset] [(.long id)])) (fun t h => XT.lload X8.here hx rfl (hb hby at_161) rfl h) ?_
          obtain ⟨v9, _, ⟨T9, L9, k9, n9⟩, -, X9, ⟨Lc9, hQ9, l9, y9, z9⟩, st9⟩ := Jvm.LawKit.callS X8 hx (y := (⟨"com/example/orbweave/orbweave/cdr/CodeSet", "byId", "(J)Lcom/example/orbweave/orbweave/cdr/CodeSet;"⟩ : MethodName)) hown (mvT hZ (hw _ (List.mem_of_getElem? (i := 6) rfl))) (mvT hZ (hw _ (List.mem_of_getElem? (i := 7) rfl))) (mvT hZ (hw _ (List.mem_of_getElem? (i := 4) rfl))) (mvT hZ (hw _ (List.mem_of_getElem? (i := 8) rfl))) (by decide) (backOf (W := 0) (rm1 l Z a0 hw [] id w_ISO_8859_1 w_UTF_8 w_UTF_16 w_VALUES h0 n0 Z0 S_VALUES cl Ar hlen hat0 hat1 hat2 F_id_ISO_8859_1 F_id_UTF_8 F_id_UTF_16) hZ (hw _ (List.mem_of_getElem? (i := 8) rfl)) (hw _ (List.mem_of_getElem? (i := 4) rfl)) (by decide) (by decide)) (g := (mkF m 163 #[.val (.long q1), .second, .val (.int p2), .val (.int (p2 &&& (7 : Int32))), .val (.int ((q1 &&& (63 : Int64))).toInt32), .val (.long id), .second, .val (.ref w_UTF_16), .unset] [(.long id)])) rfl (by rw [hml]; rfl) (argsL := [(.long id)]) (rest := []) (lenOf own_pd1 rfl) rfl (by show 2 * 0 + _ ≤ _; exact Nat.le_of_eq rfl) (hb hby at_163) (fun _ _ => ⟨rfl, e8, (by decide : 0 + 0 ≤ _), (by decide : 0 + 0 ≤ _)⟩)
          dsimp only [Pt.U, Pt.locs, Pt.cells, Pt.slots] at X9 l9 y9 z9 st9 hQ9
          subst l9 y9 z9
          obtain ⟨hv9, Nc9, e9⟩ := hQ9
          have N9 := Fr.app N0 Nc9
          obtain rfl : v9 = some (.ref w_UTF_16) := hv9.trans (congrArg some (if_pos hc153_7.symm))
          refine own_by (f' := (mkF m 166 #[.val (.long q1), .second, .val (.int p2), .val (.int (p2 &&& (7 : Int32))), .val (.int ((q1 &&& (63 : Int64))).toInt32), .val (.long id), .second, .val (.ref w_UTF_16), .unset] [(.ref w_UTF_16)])) st9 ?_
          refine own_by (f' := (mkF m 168 #[.val (.long q1), .second, .val (.int p2), .val (.int (p2 &&& (7 : Int32))), .val (.int ((q1 &&& (63 : Int64))).toInt32), .val (.long id), .second, .val (.ref w_UTF_16), .val (.ref w_UTF_16)] [])) (fun t h => XS.astore X9.here hx rfl (hb hby at_166) rfl rfl (l' := #[.val (.long q1), .second, .val (.int p2), .val (.int (p2 &&& (7 : Int32))), .val (.int ((q1 &&& (63 : Int64))).toInt32), .val (.long id), .second, .val (.ref w_UTF_16), .val (.ref w_UTF_16)]) rfl h) ?_
          refine own_by (f' := (mkF m 170 #[.val (.long q1), .second, .val (.int p2), .val (.int (p2 &&& (7 : Int32))), .val (.int ((q1 &&& (63 : Int64))).toInt32), .val (.long id), .second, .val (.ref w_UTF_16), .val (.ref w_UTF_16)] [(.ref w_UTF_16)])) (fun t h => XS.aload X9.here hx rfl (hb hby at_168) rfl rfl h) ?_
          refine own_by (f' := (mkF m 172 #[.val (.long q1), .second, .val (.int p2), .val (.int (p2 &&& (7 : Int32))), .val (.int ((q1 &&& (63 : Int64))).toInt32), .val (.long id), .second, .val (.ref w_UTF_16), .val (.ref w_UTF_16)] [(.ref w_UTF_16), (.ref w_UTF_16)])) (fun t h => XS.aload X9.here hx rfl (hb hby at_170) rfl rfl h) ?_
          refine own_by (f' := (mkF m 175 #[.val (.long q1), .second, .val (.int p2), .val (.int (p2 &&& (7 : Int32))), .val (.int ((q1 &&& (63 : Int64))).toInt32), .val (.long id), .second, .val (.ref w_UTF_16), .val (.ref w_UTF_16)] [])) (fun t h => Jvm.RoadKit.acmp (g := (mkF m 172 #[.val (.long q1), .second, .val (.int p2), .val (.int (p2 &&& (7 : Int32))), .val (.int ((q1 &&& (63 : Int64))).toInt32), .val (.long id), .second, .val (.ref w_UTF_16), .val (.ref w_UTF_16)] [(.ref w_UTF_16), (.ref w_UTF_16)])) X9 hx rfl rfl rfl (pc0 := 172) (pc' := 175) (same := true) rfl (hb hby at_172) rfl (decide_eq_true rfl) (by decide) (by decide) h) ?_
          refine own_by (f' := (mkF m 176 #[.val (.long q1), .second, .val (.int p2), .val (.int (p2 &&& (7 : Int32))), .val (.int ((q1 &&& (63 : Int64))).toInt32), .val (.long id), .second, .val (.ref w_UTF_16), .val (.ref w_UTF_16)] [(.int (1 : Int32))])) (fun t h => XS.iconst X9.here hx rfl (hb hby at_175) h) ?_
          refine own_by (f' := (mkF m 180 #[.val (.long q1), .second, .val (.int p2), .val (.int (p2 &&& (7 : Int32))), .val (.int ((q1 &&& (63 : Int64))).toInt32), .val (.long id), .second, .val (.ref w_UTF_16), .val (.ref w_UTF_16)] [(.int (1 : Int32))])) (fun t h => XS.goto X9.here hx rfl (pc0 := 176) (pc' := 180) rfl (hb hby at_176) (by decide) (by decide) h) ?_
          obtain ⟨fs, hr, hrun, hended, hW, hsame⟩ := X9.leave (v := some (.int (1 : Int32))) (fun h => by rw [Bd.returns] at h; cases h)
          refine own_mk ⟨_, _, retN X9 hx (t := .boolean) Bd.returns (by simp) (hb hby at_180) hr, hrun, hended, _, _, rfl, ?_, ⟨_, rfl⟩, hW, hsame.mono (by decide) (by decide)⟩
          show Q0 n0 _ T9.heap _
          rw [e9]
          exact ⟨rfl, N9⟩
        · refine own_by (f' := (mkF m 161 #[.val (.long q1), .second, .val (.int p2), .val (.int (p2 &&& (7 : Int32))), .val (.int ((q1 &&& (63 : Int64))).toInt32), .val (.long id), .second, .val .null, .unset] [])) (fun t h => XS.ifYes X0.here hx rfl (pc0 := 153) (pc' := 161) rfl (hb hby at_153) rfl ((if0 _ _).trans (feq (own_cmp1 hc153_7)).2) (by decide) (by decide) h) ?_
          refine own_by (f' := (mkF m 163 #[.val (.long q1), .second, .val (.int p2), .val (.int (p2 &&& (7 : Int32))), .val (.int ((q1 &&& (63 : Int64))).toInt32), .val (.long id), .second, .val .null, .unset] [(.long id)])) (fun t h => XT.lload X0.here hx rfl (hb hby at_161) rfl h) ?_
          obtain ⟨v10, _, ⟨T10, L10, k10, n10⟩, -, X10, ⟨Lc10, hQ10, l10, y10, z10⟩, st10⟩ := Jvm.LawKit.callS X0 hx (y := (⟨"com/example/orbweave/orbweave/cdr/CodeSet", "byId", "(J)Lcom/example/orbweave/orbweave/cdr/CodeSet;"⟩ : MethodName)) hown (mvT hZ (hw _ (List.mem_of_getElem? (i := 6) rfl))) (mvT hZ (hw _ (List.mem_of_getElem? (i := 7) rfl))) (mvT hZ (hw _ (List.mem_of_getElem? (i := 4) rfl))) (mvT hZ (hw _ (List.mem_of_getElem? (i := 8) rfl))) (by decide) (backOf (W := 0) (rm1 l Z a0 hw [] id w_ISO_8859_1 w_UTF_8 w_UTF_16 w_VALUES h0 n0 Z0 S_VALUES cl Ar hlen hat0 hat1 hat2 F_id_ISO_8859_1 F_id_UTF_8 F_id_UTF_16) hZ (hw _ (List.mem_of_getElem? (i := 8) rfl)) (hw _ (List.mem_of_getElem? (i := 4) rfl)) (by decide) (by decide)) (g := (mkF m 163 #[.val (.long q1), .second, .val (.int p2), .val (.int (p2 &&& (7 : Int32))), .val (.int ((q1 &&& (63 : Int64))).toInt32), .val (.long id), .second, .val .null, .unset] [(.long id)])) rfl (by rw [hml]; rfl) (argsL := [(.long id)]) (rest := []) (lenOf own_pd1 rfl) rfl (by show 2 * 0 + _ ≤ _; exact Nat.le_of_eq rfl) (hb hby at_163) (fun _ _ => ⟨rfl, e0, (by decide : 0 + 0 ≤ _), (by decide : 0 + 0 ≤ _)⟩)
          dsimp only [Pt.U, Pt.locs, Pt.cells, Pt.slots] at X10 l10 y10 z10 st10 hQ10
          subst l10 y10 z10
          obtain ⟨hv10, Nc10, e10⟩ := hQ10
          have N10 := Fr.app N0 Nc10
          obtain rfl : v10 = some .null := hv10.trans (congrArg some ((if_neg (fun z => hc153_7 z.symm)).trans ((if_neg (fun z => hc136_4 z.symm)).trans (if_neg (fun z => hc119_1 z.symm)))))
          refine own_by (f' := (mkF m 166 #[.val (.long q1), .second, .val (.int p2), .val (.int (p2 &&& (7 : Int32))), .val (.int ((q1 &&& (63 : Int64))).toInt32), .val (.long id), .second, .val .null, .unset] [.null])) st10 ?_
          refine own_by (f' := (mkF m 168 #[.val (.long q1), .second, .val (.int p2), .val (.int (p2 &&& (7 : Int32))), .val (.int ((q1 &&& (63 : Int64))).toInt32), .val (.long id), .second, .val .null, .val .null] [])) (fun t h => XS.astore X10.here hx rfl (hb hby at_166) rfl rfl (l' := #[.val (.long q1), .second, .val (.int p2), .val (.int (p2 &&& (7 : Int32))), .val (.int ((q1 &&& (63 : Int64))).toInt32), .val (.long id), .second, .val .null, .val .null]) rfl h) ?_
          refine own_by (f' := (mkF m 170 #[.val (.long q1), .second, .val (.int p2), .val (.int (p2 &&& (7 : Int32))), .val (.int ((q1 &&& (63 : Int64))).toInt32), .val (.long id), .second, .val .null, .val .null] [.null])) (fun t h => XS.aload X10.here hx rfl (hb hby at_168) rfl rfl h) ?_
          refine own_by (f' := (mkF m 172 #[.val (.long q1), .second, .val (.int p2), .val (.int (p2 &&& (7 : Int32))), .val (.int ((q1 &&& (63 : Int64))).toInt32), .val (.long id), .second, .val .null, .val .null] [.null, .null])) (fun t h => XS.aload X10.here hx rfl (hb hby at_170) rfl rfl h) ?_
          refine own_by (f' := (mkF m 175 #[.val (.long q1), .second, .val (.int p2), .val (.int (p2 &&& (7 : Int32))), .val (.int ((q1 &&& (63 : Int64))).toInt32), .val (.long id), .second, .val .null, .val .null] [])) (fun t h => Jvm.RoadKit.acmp (g := (mkF m 172 #[.val (.long q1), .second, .val (.int p2), .val (.int (p2 &&& (7 : Int32))), .val (.int ((q1 &&& (63 : Int64))).toInt32), .val (.long id), .second, .val .null, .val .null] [.null, .null])) X10 hx rfl rfl rfl (pc0 := 172) (pc' := 175) (same := true) rfl (hb hby at_172) rfl (decide_eq_true rfl) (by decide) (by decide) h) ?_
          refine own_by (f' := (mkF m 176 #[.val (.long q1), .second, .val (.int p2), .val (.int (p2 &&& (7 : Int32))), .val (.int ((q1 &&& (63 : Int64))).toInt32), .val (.long id), .second, .val .null, .val .null] [(.int (1 : Int32))])) (fun t h => XS.iconst X10.here hx rfl (hb hby at_175) h) ?_
          refine own_by (f' := (mkF m 180 #[.val (.long q1), .second, .val (.int p2), .val (.int (p2 &&& (7 : Int32))), .val (.int ((q1 &&& (63 : Int64))).toInt32), .val (.long id), .second, .val .null, .val .null] [(.int (1 : Int32))])) (fun t h => XS.goto X10.here hx rfl (pc0 := 176) (pc' := 180) rfl (hb hby at_176) (by decide) (by decide) h) ?_
          obtain ⟨fs, hr, hrun, hended, hW, hsame⟩ := X10.leave (v := some (.int (1 : Int32))) (fun h => by rw [Bd.returns] at h; cases h)
          refine own_mk ⟨_, _, retN X10 hx (t := .boolean) Bd.returns (by simp) (hb hby at_180) hr, hrun, hended, _, _, rfl, ?_, ⟨_, rfl⟩, hW, hsame.mono (by decide) (by decide)⟩
          show Q0 n0 _ T10.heap _
          rw [e10]
          exact ⟨rfl, N10⟩
  refine own_by (f' := (mkF m 14 #[.val (.long q1), .second, .val (.int p2), .val (.int (p2 &&& (7 : Int32))), .val (.int ((q1 &&& (63 : Int64))).toInt32), .unset, .unset, .unset, .unset] [(.int (p2 &&& (7 : Int32)))])) (fun t h => XS.iloadN X0.here hx rfl (hb hby at_13) rfl h) ?_
  refine own_by (f' := (mkF m 15 #[.val (.long q1), .second, .val (.int p2), .val (.int (p2 &&& (7 : Int32))), .val (.int ((q1 &&& (63 : Int64))).toInt32), .unset, .unset, .unset, .unset] [(.int (1 : Int32)), (.int (p2 &&& (7 : Int32)))])) (fun t h => XS.iconst X0.here hx rfl (hb hby at_14) h) ?_
  by_cases hc15_11 : (p2 &&& (7 : Int32)) = (1 : Int32)
  · refine own_by (f' := (mkF m 18 #[.val (.long q1), .second, .val (.int p2), .val (.int (p2 &&& (7 : Int32))), .val (.int ((q1 &&& (63 : Int64))).toInt32), .unset, .unset, .unset, .unset] [])) (fun t h => XS.icmpNo X0.here hx rfl (hb hby at_15) rfl (teq hc15_11).2 h) ?_
    refine own_by (f' := (mkF m 21 #[.val (.long q1), .second, .val (.int p2), .val (.int (p2 &&& (7 : Int32))), .val (.int ((q1 &&& (63 : Int64))).toInt32), .unset, .unset, .unset, .unset] [(.long (65537 : Int64))])) (fun t h => X0.ldc2J hx hown (mvT hZ (hw _ (List.mem_of_getElem? (i := 2) rfl))) rfl (hb hby at_18) h) ?_
    refine own_by (f' := (mkF m 23 #[.val (.long q1), .second, .val (.int p2), .val (.int (p2 &&& (7 : Int32))), .val (.int ((q1 &&& (63 : Int64))).toInt32), .val (.long (65537 : Int64)), .second, .unset, .unset] [])) (fun t h => XT.lstore X0.here hx rfl (hb hby at_21) rfl (l' := #[.val (.long q1), .second, .val (.int p2), .val (.int (p2 &&& (7 : Int32))), .val (.int ((q1 &&& (63 : Int64))).toInt32), .val (.long (65537 : Int64)), .second, .unset, .unset]) rfl h) ?_
    refine own_by (f' := (mkF m 110 #[.val (.long q1), .second, .val (.int p2), .val (.int (p2 &&& (7 : Int32))), .val (.int ((q1 &&& (63 : Int64))).toInt32), .val (.long (65537 : Int64)), .second, .unset, .unset] [])) (fun t h => XS.goto X0.here hx rfl (pc0 := 23) (pc' := 110) rfl (hb hby at_23) (by decide) (by decide) h) ?_
    exact K _
  · refine own_by (f' := (mkF m 26 #[.val (.long q1), .second, .val (.int p2), .val (.int (p2 &&& (7 : Int32))), .val (.int ((q1 &&& (63 : Int64))).toInt32), .unset, .unset, .unset, .unset] [])) (fun t h => XS.icmpYes X0.here hx rfl (pc0 := 15) (pc' := 26) rfl (hb hby at_15) rfl (feq hc15_11).2 (by decide) (by decide) h) ?_
    refine own_by (f' := (mkF m 27 #[.val (.long q1), .second, .val (.int p2), .val (.int (p2 &&& (7 : Int32))), .val (.int ((q1 &&& (63 : Int64))).toInt32), .unset, .unset, .unset, .unset] [(.int (p2 &&& (7 : Int32)))])) (fun t h => XS.iloadN X0.here hx rfl (hb hby at_26) rfl h) ?_
    refine own_by (f' := (mkF m 28 #[.val (.long q1), .second, .val (.int p2), .val (.int (p2 &&& (7 : Int32))), .val (.int ((q1 &&& (63 : Int64))).toInt32), .unset, .unset, .unset, .unset] [(.int (2 : Int32)), (.int (p2 &&& (7 : Int32)))])) (fun t h => XS.iconst X0.here hx rfl (hb hby at_27) h) ?_
    by_cases hc28_12 : (p2 &&& (7 : Int32)) = (2 : Int32)
    · refine own_by (f' := (mkF m 31 #[.val (.long q1), .second, .val (.int p2), .val (.int (p2 &&& (7 : Int32))), .val (.int ((q1 &&& (63 : Int64))).toInt32), .unset, .unset, .unset, .unset] [])) (fun t h => XS.icmpNo X0.here hx rfl (hb hby at_28) rfl (teq hc28_12).2 h) ?_
      refine own_by (f' := (mkF m 34 #[.val (.long q1), .second, .val (.int p2), .val (.int (p2 &&& (7 : Int32))), .val (.int ((q1 &&& (63 : Int64))).toInt32), .unset, .unset, .unset, .unset] [(.long (83951617 : Int64))])) (fun t h => X0.ldc2J hx hown (mvT hZ (hw _ (List.mem_of_getElem? (i := 1) rfl))) rfl (hb hby at_31) h) ?_
      refine own_by (f' := (mkF m 36 #[.val (.long q1), .second, .val (.int p2), .val (.int (p2 &&& (7 : Int32))), .val (.int ((q1 &&& (63 : Int64))).toInt32), .val (.long (83951617 : Int64)), .second, .unset, .unset] [])) (fun t h => XT.lstore X0.here hx rfl (hb hby at_34) rfl (l' := #[.val (.long q1), .second, .val (.int p2), .val (.int (p2 &&& (7 : Int32))), .val (.int ((q1 &&& (63 : Int64))).toInt32), .val (.long (83951617 : Int64)), .second, .unset, .unset]) rfl h) ?_
      refine own_by (f' := (mkF m 110 #[.val (.long q1), .second, .val (.int p2), .val (.int (p2 &&& (7 : Int32))), .val (.int ((q1 &&& (63 : Int64))).toInt32), .val (.long (83951617 : Int64)), .second, .unset, .unset] [])) (fun t h => XS.goto X0.here hx rfl (pc0 := 36) (pc' := 110) rfl (hb hby at_36) (by decide) (by decide) h) ?_
      exact K _
    · refine own_by (f' := (mkF m 39 #[.val (.long q1), .second, .val (.int p2), .val (.int (p2 &&& (7 : Int32))), .val (.int ((q1 &&& (63 : Int64))).toInt32), .unset, .unset, .unset, .unset] [])) (fun t h => XS.icmpYes X0.here hx rfl (pc0 := 28) (pc' := 39) rfl (hb hby at_28) rfl (feq hc28_12).2 (by decide) (by decide) h) ?_
      refine own_by (f' := (mkF m 40 #[.val (.long q1), .second, .val (.int p2), .val (.int (p2 &&& (7 : Int32))), .val (.int ((q1 &&& (63 : Int64))).toInt32), .unset, .unset, .unset, .unset] [(.int (p2 &&& (7 : Int32)))])) (fun t h => XS.iloadN X0.here hx rfl (hb hby at_39) rfl h) ?_
      refine own_by (f' := (mkF m 41 #[.val (.long q1), .second, .val (.int p2), .val (.int (p2 &&& (7 : Int32))), .val (.int ((q1 &&& (63 : Int64))).toInt32), .unset, .unset, .unset, .unset] [(.int (3 : Int32)), (.int (p2 &&& (7 : Int32)))])) (fun t h => XS.iconst X0.here hx rfl (hb hby at_40) h) ?_
      by_cases hc41_13 : (p2 &&& (7 : Int32)) = (3 : Int32)
      · refine own_by (f' := (mkF m 44 #[.val (.long q1), .second, .val (.int p2), .val (.int (p2 &&& (7 : Int32))), .val (.int ((q1 &&& (63 : Int64))).toInt32), .unset, .unset, .unset, .unset] [])) (fun t h => XS.icmpNo X0.here hx rfl (hb hby at_41) rfl (teq hc41_13).2 h) ?_
        refine own_by (f' := (mkF m 47 #[.val (.long q1), .second, .val (.int p2), .val (.int (p2 &&& (7 : Int32))), .val (.int ((q1 &&& (63 : Int64))).toInt32), .unset, .unset, .unset, .unset] [(.long (65801 : Int64))])) (fun t h => X0.ldc2J hx hown (mvT hZ (hw _ (List.mem_of_getElem? (i := 15) rfl))) rfl (hb hby at_44) h) ?_
        refine own_by (f' := (mkF m 49 #[.val (.long q1), .second, .val (.int p2), .val (.int (p2 &&& (7 : Int32))), .val (.int ((q1 &&& (63 : Int64))).toInt32), .val (.long (65801 : Int64)), .second, .unset, .unset] [])) (fun t h => XT.lstore X0.here hx rfl (hb hby at_47) rfl (l' := #[.val (.long q1), .second, .val (.int p2), .val (.int (p2 &&& (7 : Int32))), .val (.int ((q1 &&& (63 : Int64))).toInt32), .val (.long (65801 : Int64)), .second, .unset, .unset]) rfl h) ?_
        refine own_by (f' := (mkF m 110 #[.val (.long q1), .second, .val (.int p2), .val (.int (p2 &&& (7 : Int32))), .val (.int ((q1 &&& (63 : Int64))).toInt32), .val (.long (65801 : Int64)), .second, .unset, .unset] [])) (fun t h => XS.goto X0.here hx rfl (pc0 := 49) (pc' := 110) rfl (hb hby at_49) (by decide) (by decide) h) ?_
        exact K _
      · refine own_by (f' := (mkF m 52 #[.val (.long q1), .second, .val (.int p2), .val (.int (p2 &&& (7 : Int32))), .val (.int ((q1 &&& (63 : Int64))).toInt32), .unset, .unset, .unset, .unset] [])) (fun t h => XS.icmpYes X0.here hx rfl (pc0 := 41) (pc' := 52) rfl (hb hby at_41) rfl (feq hc41_13).2 (by decide) (by decide) h) ?_
        refine own_by (f' := (mkF m 53 #[.val (.long q1), .second, .val (.int p2), .val (.int (p2 &&& (7 : Int32))), .val (.int ((q1 &&& (63 : Int64))).toInt32), .unset, .unset, .unset, .unset] [(.int (p2 &&& (7 : Int32)))])) (fun t h => XS.iloadN X0.here hx rfl (hb hby at_52) rfl h) ?_
        refine own_by (f' := (mkF m 54 #[.val (.long q1), .second, .val (.int p2), .val (.int (p2 &&& (7 : Int32))), .val (.int ((q1 &&& (63 : Int64))).toInt32), .unset, .unset, .unset, .unset] [(.int (4 : Int32)), (.int (p2 &&& (7 : Int32)))])) (fun t h => XS.iconst X0.here hx rfl (hb hby at_53) h) ?_
        by_cases hc54_14 : (p2 &&& (7 : Int32)) = (4 : Int32)
        · refine own_by (f' := (mkF m 57 #[.val (.long q1), .second, .val (.int p2), .val (.int (p2 &&& (7 : Int32))), .val (.int ((q1 &&& (63 : Int64))).toInt32), .unset, .unset, .unset, .unset] [])) (fun t h => XS.icmpNo X0.here hx rfl (hb hby at_54) rfl (teq hc54_14).2 h) ?_
          refine own_by (f' := (mkF m 60 #[.val (.long q1), .second, .val (.int p2), .val (.int (p2 &&& (7 : Int32))), .val (.int ((q1 &&& (63 : Int64))).toInt32), .unset, .unset, .unset, .unset] [(.long (65537 : Int64))])) (fun t h => X0.ldc2J hx hown (mvT hZ (hw _ (List.mem_of_getElem? (i := 2) rfl))) rfl (hb hby at_57) h) ?_
          refine own_by (f' := (mkF m 61 #[.val (.long q1), .second, .val (.int p2), .val (.int (p2 &&& (7 : Int32))), .val (.int ((q1 &&& (63 : Int64))).toInt32), .unset, .unset, .unset, .unset] [(.long (1 : Int64)), (.long (65537 : Int64))])) (fun t h => XT.lconstV X0.here hx rfl (1 : Int64) (hb hby at_60) rfl h) ?_
          refine own_by (f' := (mkF m 63 #[.val (.long q1), .second, .val (.int p2), .val (.int (p2 &&& (7 : Int32))), .val (.int ((q1 &&& (63 : Int64))).toInt32), .unset, .unset, .unset, .unset] [(.int ((q1 &&& (63 : Int64))).toInt32), (.long (1 : Int64)), (.long (65537 : Int64))])) (fun t h => XS.iload X0.here hx rfl (hb hby at_61) rfl h) ?_
          refine own_by (f' := (mkF m 64 #[.val (.long q1), .second, .val (.int p2), .val (.int (p2 &&& (7 : Int32))), .val (.int ((q1 &&& (63 : Int64))).toInt32), .unset, .unset, .unset, .unset] [(.long ((1 : Int64) <<< ((((q1 &&& (63 : Int64))).toInt32).toInt64 &&& 63))), (.long (65537 : Int64))])) (fun t h => XT.lshl X0.here hx rfl (hb hby at_63) rfl h) ?_
          refine own_by (f' := (mkF m 65 #[.val (.long q1), .second, .val (.int p2), .val (.int (p2 &&& (7 : Int32))), .val (.int ((q1 &&& (63 : Int64))).toInt32), .unset, .unset, .unset, .unset] [(.long ((65537 : Int64) ^^^ ((1 : Int64) <<< ((((q1 &&& (63 : Int64))).toInt32).toInt64 &&& 63))))])) (fun t h => XT.lxor X0.here hx rfl (hb hby at_64) rfl h) ?_
          refine own_by (f' := (mkF m 67 #[.val (.long q1), .second, .val (.int p2), .val (.int (p2 &&& (7 : Int32))), .val (.int ((q1 &&& (63 : Int64))).toInt32), .val (.long ((65537 : Int64) ^^^ ((1 : Int64) <<< ((((q1 &&& (63 : Int64))).toInt32).toInt64 &&& 63)))), .second, .unset, .unset] [])) (fun t h => XT.lstore X0.here hx rfl (hb hby at_65) rfl (l' := #[.val (.long q1), .second, .val (.int p2), .val (.int (p2 &&& (7 : Int32))), .val (.int ((q1 &&& (63 : Int64))).toInt32), .val (.long ((65537 : Int64) ^^^ ((1 : Int64) <<< ((((q1 &&& (63 : Int64))).toInt32).toInt64 &&& 63)))), .second, .unset, .unset]) rfl h) ?_
          refine own_by (f' := (mkF m 110 #[.val (.long q1), .second, .val (.int p2), .val (.int (p2 &&& (7 : Int32))), .val (.int ((q1 &&& (63 : Int64))).toInt32), .val (.long ((65537 : Int64) ^^^ ((1 : Int64) <<< ((((q1 &&& (63 : Int64))).toInt32).toInt64 &&& 63)))), .second, .unset, .unset] [])) (fun t h => XS.goto X0.here hx rfl (pc0 := 67) (pc' := 110) rfl (hb hby at_67) (by decide) (by decide) h) ?_
          exact K _
        · refine own_by (f' := (mkF m 70 #[.val (.long q1), .second, .val (.int p2), .val (.int (p2 &&& (7 : Int32))), .val (.int ((q1 &&& (63 : Int64))).toInt32), .unset, .unset, .unset, .unset] [])) (fun t h => XS.icmpYes X0.here hx rfl (pc0 := 54) (pc' := 70) rfl (hb hby at_54) rfl (feq hc54_14).2 (by decide) (by decide) h) ?_
          refine own_by (f' := (mkF m 71 #[.val (.long q1), .second, .val (.int p2), .val (.int (p2 &&& (7 : Int32))), .val (.int ((q1 &&& (63 : Int64))).toInt32), .unset, .unset, .unset, .unset] [(.int (p2 &&& (7 : Int32)))])) (fun t h => XS.iloadN X0.here hx rfl (hb hby at_70) rfl h) ?_
          refine own_by (f' := (mkF m 72 #[.val (.long q1), .second, .val (.int p2), .val (.int (p2 &&& (7 : Int32))), .val (.int ((q1 &&& (63 : Int64))).toInt32), .unset, .unset, .unset, .unset] [(.int (5 : Int32)), (.int (p2 &&& (7 : Int32)))])) (fun t h => XS.iconst X0.here hx rfl (hb hby at_71) h) ?_
          by_cases hc72_15 : (p2 &&& (7 : Int32)) = (5 : Int32)
          · refine own_by (f' := (mkF m 75 #[.val (.long q1), .second, .val (.int p2), .val (.int (p2 &&& (7 : Int32))), .val (.int ((q1 &&& (63 : Int64))).toInt32), .unset, .unset, .unset, .unset] [])) (fun t h => XS.icmpNo X0.here hx rfl (hb hby at_72) rfl (teq hc72_15).2 h) ?_
            refine own_by (f' := (mkF m 78 #[.val (.long q1), .second, .val (.int p2), .val (.int (p2 &&& (7 : Int32))), .val (.int ((q1 &&& (63 : Int64))).toInt32), .unset, .unset, .unset, .unset] [(.long (83951617 : Int64))])) (fun t h => X0.ldc2J hx hown (mvT hZ (hw _ (List.mem_of_getElem? (i := 1) rfl))) rfl (hb hby at_75) h) ?_
            refine own_by (f' := (mkF m 79 #[.val (.long q1), .second, .val (.int p2), .val (.int (p2 &&& (7 : Int32))), .val (.int ((q1 &&& (63 : Int64))).toInt32), .unset, .unset, .unset, .unset] [(.long (1 : Int64)), (.long (83951617 : Int64))])) (fun t h => XT.lconstV X0.here hx rfl (1 : Int64) (hb hby at_78) rfl h) ?_
            refine own_by (f' := (mkF m 81 #[.val (.long q1), .second, .val (.int p2), .val (.int (p2 &&& (7 : Int32))), .val (.int ((q1 &&& (63 : Int64))).toInt32), .unset, .unset, .unset, .unset] [(.int ((q1 &&& (63 : Int64))).toInt32), (.long (1 : Int64)), (.long (83951617 : Int64))])) (fun t h => XS.iload X0.here hx rfl (hb hby at_79) rfl h) ?_
            refine own_by (f' := (mkF m 82 #[.val (.long q1), .second, .val (.int p2), .val (.int (p2 &&& (7 : Int32))), .val (.int ((q1 &&& (63 : Int64))).toInt32), .unset, .unset, .unset, .unset] [(.long ((1 : Int64) <<< ((((q1 &&& (63 : Int64))).toInt32).toInt64 &&& 63))), (.long (83951617 : Int64))])) (fun t h => XT.lshl X0.here hx rfl (hb hby at_81) rfl h) ?_
            refine own_by (f' := (mkF m 83 #[.val (.long q1), .second, .val (.int p2), .val (.int (p2 &&& (7 : Int32))), .val (.int ((q1 &&& (63 : Int64))).toInt32), .unset, .unset, .unset, .unset] [(.long ((83951617 : Int64) ^^^ ((1 : Int64) <<< ((((q1 &&& (63 : Int64))).toInt32).toInt64 &&& 63))))])) (fun t h => XT.lxor X0.here hx rfl (hb hby at_82) rfl h) ?_
            refine own_by (f' := (mkF m 85 #[.val (.long q1), .second, .val (.int p2), .val (.int (p2 &&& (7 : Int32))), .val (.int ((q1 &&& (63 : Int64))).toInt32), .val (.long ((83951617 : Int64) ^^^ ((1 : Int64) <<< ((((q1 &&& (63 : Int64))).toInt32).toInt64 &&& 63)))), .second, .unset, .unset] [])) (fun t h => XT.lstore X0.here hx rfl (hb hby at_83) rfl (l' := #[.val (.long q1), .second, .val (.int p2), .val (.int (p2 &&& (7 : Int32))), .val (.int ((q1 &&& (63 : Int64))).toInt32), .val (.long ((83951617 : Int64) ^^^ ((1 : Int64) <<< ((((q1 &&& (63 : Int64))).toInt32).toInt64 &&& 63)))), .second, .unset, .unset]) rfl h) ?_
            refine own_by (f' := (mkF m 110 #[.val (.long q1), .second, .val (.int p2), .val (.int (p2 &&& (7 : Int32))), .val (.int ((q1 &&& (63 : Int64))).toInt32), .val (.long ((83951617 : Int64) ^^^ ((1 : Int64) <<< ((((q1 &&& (63 : Int64))).toInt32).toInt64 &&& 63)))), .second, .unset, .unset] [])) (fun t h => XS.goto X0.here hx rfl (pc0 := 85) (pc' := 110) rfl (hb hby at_85) (by decide) (by decide) h) ?_
            exact K _
          · refine own_by (f' := (mkF m 88 #[.val (.long q1), .second, .val (.int p2), .val (.int (p2 &&& (7 : Int32))), .val (.int ((q1 &&& (63 : Int64))).toInt32), .unset, .unset, .unset, .unset] [])) (fun t h => XS.icmpYes X0.here hx rfl (pc0 := 72) (pc' := 88) rfl (hb hby at_72) rfl (feq hc72_15).2 (by decide) (by decide) h) ?_
            refine own_by (f' := (mkF m 89 #[.val (.long q1), .second, .val (.int p2), .val (.int (p2 &&& (7 : Int32))), .val (.int ((q1 &&& (63 : Int64))).toInt32), .unset, .unset, .unset, .unset] [(.int (p2 &&& (7 : Int32)))])) (fun t h => XS.iloadN X0.here hx rfl (hb hby at_88) rfl h) ?_
            refine own_by (f' := (mkF m 91 #[.val (.long q1), .second, .val (.int p2), .val (.int (p2 &&& (7 : Int32))), .val (.int ((q1 &&& (63 : Int64))).toInt32), .unset, .unset, .unset, .unset] [(.int (6 : Int32)), (.int (p2 &&& (7 : Int32)))])) (fun t h => XT.bipushV X0.here hx rfl (6 : Int32) (hb hby at_89) rfl h) ?_
            by_cases hc91_16 : (p2 &&& (7 : Int32)) = (6 : Int32)
            · refine own_by (f' := (mkF m 94 #[.val (.long q1), .second, .val (.int p2), .val (.int (p2 &&& (7 : Int32))), .val (.int ((q1 &&& (63 : Int64))).toInt32), .unset, .unset, .unset, .unset] [])) (fun t h => XS.icmpNo X0.here hx rfl (hb hby at_91) rfl (teq hc91_16).2 h) ?_
              refine own_by (f' := (mkF m 97 #[.val (.long q1), .second, .val (.int p2), .val (.int (p2 &&& (7 : Int32))), .val (.int ((q1 &&& (63 : Int64))).toInt32), .unset, .unset, .unset, .unset] [(.long (65801 : Int64))])) (fun t h => X0.ldc2J hx hown (mvT hZ (hw _ (List.mem_of_getElem? (i := 15) rfl))) rfl (hb hby at_94) h) ?_
              refine own_by (f' := (mkF m 98 #[.val (.long q1), .second, .val (.int p2), .val (.int (p2 &&& (7 : Int32))), .val (.int ((q1 &&& (63 : Int64))).toInt32), .unset, .unset, .unset, .unset] [(.long (1 : Int64)), (.long (65801 : Int64))])) (fun t h => XT.lconstV X0.here hx rfl (1 : Int64) (hb hby at_97) rfl h) ?_
              refine own_by (f' := (mkF m 100 #[.val (.long q1), .second, .val (.int p2), .val (.int (p2 &&& (7 : Int32))), .val (.int ((q1 &&& (63 : Int64))).toInt32), .unset, .unset, .unset, .unset] [(.int ((q1 &&& (63 : Int64))).toInt32), (.long (1 : Int64)), (.long (65801 : Int64))])) (fun t h => XS.iload X0.here hx rfl (hb hby at_98) rfl h) ?_
              refine own_by (f' := (mkF m 101 #[.val (.long q1), .second, .val (.int p2), .val (.int (p2 &&& (7 : Int32))), .val (.int ((q1 &&& (63 : Int64))).toInt32), .unset, .unset, .unset, .unset] [(.long ((1 : Int64) <<< ((((q1 &&& (63 : Int64))).toInt32).toInt64 &&& 63))), (.long (65801 : Int64))])) (fun t h => XT.lshl X0.here hx rfl (hb hby at_100) rfl h) ?_
              refine own_by (f' := (mkF m 102 #[.val (.long q1), .second, .val (.int p2), .val (.int (p2 &&& (7 : Int32))), .val (.int ((q1 &&& (63 : Int64))).toInt32), .unset, .unset, .unset, .unset] [(.long ((65801 : Int64) ^^^ ((1 : Int64) <<< ((((q1 &&& (63 : Int64))).toInt32).toInt64 &&& 63))))])) (fun t h => XT.lxor X0.here hx rfl (hb hby at_101) rfl h) ?_
              refine own_by (f' := (mkF m 104 #[.val (.long q1), .second, .val (.int p2), .val (.int (p2 &&& (7 : Int32))), .val (.int ((q1 &&& (63 : Int64))).toInt32), .val (.long ((65801 : Int64) ^^^ ((1 : Int64) <<< ((((q1 &&& (63 : Int64))).toInt32).toInt64 &&& 63)))), .second, .unset, .unset] [])) (fun t h => XT.lstore X0.here hx rfl (hb hby at_102) rfl (l' := #[.val (.long q1), .second, .val (.int p2), .val (.int (p2 &&& (7 : Int32))), .val (.int ((q1 &&& (63 : Int64))).toInt32), .val (.long ((65801 : Int64) ^^^ ((1 : Int64) <<< ((((q1 &&& (63 : Int64))).toInt32).toInt64 &&& 63)))), .second, .unset, .unset]) rfl h) ?_
              refine own_by (f' := (mkF m 110 #[.val (.long q1), .second, .val (.int p2), .val (.int (p2 &&& (7 : Int32))), .val (.int ((q1 &&& (63 : Int64))).toInt32), .val (.long ((65801 : Int64) ^^^ ((1 : Int64) <<< ((((q1 &&& (63 : Int64))).toInt32).toInt64 &&& 63)))), .second, .unset, .unset] [])) (fun t h => XS.goto X0.here hx rfl (pc0 := 104) (pc' := 110) rfl (hb hby at_104) (by decide) (by decide) h) ?_
              exact K _
            · refine own_by (f' := (mkF m 107 #[.val (.long q1), .second, .val (.int p2), .val (.int (p2 &&& (7 : Int32))), .val (.int ((q1 &&& (63 : Int64))).toInt32), .unset, .unset, .unset, .unset] [])) (fun t h => XS.icmpYes X0.here hx rfl (pc0 := 91) (pc' := 107) rfl (hb hby at_91) rfl (feq hc91_16).2 (by decide) (by decide) h) ?_
              refine own_by (f' := (mkF m 108 #[.val (.long q1), .second, .val (.int p2), .val (.int (p2 &&& (7 : Int32))), .val (.int ((q1 &&& (63 : Int64))).toInt32), .unset, .unset, .unset, .unset] [(.long q1)])) (fun t h => XT.lloadN X0.here hx rfl (hb hby at_107) rfl h) ?_
              refine own_by (f' := (mkF m 110 #[.val (.long q1), .second, .val (.int p2), .val (.int (p2 &&& (7 : Int32))), .val (.int ((q1 &&& (63 : Int64))).toInt32), .val (.long q1), .second, .unset, .unset] [])) (fun t h => XT.lstore X0.here hx rfl (hb hby at_108) rfl (l' := #[.val (.long q1), .second, .val (.int p2), .val (.int (p2 &&& (7 : Int32))), .val (.int ((q1 &&& (63 : Int64))).toInt32), .val (.long q1), .second, .unset, .unset]) rfl h) ?_
              exact K _
set_option maxRecDepth 65536 in
set_option maxHeartbeats 40000000 in
theorem comes_1 {Post : Tables → Env → Array Value → State → Outcome → State → Prop} (hpost : ∀ tb e args s v u, (limb_1_1.after args s (.returned v) u = true ∧ limb_1_2.after args s (.returned v) u = true ∧ True) → FrameEnd s (.returned v) u (Jvm.fieldLocs frame_1_writes args s ++ Jvm.arrayLocs frame_1_arrays args s ++ Jvm.staticLocs frame_1_statics s) 0 0 → Post tb e args s (.returned v) u) :
    ArmFor flags0 classFile x code maxLocals ret World_1 tables_1 room_1 Calls_1 rest_1 Pre_1 Post := by
  intro l hfl _ _ p e ha hc hk s m args below hf hA hF happ hP
  obtain ⟨hcalls, hrest, hpre⟩ := hP
  obtain ⟨-, -, -, hnamed, -, -, -, hat⟩ := (Spec.applies_iff hf).mp happ
  obtain ⟨hg, hn⟩ := and_e (Cond.before_iff.mp (show (Jvm.Cond.and given_1 narrow_1).before args s = true from hpre))
  obtain ⟨hcount, hg⟩ := and_e hg
  obtain ⟨hk0, hg⟩ := and_e hg
  have hk1 := hg
  obtain ⟨w0, w1, rfl⟩ : ∃ w0 w1 : Value, args = #[w0, w1] := by
    have hs : args.size = 2 := by simpa [Cond.value, given_1] using hcount
    obtain ⟨L⟩ := args
    match L, hs with
    | [w0, w1], _ => exact ⟨w0, w1, rfl⟩
  have hw := fun d (hd : d ∈ tables_1) => atoms_spec (ws := Jvm.Cond.code x code maxLocals ret :: tables_1) hat d (List.mem_cons_of_mem _ hd)
  obtain ⟨i0, ei0⟩ := isL_v hk0
  obtain rfl : w0 = (.long i0) := Option.some.inj ei0
  obtain ⟨i1, ei1⟩ := is_v hk1
  obtain rfl : w1 = (.int i1) := Option.some.inj ei1
  obtain ⟨hn0, hn⟩ := and_e hn
  obtain ⟨hn1, hn⟩ := and_e hn
  obtain ⟨hn2, hn⟩ := and_e hn
  obtain ⟨hn3, hn⟩ := and_e hn
  obtain ⟨hn4, hn⟩ := and_e hn
  obtain ⟨hn5, hn⟩ := and_e hn
  obtain ⟨hn6, hn⟩ := and_e hn
  obtain ⟨hn7, hn⟩ := and_e hn
  obtain ⟨hn8, hn⟩ := and_e hn
  obtain ⟨hn9, hn⟩ := and_e hn
  have hn10 := hn
  obtain ⟨w_UTF_8, ev_UTF_8⟩ := exa_v hn0
  have E_UTF_8 := Exa.start ev_UTF_8 hn0
  have S_UTF_8 := Sta.start ev_UTF_8 (Or.inr ⟨(hw _ (List.mem_of_getElem? (i := 4) rfl)), (hw _ (List.mem_of_getElem? (i := 5) rfl))⟩)
  obtain ⟨w_ISO_8859_1, ev_ISO_8859_1⟩ := exa_v hn3
  have E_ISO_8859_1 := Exa.start ev_ISO_8859_1 hn3
  have S_ISO_8859_1 := Sta.start ev_ISO_8859_1 (Or.inr ⟨(hw _ (List.mem_of_getElem? (i := 4) rfl)), (hw _ (List.mem_of_getElem? (i := 11) rfl))⟩)
  obtain ⟨w_UTF_16, ev_UTF_16⟩ := exa_v hn8
  have E_UTF_16 := Exa.start ev_UTF_16 hn8
  have S_UTF_16 := Sta.start ev_UTF_16 (Or.inr ⟨(hw _ (List.mem_of_getElem? (i := 4) rfl)), (hw _ (List.mem_of_getElem? (i := 14) rfl))⟩)
  obtain ⟨w_VALUES, ev_VALUES⟩ := arr_v hn1
  obtain ⟨cl, Ar⟩ := Arr.start ev_VALUES hn1
  have S_VALUES := Sta.start ev_VALUES (Or.inr ⟨(hw _ (List.mem_of_getElem? (i := 4) rfl)), (hw _ (List.mem_of_getElem? (i := 10) rfl))⟩)
  have hlen : cl.slots.size = 3 := own_len Ar ev_VALUES (own_eqI hn2)
  have hat0 := (elem_in (own_eqR hn4 ev_ISO_8859_1) ev_VALUES (Term.int_eval _) Ar.1).2
  have F_id_ISO_8859_1 := own_fldL ev_ISO_8859_1 hn5
  have hat1 := (elem_in (own_eqR hn6 ev_UTF_8) ev_VALUES (Term.int_eval _) Ar.1).2
  have F_id_UTF_8 := own_fldL ev_UTF_8 hn7
  have hat2 := (elem_in (own_eqR hn9 ev_UTF_16) ev_VALUES (Term.int_eval _) Ar.1).2
  have F_id_UTF_16 := own_fldL ev_UTF_16 hn10
  obtain ⟨n, o, h1, h2, h3, _, L, rfl, ⟨rfl, N⟩, hq⟩ := rm0 l s _ hw tables_1 i0 i1 w_ISO_8859_1 w_UTF_8 w_UTF_16 w_VALUES s.heap s.heap.size (Nat.le_refl _) S_ISO_8859_1 S_UTF_8 S_UTF_16 S_VALUES cl Ar hlen hat0 hat1 hat2 F_id_ISO_8859_1 F_id_UTF_8 F_id_UTF_16 p e ha hc hk s m _ below hf ((Spec.applies_iff_loose hf).mp happ).1 ⟨rfl, State.Warmed39.refl s, rfl⟩ trivial
  refine ⟨n, _, h1, h2, h3, hpost _ _ _ _ _ _ ⟨Cond.after_iff.mpr rfl, Cond.after_iff.mpr (eq_i res_at (Term.int_eval (1)) rfl), trivial⟩ ⟨hq.1, hq.2.1, (hq.2.2.sift fun y hy => Or.inr (N y hy)).mono (by decide) (by decide)⟩⟩
theorem main_1_1 : Claimed_1_1 := comes_1 fun _ _ _ _ _ _ h hF => ⟨h.1, hF⟩
theorem main_1_2 : Claimed_1_2 := comes_1 fun _ _ _ _ _ _ h hF => ⟨h.2.1, hF⟩
end Jvm.Pilot.@@N@@
namespace Jvm.Pilot.@@N@@
open Jvm Jvm.ClassFile Sem Op Lib Jvm.Free Jvm.Stand Jvm.Pilot.@@N@@.Jvm.D
/-! MADE BY PROGRAM (witnessworld.py) out of the Statement's table words and the real class files: 13 classes; the members and pool entries that the words name. The judged class is class 1, her method 1. -/
namespace start1
open Jvm.ClassFile
def u (s : String) : CpInfo := .utf8 (stringToUtf16 s)
/-- a pool by its gaps: so many unusable entries, then the entry; so many at the end -/
def gap : Nat → List CpInfo → List CpInfo
  | 0, r => r
  | n + 1, r => .unusable :: gap n r
def poolList (es : List (Nat × CpInfo)) (last : Nat) : List CpInfo := es.foldr (fun e r => gap e.1 (e.2 :: r)) (gap last [])
def pool (es : List (Nat × CpInfo)) (last : Nat) : Array CpInfo := ⟨poolList es last⟩
def fileOf (pool : Array CpInfo) (this : Nat) (attrs : Array Attribute := #[]) (ms : Array MethodInfo := #[]) (fl : Nat := 33) (sup : Nat := 0) (ifs : Array Nat := #[]) (fds : Array FieldInfo := #[]) : ClassFile where
  minorVersion := 0
  majorVersion := 65
  constantPool := pool
  accessFlags := fl
  thisClass := this
  superClass := sup
  interfaces := ifs
  fields := fds
  methods := ms
  attributes := attrs
def plain (name : String) (sup : Option ClassId) : Class where
  name := name
  kind := .ordinary
  loader := none
  accessFlags := 33
  super := sup
  interfaces := #[]
  cf := none
  fields := #[]
  methods := #[]
  instanceTypes := #[]
  staticTypes := #[]
  resolved := #[]
  callSites := []
  init := .initialized
  statics := none
  mirror := none

def pool0 : Array CpInfo := pool [(5, u "<init>"), (0, u "()V"), (1, .class_ 10), (1, u "java/lang/Object")] 113

def k0m0 : Method := { name := "<init>", desc := "()V", sig := { parameters := [], returnType := none }, accessFlags := 1, code := none }
/-- java/lang/Object -/
def k0 : Class := { plain "java/lang/Object" none with
  accessFlags := 33
  interfaces := #[]
  cf := some (fileOf pool0 8 #[] #[{ accessFlags := 1, nameIndex := 5, descriptorIndex := 6, attributes := #[] }] 33 0 #[] #[])
  fields := #[]
  methods := #[k0m0]
  instanceTypes := #[]
  staticTypes := #[]
  resolved := Array.replicate 124 none
  statics := none }

def pool1 : Array CpInfo := pool [(2, .class_ 4), (1, u "java/lang/Object"), (0, u "<init>"), (0, u "()V"), (0, .long 63), (1, .long 65537), (1, .long 83951617), (1, .long 65801), (1, .fieldref 16 17), (0, .class_ 18), (0, .nameAndType 19 20), (0, u "com/example/orbweave/orbweave/cdr/CodeSet"), (0, u "ISO_8859_1"), (0, u "Lcom/example/orbweave/orbweave/cdr/CodeSet;"), (0, .fieldref 16 22), (0, .nameAndType 23 20), (0, u "UTF_8"), (0, .fieldref 16 25), (0, .nameAndType 26 20), (0, u "UTF_16"), (0, .methodref 16 28), (0, .nameAndType 29 30), (0, u "byId"), (0, u "(J)Lcom/example/orbweave/orbweave/cdr/CodeSet;"), (0, .class_ 32), (0, u "com/example/orbweave/orbweave/cdr/CodeSetByIdPinLaw"), (2, u "law"), (0, u "(JI)Z")] 3

def k1m0 : Method := { name := "<init>", desc := "()V", sig := { parameters := [], returnType := none }, accessFlags := 1, code := none }
def k1c1 : Code := { maxStack := 5, maxLocals := 9, code := code, exceptionTable := #[], attributes := #[] }
def k1m1 : Method := { name := "law", desc := "(JI)Z", sig := { parameters := [.long, .int], returnType := some .boolean }, accessFlags := 9, code := some k1c1 }
/-- com/example/orbweave/orbweave/cdr/CodeSetByIdPinLaw -/
def k1 : Class := { plain "com/example/orbweave/orbweave/cdr/CodeSetByIdPinLaw" (some 0) with
  accessFlags := 49
  interfaces := #[]
  cf := some (fileOf pool1 31 #[] #[{ accessFlags := 1, nameIndex := 5, descriptorIndex := 6, attributes := #[] }, { accessFlags := 9, nameIndex := 35, descriptorIndex := 36, attributes := #[] }] 49 2 #[] #[])
  fields := #[]
  methods := #[k1m0, k1m1]
  instanceTypes := #[]
  staticTypes := #[]
  resolved := Array.replicate 40 none
  statics := none }

def pool2 : Array CpInfo := pool [(1, .class_ 2), (0, u "java/lang/constant/Constable"), (0, .class_ 4), (0, u "java/lang/Object")] 6

/-- java/lang/constant/Constable -/
def k2 : Class := { plain "java/lang/constant/Constable" (some 0) with
  accessFlags := 1537
  interfaces := #[]
  cf := some (fileOf pool2 1 #[] #[] 1537 3 #[] #[])
  fields := #[]
  methods := #[]
  instanceTypes := #[]
  staticTypes := #[]
  resolved := Array.replicate 11 none
  statics := none }

def pool3 : Array CpInfo := pool [(1, .class_ 2), (0, u "java/lang/Comparable"), (0, .class_ 4), (0, u "java/lang/Object")] 7

/-- java/lang/Comparable -/
def k3 : Class := { plain "java/lang/Comparable" (some 0) with
  accessFlags := 1537
  interfaces := #[]
  cf := some (fileOf pool3 1 #[] #[] 1537 3 #[] #[])
  fields := #[]
  methods := #[]
  instanceTypes := #[]
  staticTypes := #[]
  resolved := Array.replicate 12 none
  statics := none }

def pool4 : Array CpInfo := pool [(1, .class_ 2), (0, u "java/io/Serializable"), (0, .class_ 4), (0, u "java/lang/Object")] 2

/-- java/io/Serializable -/
def k4 : Class := { plain "java/io/Serializable" (some 0) with
  accessFlags := 1537
  interfaces := #[]
  cf := some (fileOf pool4 1 #[] #[] 1537 3 #[] #[])
  fields := #[]
  methods := #[]
  instanceTypes := #[]
  staticTypes := #[]
  resolved := Array.replicate 7 none
  statics := none }

def pool5 : Array CpInfo := pool [(2, .class_ 4), (1, u "java/lang/Enum"), (0, u "name"), (0, u "Ljava/lang/String;"), (2, u "ordinal"), (0, u "I"), (1, .class_ 14), (1, u "java/lang/Object"), (4, u "hash"), (86, .class_ 108), (1, u "java/lang/Enum$EnumDesc"), (2, .class_ 112), (0, u "java/lang/constant/Constable"), (0, .class_ 114), (0, u "java/lang/Comparable"), (0, .class_ 116), (0, u "java/io/Serializable")] 87

/-- java/lang/Enum -/
def k5 : Class := { plain "java/lang/Enum" (some 0) with
  accessFlags := 1057
  interfaces := #[2, 3, 4]
  cf := some (fileOf pool5 2 #[.nestMembers #[106]] #[] 1057 12 #[111, 113, 115] #[{ accessFlags := 18, nameIndex := 5, descriptorIndex := 6, attributes := #[] }, { accessFlags := 18, nameIndex := 9, descriptorIndex := 10, attributes := #[] }, { accessFlags := 2, nameIndex := 19, descriptorIndex := 10, attributes := #[] }])
  fields := #[{ name := "name", type := (.object "java/lang/String"), accessFlags := 18, slot := 0, constantValue := 0 }, { name := "ordinal", type := .int, accessFlags := 18, slot := 1, constantValue := 0 }, { name := "hash", type := .int, accessFlags := 2, slot := 2, constantValue := 0 }]
  methods := #[]
  instanceTypes := #[(.object "java/lang/String"), .int, .int]
  staticTypes := #[]
  resolved := Array.replicate 204 none
  statics := none }

def pool6 : Array CpInfo := pool [(1, .class_ 2), (0, u "com/example/orbweave/orbweave/cdr/CodeSet"), (2, u "ISO_8859_1"), (0, u "Lcom/example/orbweave/orbweave/cdr/CodeSet;"), (2, u "UTF_8"), (2, u "UTF_16"), (2, u "$VALUES"), (0, u "[Lcom/example/orbweave/orbweave/cdr/CodeSet;"), (6, .class_ 25), (1, u "java/lang/Enum"), (6, .fieldref 1 33), (0, .nameAndType 34 35), (0, u "id"), (0, u "J"), (2, u "wide"), (0, u "Z"), (2, u "name"), (0, u "Ljava/lang/String;"), (0, .fieldref 1 45), (0, .nameAndType 46 16), (0, u "VALUES"), (55, u "byId"), (0, u "(J)Lcom/example/orbweave/orbweave/cdr/CodeSet;")] 10

def k6c0 : Code := { maxStack := 4, maxLocals := 7, code := prog_6_method_6_code, exceptionTable := #[], attributes := #[] }
def k6m0 : Method := { name := "byId", desc := "(J)Lcom/example/orbweave/orbweave/cdr/CodeSet;", sig := { parameters := [.long], returnType := some (.object "com/example/orbweave/orbweave/cdr/CodeSet") }, accessFlags := 9, code := some k6c0 }
/-- com/example/orbweave/orbweave/cdr/CodeSet -/
def k6 : Class := { plain "com/example/orbweave/orbweave/cdr/CodeSet" (some 5) with
  accessFlags := 16433
  interfaces := #[]
  cf := some (fileOf pool6 1 #[] #[{ accessFlags := 9, nameIndex := 102, descriptorIndex := 103, attributes := #[] }] 16433 23 #[] #[{ accessFlags := 16409, nameIndex := 5, descriptorIndex := 6, attributes := #[] }, { accessFlags := 16409, nameIndex := 9, descriptorIndex := 6, attributes := #[] }, { accessFlags := 16409, nameIndex := 12, descriptorIndex := 6, attributes := #[] }, { accessFlags := 26, nameIndex := 46, descriptorIndex := 16, attributes := #[] }, { accessFlags := 18, nameIndex := 34, descriptorIndex := 35, attributes := #[] }, { accessFlags := 18, nameIndex := 38, descriptorIndex := 39, attributes := #[] }, { accessFlags := 18, nameIndex := 42, descriptorIndex := 43, attributes := #[] }, { accessFlags := 4122, nameIndex := 15, descriptorIndex := 16, attributes := #[] }])
  fields := #[{ name := "ISO_8859_1", type := (.object "com/example/orbweave/orbweave/cdr/CodeSet"), accessFlags := 16409, slot := 0, constantValue := 0 }, { name := "UTF_8", type := (.object "com/example/orbweave/orbweave/cdr/CodeSet"), accessFlags := 16409, slot := 1, constantValue := 0 }, { name := "UTF_16", type := (.object "com/example/orbweave/orbweave/cdr/CodeSet"), accessFlags := 16409, slot := 2, constantValue := 0 }, { name := "VALUES", type := (.array (.object "com/example/orbweave/orbweave/cdr/CodeSet")), accessFlags := 26, slot := 3, constantValue := 0 }, { name := "id", type := .long, accessFlags := 18, slot := 3, constantValue := 0 }, { name := "wide", type := .boolean, accessFlags := 18, slot := 4, constantValue := 0 }, { name := "name", type := (.object "java/lang/String"), accessFlags := 18, slot := 5, constantValue := 0 }, { name := "$VALUES", type := (.array (.object "com/example/orbweave/orbweave/cdr/CodeSet")), accessFlags := 4122, slot := 4, constantValue := 0 }]
  methods := #[k6m0]
  instanceTypes := #[(.object "java/lang/String"), .int, .int, .long, .boolean, (.object "java/lang/String")]
  staticTypes := #[(.object "com/example/orbweave/orbweave/cdr/CodeSet"), (.object "com/example/orbweave/orbweave/cdr/CodeSet"), (.object "com/example/orbweave/orbweave/cdr/CodeSet"), (.array (.object "com/example/orbweave/orbweave/cdr/CodeSet")), (.array (.object "com/example/orbweave/orbweave/cdr/CodeSet"))]
  resolved := Array.replicate 114 none
  statics := some 0 }

def pool7 : Array CpInfo := pool [(1, u "java/lang/Cloneable"), (0, .class_ 1), (0, u "java/lang/Object"), (0, .class_ 3)] 3

/-- java/lang/Cloneable -/
def k7 : Class := { plain "java/lang/Cloneable" (some 0) with
  accessFlags := 1537
  interfaces := #[]
  cf := some (fileOf pool7 2 #[] #[] 1537 4 #[] #[])
  fields := #[]
  methods := #[]
  instanceTypes := #[]
  staticTypes := #[]
  resolved := Array.replicate 8 none
  statics := none }

/-- the primitive byte -/
def k8 : Class := { plain "byte" none with kind := .primitive 'B', accessFlags := 0x411 }
/-- [B -/
def k9 : Class := { plain "[B" (some 0) with kind := .array 8 .byte, interfaces := #[7, 4], accessFlags := 1041 }

/-- the primitive int -/
def k10 : Class := { plain "int" none with kind := .primitive 'I', accessFlags := 0x411 }
/-- [I -/
def k11 : Class := { plain "[I" (some 0) with kind := .array 10 .int, interfaces := #[7, 4], accessFlags := 1041 }

/-- [Lcom/example/orbweave/orbweave/cdr/CodeSet; -/
def k12 : Class := { plain "[Lcom/example/orbweave/orbweave/cdr/CodeSet;" (some 0) with kind := .array 6 (.object "com/example/orbweave/orbweave/cdr/CodeSet"), interfaces := #[7, 4], accessFlags := 1041 }

def heap : Heap := #[{ cls := 6, slots := #[.ref 2, .ref 3, .ref 4, .ref 1, .null], vm := .statics 6 },
  { cls := 12, slots := #[.ref 2, .ref 3, .ref 4], vm := .none },
  { cls := 6, slots := #[.null, .int 0, .int 0, .long 65537, .int 0, .null], vm := .none },
  { cls := 6, slots := #[.null, .int 1, .int 0, .long 83951617, .int 0, .null], vm := .none },
  { cls := 6, slots := #[.null, .int 2, .int 0, .long 65801, .int 0, .null], vm := .none }]
def classes : Array Class := #[k0, k1, k2, k3, k4, k5, k6, k7, k8, k9, k10, k11, k12]
def interned : List (Array UInt16 × Addr) := []
def slotsUsed : Nat := 26
def theMethod : MethodId := ⟨1, 1⟩
def args0 : Array Value := #[.long 65537, .int 0]
def aboutOver (below : List Frame) : State where
  vm := { classes := classes, interned := interned.toArray }
  heap := heap
  slotsUsed := slotsUsed
  threads := #[{ frames := .invoking theMethod args0 :: below }]
def below0 : List Frame := [.native { method := ⟨0, 0⟩, args := #[] }]
def about1 : State := aboutOver below0
def p0 : Program := .bare "" "" ""
def e0 : Env := launch0.env 0 0 0
theorem w_frames : about1.frames = Frame.invoking theMethod args0 :: below0 := rfl
set_option maxRecDepth 65536 in
theorem w_args : argsFit about1.vm theMethod args0 = true := by decide +kernel
set_option maxRecDepth 65536 in
theorem w_heap : heapFits about1 = true := by decide +kernel
set_option maxRecDepth 65536 in
theorem w_runnable : about1.curStatus? = some .runnable := by decide +kernel
set_option maxRecDepth 65536 in
theorem w_alone : about1.alone = true := by decide +kernel
set_option maxRecDepth 65536 in
theorem w_named : about1.methodNamed? x = some theMethod := by decide +kernel
set_option maxRecDepth 65536 in
theorem w_hears : about1.hears theMethod below0 = true := by decide +kernel
set_option maxRecDepth 65536 in
theorem w_ripe : about1.ripe theMethod args0 below0 = true := by decide +kernel
theorem w_running : about1.status = .running := rfl
set_option maxRecDepth 65536 in
theorem w_room : about1.hasRoom e0.platform room_1 = true :=
  launch0.hasRoom_least _ room_1 (by decide +kernel) (by decide +kernel) (by decide +kernel) (by decide +kernel) (by decide +kernel) (by decide +kernel)
theorem allAtoms_all (ts : List Jvm.Cond) (a : Array Jvm.Value) (st : Jvm.State) : (allAtoms ts).before a st = ts.all (fun c => c.before a st) := by
  induction ts with
  | nil => rfl
  | cons c t ih =>
    show (Jvm.Cond.and c (allAtoms t)).before a st = _
    rw [Jvm.Cond.before_and, ih, List.all_cons]
def words1 : List Jvm.Cond := Jvm.Cond.code x code maxLocals ret :: tables_1
/-- a 'code' word, met by the world's own term for the bytes: nothing is compared byte by byte -/
theorem code_word {y : MethodName} {bytes : ByteArray} {mx : Nat} {rt : Option FieldType} {a : Array Value} {s : State} {m : MethodId} {meth : Method} {c : Code} (h1 : s.methodNamed? y = some m) (h2 : s.vm.method? m = some meth) (h3 : meth.code = some c) (h4 : c.code = bytes)
    (h5 : (c.maxLocals == mx && c.exceptionTable.isEmpty && decide (c.maxStack ≤ mostOperands) && decide (meth.sig.returnType = rt) && !meth.locks && decide (parseMethodDescriptor y.desc = some meth.sig)) = true) : (Jvm.Cond.code y bytes mx rt).before a s = true := by
  simp only [Bool.and_eq_true, beq_iff_eq, Bool.not_eq_true', decide_eq_true_eq] at h5
  obtain ⟨⟨⟨⟨⟨g1, g2⟩, g3⟩, g4⟩, g5⟩, g6⟩ := h5
  simp [Cond.before, Cond.holds, Cond.value, h1, h2, h3, h4, g1, g2, g3, g4, g5, g6]
def isCode : Jvm.Cond → Bool
  | .code _ _ _ _ => true
  | _ => false
theorem all_split {L : List Jvm.Cond} {P : Jvm.Cond → Bool} (h1 : L.all (fun c => isCode c || P c) = true) (h2 : ∀ c ∈ L.filter isCode, P c = true) : L.all P = true := by
  refine List.all_eq_true.mpr fun c hc => ?_
  have h := List.all_eq_true.mp h1 c hc
  rcases Bool.eq_false_or_eq_true (isCode c) with hi | hi
  · exact h2 c (List.mem_filter.mpr ⟨hc, hi⟩)
  · simpa [hi] using h
set_option maxRecDepth 65536 in
theorem w_c0 : (Jvm.Cond.code x code maxLocals ret).before args0 about1 = true := code_word (m := ⟨1, 1⟩) (meth := k1m1) (c := k1c1) (by decide +kernel) rfl rfl rfl (by decide +kernel)
set_option maxRecDepth 65536 in
theorem w_c1 : (Jvm.Cond.code ({ cls := "com/example/orbweave/orbweave/cdr/CodeSet", name := "byId", desc := "(J)Lcom/example/orbweave/orbweave/cdr/CodeSet;" } : Jvm.MethodName) prog_6_method_6_code (7 : Nat) (Option.some (Jvm.ClassFile.FieldType.object "com/example/orbweave/orbweave/cdr/CodeSet"))).before args0 about1 = true := code_word (m := ⟨6, 0⟩) (meth := k6m0) (c := k6c0) (by decide +kernel) rfl rfl rfl (by decide +kernel)
def codes1 : List Jvm.Cond := [Jvm.Cond.code x code maxLocals ret, Jvm.Cond.code ({ cls := "com/example/orbweave/orbweave/cdr/CodeSet", name := "byId", desc := "(J)Lcom/example/orbweave/orbweave/cdr/CodeSet;" } : Jvm.MethodName) prog_6_method_6_code (7 : Nat) (Option.some (Jvm.ClassFile.FieldType.object "com/example/orbweave/orbweave/cdr/CodeSet"))]
set_option maxRecDepth 65536 in
theorem codes_eq : words1.filter isCode = codes1 := rfl
theorem w_codes : ∀ c ∈ words1.filter isCode, c.before args0 about1 = true := by
  rw [codes_eq]
  intro c hc
  simp only [codes1, List.mem_cons, List.not_mem_nil, or_false] at hc
  rcases hc with rfl | rfl
  · exact w_c0
  · exact w_c1
set_option maxRecDepth 65536 in
theorem w_t1 : words1.all (fun c => isCode c || c.before args0 about1) = true := by decide +kernel
theorem w_tables : (allAtoms (Jvm.Cond.code x code maxLocals ret :: tables_1)).before args0 about1 = true := by
  rw [allAtoms_all]
  show words1.all (fun c => c.before args0 about1) = true
  refine all_split ?_ w_codes
  rw [w_t1]
set_option maxRecDepth 65536 in
theorem w_case : (Jvm.Cond.and given_1 narrow_1).before args0 about1 = true := by decide +kernel
theorem w_applies : (headSpec (Jvm.Cond.code x code maxLocals ret :: tables_1) room_1).applies x e0.platform about1 = true :=
  (Spec.applies_iff w_frames).mpr ⟨w_running, w_runnable, w_alone, w_named, w_hears, w_ripe, w_room, w_tables⟩
theorem atStart : AtStart classFile x code maxLocals ret World_1 tables_1 room_1 Calls_1 rest_1 Pre_1 launch0 p0 e0 about1 theMethod args0 below0 :=
  ⟨lists_1, trivial, launch0.admits_env _ _ _, launch0.least_env, fairChoices_fair.cas, fairChoices_fair.clock, w_frames, w_args, w_heap, w_applies, trivial, trivial, w_case⟩
end start1
theorem witness_1 : WitnessClaimed_1 := ⟨start1.p0, start1.e0, start1.about1, start1.theMethod, start1.args0, start1.below0, start1.atStart⟩
end Jvm.Pilot.@@N@@
