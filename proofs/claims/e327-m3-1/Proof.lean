import JvmDerived
import JvmDerived.Pilot.@@N@@Statement
import JvmDerived.Pilot.@@N@@Code
set_option linter.unusedVariables false
set_option linter.unusedSimpArgs false
@@BLOCK:TracedD.lean.txt@@
namespace Jvm.RoadKit
open Sem ClassFile Op Lib Jvm.Stand Jvm.Free Jvm.LawKit
section New
variable {p : Program} {l : Launch} {e : Env} {R : Room} {s : State} {m : MethodId} {args : Array Value} {below : List Frame} {meth : Method} {c : Code} {T : State} {locs : List Loc} {cells slots : Nat}
theorem retI (X : Stand p l e R s m args below meth c T locs cells slots) (hx : p.tables.exec = Jvm.exec) {pc : Nat} {Ls : Array Slot} {z : Int32} {rest : List Value} (hret : meth.sig.returnType = some .int) (hd : decode c.code pc = .ok (.ireturn, 1)) {fs : List Frame}
    (hl : ∀ (f : JFrame) (acts : List Action), f.method = m → f.locked = none → f.entered = [] → (doReturn e (T.setTop f) acts (some (.int z))).1 = T.setFrames fs) : Steps p.tables e below (T.setTop (mkF m pc Ls (.int z :: rest))) (T.setFrames fs) := by
  have hm' : T.vm.method? m = some meth := X.method'
  have hn : narrow .int (.int z) = .int z := rfl
  show Steps p.tables e below (T.setTop { method := m, pc := pc, locals := Ls, stack := _ :: rest, locked := none }) _
  jvm_step X.here [X.here.top, hx, hd, hm', hret, hn]
  first | (intro acts; rw [hl _ acts rfl rfl rfl]) | rw [hl _ _ rfl rfl rfl]
  exact Steps.refl _
end New
end Jvm.RoadKit
namespace Jvm.Pilot.@@N@@
open Jvm Jvm.ClassFile Sem Op Lib Jvm.Free Jvm.Stand Jvm.LawKit Jvm.RoadKit Bundle Jvm.Pilot.@@N@@.Jvm.D
open Jvm.Free.Exc

/-- the run that stands at the frame f over T ends as Q says -/
def own_Go (p : Program) (e : Env) (below : List Frame) (s : State) (Q : Option Value → Heap → List Loc → Prop) (rc rs : Nat) (T : State) (f : JFrame) : Prop :=
  ∃ s₂ o, Steps p.tables e below (T.setTop f) s₂ ∧ s₂.status = .running ∧ Ended s₂ below o ∧ ∃ v L, o = .returned v ∧ Q v s₂.heap L ∧ FrameEnd s o s₂ L rc rs
theorem own_by {p : Program} {e : Env} {below : List Frame} {s : State} {Q : Option Value → Heap → List Loc → Prop} {rc rs : Nat} {T T' : State} {f f' : JFrame} (k : ∀ t, Steps p.tables e below (T'.setTop f') t → Steps p.tables e below (T.setTop f) t) (h : own_Go p e below s Q rc rs T' f') : own_Go p e below s Q rc rs T f := by
  obtain ⟨s₂, o, st, r⟩ := h
  exact ⟨s₂, o, k _ st, r⟩
theorem own_mk {p : Program} {e : Env} {below : List Frame} {s : State} {Q : Option Value → Heap → List Loc → Prop} {rc rs : Nat} {T : State} {f : JFrame} (h : ∃ s₂ o, Steps p.tables e below (T.setTop f) s₂ ∧ s₂.status = .running ∧ Ended s₂ below o ∧ ∃ v L, o = .returned v ∧ Q v s₂.heap L ∧ FrameEnd s o s₂ L rc rs) : own_Go p e below s Q rc rs T f := h
theorem own_open {p : Program} {e : Env} {below : List Frame} {s : State} {Q : Option Value → Heap → List Loc → Prop} {rc rs : Nat} {T : State} {f f0 : JFrame} (k : ∀ t, Steps p.tables e below (T.setTop f) t → Steps p.tables e below (T.setTop f0) t) (h : own_Go p e below s Q rc rs T f) : ∃ s₂ o, Steps p.tables e below (T.setTop f0) s₂ ∧ s₂.status = .running ∧ Ended s₂ below o ∧ ∃ v L, o = .returned v ∧ Q v s₂.heap L ∧ FrameEnd s o s₂ L rc rs := by
  obtain ⟨s₂, o, st, r⟩ := h
  exact ⟨s₂, o, k _ st, r⟩
theorem own_eqI {args : Array Value} {s : State} {a : Term} {k : Int32} (h : (Cond.eq a (.int k)).value args s none s [] = some true) : a.eval args s none [] s = some (.int k) := by
  obtain ⟨x, y, h1, h2, -, K⟩ := cmp_v (Or.inl h)
  have e : y = .int k := (Option.some.inj h2).symm
  subst e
  obtain ⟨z, rfl⟩ := K
  have q : z = k := by simpa [Cond.value, h1, h2] using h
  rw [h1, q]
theorem own_extt {h h' h'' : Heap} (E : Ext h h') (E' : Ext h' h'') : Ext h h'' := ⟨Nat.le_trans E.1 E'.1, fun a c q => E'.2 a c (E.2 a c q)⟩
theorem own_extw {h h' h'' : Heap} {a : Addr} {sl : Nat} {v : Value} (E : Ext h h') (W : Wr h' h'' a sl v) (g : h.size ≤ a) : Ext h h'' := by
  refine ⟨Nat.le_trans E.1 (Nat.le_of_eq W.size.symm), fun b c q => ?_⟩
  have ne : b ≠ a := Nat.ne_of_lt (Nat.lt_of_lt_of_le (Array.getElem?_eq_some_iff.mp q).1 g)
  obtain ⟨cell, -, -, -, rfl⟩ := W
  rw [Array.getElem?_setIfInBounds_ne (Ne.symm ne)]
  exact E.2 b c q
theorem own_eqL {args : Array Value} {s : State} {a : Term} {k : Int64} (h : (Cond.eq a (.long k)).value args s none s [] = some true) : a.eval args s none [] s = some (.long k) := by
  obtain ⟨x, y, h1, h2, -, K⟩ := cmp_v (Or.inl h)
  have e : y = .long k := (Option.some.inj h2).symm
  subst e
  obtain ⟨z, rfl⟩ := K
  have q : z = k := by simpa [Cond.value, h1, h2] using h
  rw [h1, q]
theorem own_eqR {args : Array Value} {s : State} {a b : Term} {r : Addr} (h : (Cond.eq a b).value args s none s [] = some true) (hb : b.eval args s none [] s = some (.ref r)) : a.eval args s none [] s = some (.ref r) := by
  obtain ⟨x, y, h1, h2, -, K⟩ := cmp_v (Or.inl h)
  cases hb.symm.trans h2
  rcases ref_cases K.2 with rfl | ⟨q, rfl⟩
  · simp [Cond.value, h1, h2] at h
  · have e : q = r := by simpa [Cond.value, h1, h2] using h
    rw [h1, e]
theorem own_cmp0 {x y : Int64} (h : x = y) : XT.cmpL x y = 0 := by subst h; unfold XT.cmpL; rw [if_neg (by simp), if_pos rfl]
theorem own_cmp1 {x y : Int64} (h : ¬ x = y) : ¬ XT.cmpL x y = 0 := by
  unfold XT.cmpL
  by_cases q : y < x
  · rw [if_pos q]; decide
  · rw [if_neg q, if_neg h]; decide
theorem own_fldL {args : Array Value} {s : State} {t : Term} {C n d : String} {x : Addr} {k : Int64} (ev : t.eval args s none [] s = some (.ref x)) (h : (Cond.eq (.field t C n d) (.long k)).value args s none s [] = some true) : Fld s s.heap x C n d (.long k) := Fld.start ((fld_at ev).symm.trans (own_eqL h))
theorem own_fld {args : Array Value} {s : State} {t : Term} {C n d : String} {x : Addr} {k : Int32} (ev : t.eval args s none [] s = some (.ref x)) (h : (Cond.eq (.field t C n d) (.int k)).value args s none s [] = some true) : Fld s s.heap x C n d (.int k) := Fld.start ((fld_at ev).symm.trans (own_eqI h))
/-- the run that stands at the frame f over T ends as Q says -/
def own_GoW (p : Program) (e : Env) (below : List Frame) (s : State) (Q : Option Value → Heap → List Loc → Prop) (rc rs : Nat) (T : State) (f : JFrame) : Prop :=
  ∃ s₂ o, Steps p.tables e below (T.setTop f) s₂ ∧ s₂.status = .running ∧ Ended s₂ below o ∧ ∃ v L, o = .returned v ∧ Q v s₂.heap L ∧ ReturnedEndW s o s₂ L rc rs
theorem own_byW {p : Program} {e : Env} {below : List Frame} {s : State} {Q : Option Value → Heap → List Loc → Prop} {rc rs : Nat} {T T' : State} {f f' : JFrame} (k : ∀ t, Steps p.tables e below (T'.setTop f') t → Steps p.tables e below (T.setTop f) t) (h : own_GoW p e below s Q rc rs T' f') : own_GoW p e below s Q rc rs T f := by
  obtain ⟨s₂, o, st, r⟩ := h
  exact ⟨s₂, o, k _ st, r⟩
theorem own_mkW {p : Program} {e : Env} {below : List Frame} {s : State} {Q : Option Value → Heap → List Loc → Prop} {rc rs : Nat} {T : State} {f : JFrame} (h : ∃ s₂ o, Steps p.tables e below (T.setTop f) s₂ ∧ s₂.status = .running ∧ Ended s₂ below o ∧ ∃ v L, o = .returned v ∧ Q v s₂.heap L ∧ ReturnedEndW s o s₂ L rc rs) : own_GoW p e below s Q rc rs T f := h
theorem own_openW {p : Program} {e : Env} {below : List Frame} {s : State} {Q : Option Value → Heap → List Loc → Prop} {rc rs : Nat} {T : State} {f f0 : JFrame} (k : ∀ t, Steps p.tables e below (T.setTop f) t → Steps p.tables e below (T.setTop f0) t) (h : own_GoW p e below s Q rc rs T f) : ∃ s₂ o, Steps p.tables e below (T.setTop f0) s₂ ∧ s₂.status = .running ∧ Ended s₂ below o ∧ ∃ v L, o = .returned v ∧ Q v s₂.heap L ∧ ReturnedEndW s o s₂ L rc rs := by
  obtain ⟨s₂, o, st, r⟩ := h
  exact ⟨s₂, o, k _ st, r⟩

abbrev SE : String := "com/example/lull/lull/runtime/ScriptError"
/-- what the sheet says of Throwable, and of ScriptError as one -/
def own_words : List Jvm.Cond := [.initialized tN, .superclass tN "java/lang/Object",
  .instanceMethod tFill, .codeSync tFill Jvm.LibCode.Throwable.Fill.code 1 (some (.object tN)), .instanceMethod tFill0, .native tFill0,
  .instanceMethod oInit, .code oInit object_method_1_code 1 none, .methodLink tN 1 oInit, .methodLink tN 27 tFill, .methodLink tN 202 tFill0,
  .fieldLink tN 7 tN "cause" thD, .lays SE tN "cause" thD, .fieldLink tN 17 tN "stackTrace" steD, .lays SE tN "stackTrace" steD,
  .fieldLink tN 24 tN "suppressedExceptions" listD, .lays SE tN "suppressedExceptions" listD,
  .fieldLink tN 13 tN "UNASSIGNED_STACK" steD, .laysStatic tN "UNASSIGNED_STACK" steD, .fieldLink tN 20 tN "SUPPRESSED_SENTINEL" listD, .laysStatic tN "SUPPRESSED_SENTINEL" listD,
  .lays SE tN "detailMessage" msgD, .fieldLink tN 198 tN "backtrace" obD, .lays SE tN "backtrace" obD, .arrayOver (.object "java/lang/Object"), .soleField tN "backtrace", .soleField tN "depth", .lays SE tN "depth" "I",
  .selects SE tFill0 tFill0, .selects SE tFill tFill, .declares tFill]
theorem own_words_at {Z s : State} {a0 args : Array Value} (hT : ThS Z s.heap) (hZ : Z.Warmed39 s.vm) (hw : ∀ d ∈ tables_1, d.before a0 Z = true) : ∀ d ∈ own_words, d.before args s = true := by
  intro d hd
  simp only [own_words, List.mem_cons, List.not_mem_nil, or_false] at hd
  rcases hd with rfl | rfl | rfl | rfl | rfl | rfl | rfl | rfl | rfl | rfl | rfl | rfl | rfl | rfl | rfl | rfl | rfl | rfl | rfl | rfl | rfl | rfl | rfl | rfl | rfl | rfl | rfl | rfl | rfl | rfl | rfl
  · exact mvX hT hZ rfl (hw _ (List.mem_of_getElem? (i := 29) rfl))
  · exact mvX hT hZ rfl (hw _ (List.mem_of_getElem? (i := 49) rfl))
  · exact mvX hT hZ rfl (hw _ (List.mem_of_getElem? (i := 44) rfl))
  · exact mvX hT hZ rfl (hw _ (List.mem_of_getElem? (i := 50) rfl))
  · exact mvX hT hZ rfl (hw _ (List.mem_of_getElem? (i := 51) rfl))
  · exact mvX hT hZ rfl (hw _ (List.mem_of_getElem? (i := 52) rfl))
  · exact mvX hT hZ rfl (hw _ (List.mem_of_getElem? (i := 32) rfl))
  · exact mvX hT hZ rfl (hw _ (List.mem_of_getElem? (i := 33) rfl))
  · exact mvX hT hZ rfl (hw _ (List.mem_of_getElem? (i := 31) rfl))
  · exact mvX hT hZ rfl (hw _ (List.mem_of_getElem? (i := 42) rfl))
  · exact mvX hT hZ rfl (hw _ (List.mem_of_getElem? (i := 55) rfl))
  · exact mvX hT hZ rfl (hw _ (List.mem_of_getElem? (i := 34) rfl))
  · exact mvX hT hZ rfl (hw _ (List.mem_of_getElem? (i := 35) rfl))
  · exact mvX hT hZ rfl (hw _ (List.mem_of_getElem? (i := 37) rfl))
  · exact mvX hT hZ rfl (hw _ (List.mem_of_getElem? (i := 38) rfl))
  · exact mvX hT hZ rfl (hw _ (List.mem_of_getElem? (i := 40) rfl))
  · exact mvX hT hZ rfl (hw _ (List.mem_of_getElem? (i := 41) rfl))
  · exact mvX hT hZ rfl (hw _ (List.mem_of_getElem? (i := 36) rfl))
  · exact mvX hT hZ rfl (hw _ (List.mem_of_getElem? (i := 62) rfl))
  · exact mvX hT hZ rfl (hw _ (List.mem_of_getElem? (i := 39) rfl))
  · exact mvX hT hZ rfl (hw _ (List.mem_of_getElem? (i := 63) rfl))
  · exact mvX hT hZ rfl (hw _ (List.mem_of_getElem? (i := 65) rfl))
  · exact mvX hT hZ rfl (hw _ (List.mem_of_getElem? (i := 60) rfl))
  · exact mvX hT hZ rfl (hw _ (List.mem_of_getElem? (i := 66) rfl))
  · exact mvX hT hZ rfl (hw _ (List.mem_of_getElem? (i := 46) rfl))
  · exact mvX hT hZ rfl (hw _ (List.mem_of_getElem? (i := 47) rfl))
  · exact mvX hT hZ rfl (hw _ (List.mem_of_getElem? (i := 48) rfl))
  · exact mvX hT hZ rfl (hw _ (List.mem_of_getElem? (i := 67) rfl))
  · exact mvX hT hZ rfl (hw _ (List.mem_of_getElem? (i := 64) rfl))
  · exact mvX hT hZ rfl (hw _ (List.mem_of_getElem? (i := 45) rfl))
  · exact mvX hT hZ rfl (hw _ (List.mem_of_getElem? (i := 43) rfl))

theorem own_links {args : Array Value} {s : State} {pl : Platform} (howns : pl.frameOwnsMonitors = true) (hfin : pl.finalization = false) (hpl : pl.magicAccessors = ({} : Platform).magicAccessors) (W : ∀ d ∈ own_words, d.before args s = true) :
    ∃ T : ThrowableC, T.Links pl s ∧ s.vm.findClass tN = some T.cT ∧ s.methodNamed? tFill = some T.fill ∧ s.methodNamed? tFill0 = some T.fill0 ∧ s.fieldFound? tN "stackTrace" steD = some (T.cT, T.kT, T.i17, T.fStack) ∧ s.fieldFound? tN "UNASSIGNED_STACK" steD = some (T.cT, T.kT, T.i13, T.fUnassigned) := by
  have w : ∀ d, d ∈ own_words → d.holds args s none s [] = true := fun d hd => W d hd
  -- the class
  obtain ⟨⟨c, j0⟩, n0, hn0, hm0, q01, q02, q03, q04⟩ := Cond.native_spec (w (.native tFill0) (by simp [own_words]))
  have hc : s.vm.findClass tN = some c := findClass_of_methodNamed hn0
  obtain ⟨k, hk, hname⟩ := Vm.findClass_spec hc
  obtain ⟨_, k', _, _, hk', _, _, -, _, hni⟩ := Cond.superclass_spec hc (w (.superclass tN "java/lang/Object") (by simp [own_words]))
  cases hk.symm.trans hk'
  -- its two methods, Object's constructor
  obtain ⟨j1, n1, hn1, hm1, at1, st1, ab1, -, -⟩ := Cond.ownMethod (x := tFill) hc hk (w (.instanceMethod tFill) (by simp [own_words]))
  obtain ⟨n1', cF, hm1', hcF, hbF, hlF, hrF, hkF, -, hgF⟩ := Cond.codeSync_spec hn1 (w (.codeSync tFill Jvm.LibCode.Throwable.Fill.code 1 (some (.object tN))) (by simp [own_words]))
  cases hm1.symm.trans hm1'
  obtain ⟨j0', n0', hn0', hm0', at0, st0, ab0, nm0, ds0⟩ := Cond.ownMethod (x := tFill0) hc hk (w (.instanceMethod tFill0) (by simp [own_words]))
  cases hn0.symm.trans hn0'
  cases hm0.symm.trans hm0'
  obtain ⟨mO, nO, hnO, hmO, stO, abO⟩ := Cond.instanceMethod_spec (w (.instanceMethod oInit) (by simp [own_words]))
  obtain ⟨nO', cO, hmO', hcO, hbO, hlO, -, hkO, -, hgO⟩ := Cond.code_spec hnO (w (.code oInit object_method_1_code 1 none) (by simp [own_words]))
  cases hmO.symm.trans hmO'
  obtain ⟨kO, hcO', hnmO⟩ := Vm.findClass_spec (findClass_of_methodNamed hnO)
  obtain ⟨hoN, hoD⟩ := name_of_methodNamed hnO hmO
  -- its links
  obtain ⟨a1, b1, cf, l1, r1, hcf, p1⟩ := Cond.linkedMethod hc hk hnO (w (.methodLink tN 1 oInit) (by simp [own_words])) pl hpl
  obtain ⟨a27, b27, cf27, l27, r27, hcf27, p27⟩ := Cond.linkedMethod hc hk hn1 (w (.methodLink tN 27 tFill) (by simp [own_words])) pl hpl
  cases hcf.symm.trans hcf27
  obtain ⟨a202, b202, cf202, l202, r202, hcf202, p202⟩ := Cond.linkedMethod hc hk hn0 (w (.methodLink tN 202 tFill0) (by simp [own_words])) pl hpl
  cases hcf.symm.trans hcf202
  -- its fields: the words of their places are ScriptError's
  obtain ⟨c7, i7, f7, l7, r7, at7, s7, z7, -, -, -⟩ := Cond.ownField (t := .object tN) hc hk (by decide +kernel) (w (.fieldLink tN 7 tN "cause" thD) (by simp [own_words])) (w (.lays SE tN "cause" thD) (by simp [own_words])) pl hpl
  obtain ⟨c17, i17, f17, l17, r17, at17, s17, z17, n17, -, e17⟩ := Cond.ownField (t := .array (.object "java/lang/StackTraceElement")) hc hk (by decide +kernel) (w (.fieldLink tN 17 tN "stackTrace" steD) (by simp [own_words])) (w (.lays SE tN "stackTrace" steD) (by simp [own_words])) pl hpl
  obtain ⟨c24, i24, f24, l24, r24, at24, s24, z24, n24, -, e24⟩ := Cond.ownField (t := .object "java/util/List") hc hk (by decide +kernel) (w (.fieldLink tN 24 tN "suppressedExceptions" listD) (by simp [own_words])) (w (.lays SE tN "suppressedExceptions" listD) (by simp [own_words])) pl hpl
  obtain ⟨c13, i13, f13, aS, _, l13, r13, at13, s13, -, -, hsta, -, -, -, -, e13⟩ := Cond.ownStatic (t := .array (.object "java/lang/StackTraceElement")) hc hk (by decide +kernel) (w (.fieldLink tN 13 tN "UNASSIGNED_STACK" steD) (by simp [own_words])) (w (.laysStatic tN "UNASSIGNED_STACK" steD) (by simp [own_words])) pl hpl
  obtain ⟨c20, i20, f20, _, _, l20, r20, at20, s20, -, -, -, -, -, -, -, -⟩ := Cond.ownStatic (t := .object "java/util/List") hc hk (by decide +kernel) (w (.fieldLink tN 20 tN "SUPPRESSED_SENTINEL" listD) (by simp [own_words])) (w (.laysStatic tN "SUPPRESSED_SENTINEL" listD) (by simp [own_words])) pl hpl
  obtain ⟨_, _, _, _, _, fM, _, _, _, sM, zM, _⟩ := Cond.lays_spec (w (.lays SE tN "detailMessage" msgD) (by simp [own_words]))
  -- two fields of one object lie apart
  have apart : f17.slot ≠ f24.slot := by
    obtain ⟨cx, kx, _, _, _, _, hcx, hkx, -⟩ := Cond.lays_spec (w (.lays SE tN "stackTrace" steD) (by simp [own_words]))
    obtain ⟨-, d1, g1, g2⟩ := Cond.laysAt hcx hkx e17 (w (.lays SE tN "stackTrace" steD) (by simp [own_words]))
    obtain ⟨-, d2, g3, g4⟩ := Cond.laysAt hcx hkx e24 (w (.lays SE tN "suppressedExceptions" listD) (by simp [own_words]))
    exact Cond.laysApart g1 g3 g2 g4 (by rw [n17, n24]; decide)
  have pF : n1.sig.parameters = [] := by
    have q : (parseMethodDescriptor tFill.desc).map (·.parameters) = some [] := by decide +kernel
    rw [hgF] at q; simpa using q
  have p0 : n0.sig.parameters = [.int] := by
    have q : (parseMethodDescriptor tFill0.desc).map (·.parameters) = some [.int] := by decide +kernel
    rw [q04] at q; simpa using q
  have pO : nO.sig.parameters.length = 0 := by
    have q : (parseMethodDescriptor oInit.desc).map (·.parameters.length) = some 0 := by decide +kernel
    rw [hgO] at q; simpa using q
  exact ⟨{ cT := c, kT := k, cO := c, aS := aS, fillIdx := j1, fill0Idx := j0, initSIdx := j1, obj := mO, kObj := kO, methFill := n1, methFill0 := n0, methInitS := n1, methObj := nO, codeFill := cF, codeInitS := cF, codeObj := cO,
             fBack := f7, fDepth := f7, fStack := f17, fCause := f7, fSupp := f24, fMsg := fM, fUnassigned := f13, fSentinel := f20, cfT := cf, ci1 := a1, n1 := b1, ci27 := a27, n27 := b27, ci202 := a202, n202 := b202,
             ci7 := c7, i7 := i7, ci13 := c13, i13 := i13, ci17 := c17, i17 := i17, ci20 := c20, i20 := i20, ci24 := c24, i24 := i24 },
    { owns := howns, noFinalization := hfin, cls := hk, name := hname, boot := Vm.findClass_boot hc hk, notInterface := hni, initialized := Cond.initialized_spec hc hk (w (.initialized tN) (by simp [own_words])), statics := hsta,
       fillAt := at1, fillCode := hcF, fillBytes := hbF, fillLocals := hlF, fillLocks := hkF, fillStatic := st1, fillAbstract := ab1, fillReturns := hrF, fillParams := pF,
       fill0At := at0, fill0Name := nm0, fill0Desc := ds0, fill0Params := p0, fill0Static := st0, fill0Native := q01, fill0Code := q02, fill0Locks := q03, fill0Abstract := ab0,
       stackInstance := s17, stackNotFinal := z17, unassignedStatic := s13, objClass := hcO', objClassName := hnmO, objMethod := hmO, objName := hoN, objStatic := stO, objAbstract := abO,
       objFound := by rw [hoD]; exact lookupSpecial_of_named hnO hmO stO, objParams := pO, objCode := hcO, objBytes := hbO, objLocks := hkO,
       causeInstance := s7, causeNotFinal := z7, sentinelStatic := s20, suppInstance := s24, suppNotFinal := z24, msgInstance := sM, msgNotFinal := zM, stackApartSupp := apart,
       file := hcf, mlink1 := l1, mright1 := r1, pool1 := p1, mlink27 := l27, mright27 := r27, pool27 := p27, mlink202 := l202, mright202 := r202, pool202 := p202,
       link7 := l7, right7 := r7, at7 := at7, link13 := l13, right13 := r13, at13 := at13, link17 := l17, right17 := r17, at17 := at17, link20 := l20, right20 := r20, at20 := at20, link24 := l24, right24 := r24, at24 := at24 },
    hc, hn1, hn0, e17, e13⟩

theorem own_found {Z s : State} (hZ : Z.Warmed39 s.vm) {C n d : String} {cf i : Nat} {k : Class} {f : Field} {cf' i' : Nat} {k' : Class} {f' : Field} (h : Z.fieldFound? C n d = some (cf, k, i, f)) (h' : s.fieldFound? C n d = some (cf', k', i', f')) : f = f' ∧ k'.statics = k.statics := by
  obtain ⟨k2, q1, q2⟩ := State.fieldFound?_setVm (s := Z) hZ.alike h
  cases (show s.fieldFound? C n d = _ from q1).symm.trans h'
  exact ⟨rfl, by rw [q2]⟩
theorem own_slot {Z s : State} (hZ : Z.Warmed39 s.vm) {C n d : String} {cf' i' : Nat} {k' : Class} {f' : Field} (hz : ∃ x, Z.fieldFound? C n d = some x) (h' : s.fieldFound? C n d = some (cf', k', i', f')) : f'.slot = Jvm.RoadKit.slotOf Z C n d := by
  obtain ⟨⟨cf, k, i, f⟩, h⟩ := hz
  rw [← (own_found hZ h h').1]
  simp [Jvm.RoadKit.slotOf, h]
theorem own_pdF : parseMethodDescriptor tFill.desc = some ⟨[], some (.object "java/lang/Throwable")⟩ := by decide +kernel
set_option maxHeartbeats 4000000 in
theorem own_fill {p : Program} {l : Launch} {e : Env} {R : Room} {s : State} {m : MethodId} {args : Array Value} {below : List Frame} {meth : Method} {c : Code} {T : State} {locs : List Loc} {cells slots : Nat} {Z : State} {a0 : Array Value} {h : Heap}
    (X : Stand p l e R s m args below meth c T locs cells slots) (hx : p.tables.exec = Jvm.exec) (hl : l.stackTraces = true) (hZ : Z.Warmed39 s.vm) (hw : ∀ d ∈ tables_1, d.before a0 Z = true) (hown : s.vm.findClass tN = some m.cls)
    (hT0 : ThS Z s.heap) (hTK : s.vm.MethodsKnown) (hBelow : s.vm.FramesKnown below) (eT : T.heap = h) {a : Addr} {u0 : Value} (hu : u0.isRef = true)
    (E : Exa Z h a SE) (U : Unt h a) (FS : Fld Z h a tN "stackTrace" steD u0) (FB : Fld Z h a tN "backtrace" obD .null) (SU : Sta Z h tN "UNASSIGNED_STACK" steD u0)
    {g : JFrame} (hg : g.method = m) (hsize : g.locals.size = c.maxLocals) (hs : g.stack = [.ref a]) (hmr : 2 * g.monitorRoom + 0 ≤ 0) (hd : decode c.code g.pc = .ok (.invokevirtual 27, 3))
    (hf : 2 < R.frames) (hlo : 42 ≤ R.locals) (hc : cells + 1 ≤ R.cells) (hsl : slots + 2752 ≤ R.slots) :
    ∃ (T' : State) (L : List Loc), (∀ x ∈ L, x.base = a) ∧ Stand p l e R s m args below meth c T' (locs ++ L) (cells + 1) (slots + 2752) ∧ Exa Z T'.heap a SE ∧
      (∀ {O n d : String} {v : Value}, Fld Z h a O n d v → Jvm.RoadKit.slotOf Z O n d ≠ Jvm.RoadKit.slotOf Z tN "backtrace" obD → Jvm.RoadKit.slotOf Z O n d ≠ Jvm.RoadKit.slotOf Z tN "depth" "I" → Jvm.RoadKit.slotOf Z O n d ≠ Jvm.RoadKit.slotOf Z tN "stackTrace" steD → Fld Z T'.heap a O n d v) ∧
      ∀ target, Steps p.tables e below (T'.setTop { g with pc := g.pc + 3, stack := [.ref a] }) target → Steps p.tables e below (T.setTop g) target := by
  have W := own_words_at (args := args) hT0 hZ hw
  have w : ∀ d, d ∈ own_words → d.holds args s none s [] = true := fun d hd => W d hd
  have htr : e.platform.stackTraces = true := by rw [X.admits.platform]; exact hl
  have howns : e.platform.frameOwnsMonitors = true := by rw [X.admits.platform]
  have hfin : e.platform.finalization = false := by rw [X.admits.platform]
  have hpl : e.platform.magicAccessors = ({} : Platform).magicAccessors := by rw [X.admits.platform]
  obtain ⟨Tt, Lk, hfT, hnF, hn0, eS, eU⟩ := own_links howns hfin hpl W
  -- the object's cell
  have E0 := E
  obtain ⟨cell, kc, h1, h2, h3, h4, h5⟩ := E
  obtain ⟨cell', u1, u2, u3⟩ := U
  cases h1.symm.trans u1
  have hfound : s.vm.findClass SE = some cell.cls := by rw [hZ.alike.findClass]; exact h2
  obtain ⟨cI, kI, i1, i2, i3, -⟩ := Cond.instantiable_spec (hw _ (List.mem_of_getElem? (i := 1) rfl) : (Cond.instantiable SE 7).before a0 Z = true)
  cases h2.symm.trans i1
  cases h3.symm.trans i2
  obtain ⟨kX, hk, hkX⟩ := hZ.alike.2.2 _ _ h3
  have hord : kX.kind = .ordinary := by rw [hkX]; exact i3
  have hsz : cell.slots.size = kX.instanceTypes.size := by rw [hkX]; exact h5 i3
  -- its fields
  obtain ⟨c1, cf, kf, i, f, g1, zS, -, -, -, -, vS⟩ := FS
  cases h1.symm.trans g1
  have xS := (own_found hZ zS eS).1
  obtain ⟨c198, i198, fB, l198, r198, at198, sB, -, nB, tyB, eB⟩ := Cond.ownField (t := .object "java/lang/Object") hfT Lk.cls (by decide +kernel) (w (.fieldLink tN 198 tN "backtrace" obD) (by simp [own_words])) (w (.lays SE tN "backtrace" obD) (by simp [own_words])) e.platform hpl
  obtain ⟨c2, cf2, kf2, i2', f2, g2, zB, -, -, -, -, vB⟩ := FB
  cases h1.symm.trans g2
  have xB := (own_found hZ zB eB).1
  obtain ⟨_, _, cD, kD, iD, fD, -, -, eD, sD, -⟩ := Cond.lays_spec (w (.lays SE tN "depth" "I") (by simp [own_words]))
  cases Option.some.inj ((Cond.lays_declared (w (.lays SE tN "depth" "I") (by simp [own_words])) eD).symm.trans hfT)
  obtain ⟨hkD, atD⟩ := State.fieldFound?_spec eD
  cases Option.some.inj (hkD.symm.trans Lk.cls)
  obtain ⟨nD, tyD⟩ := State.fieldFound?_type eD (t := .int) (by decide +kernel)
  have tyS := (State.fieldFound?_type eS (t := .array (.object "java/lang/StackTraceElement")) (by decide +kernel)).2
  have hfb := Cond.soleField_find hfT Lk.cls (w (.soleField tN "backtrace") (by simp [own_words])) at198 nB sB
  have hfd := Cond.soleField_find hfT Lk.cls (w (.soleField tN "depth") (by simp [own_words])) atD nD sD
  obtain ⟨comp, cO, kO, -, -, hkO, hkindO, hO⟩ := Cond.arrayOver_spec (w (.arrayOver (.object "java/lang/Object")) (by simp [own_words]))
  have lS := (Cond.laysAt hfound hk eS (w (.lays SE tN "stackTrace" steD) (by simp [own_words]))).1
  have lB := (Cond.laysAt hfound hk eB (w (.lays SE tN "backtrace" obD) (by simp [own_words]))).1
  have lD := (Cond.laysAt hfound hk eD (w (.lays SE tN "depth" "I") (by simp [own_words]))).1
  have tk : ∀ {f : Field} {v : Value}, kX.instanceTypes[f.slot]? = some f.type → fits f.type v = true → Jvm.Takes s cell f v := fun {f v} q1 q2 => by
    obtain ⟨w1, w2⟩ := Jvm.Takes.of_laid (v := v) hk hord q1 q2
    exact ⟨by rw [hsz]; simpa using w1, by rw [u2]; exact w2⟩
  -- Throwable's statics
  obtain ⟨cfU, iU, kU, fU, stU, cellS, zU, -, -, hst, hcS, hisS, vU⟩ := SU
  obtain ⟨xU, xst⟩ := own_found hZ zU eU
  have eaS : stU = Tt.aS := by
    have q := Lk.statics
    rw [xst, hst] at q
    exact Option.some.inj q
  subst eaS
  have hneS : Tt.aS ≠ a := fun q => by
    rw [q] at hcS
    cases h1.symm.trans hcS
    rw [h4] at hisS; cases hisS
  have hsel0 : selectMethod e.platform s.vm cell.cls Tt.fill0 = .method Tt.fill0 := by
    obtain ⟨c2, r2, m2, q1, q2, q3, q4, -⟩ := Cond.selects_spec (w (.selects SE tFill0 tFill0) (by simp [own_words]))
    cases Option.some.inj (q1.symm.trans hfound)
    cases Option.some.inj (q2.symm.trans (State.methodFound?_of_named hn0 (by decide)))
    cases Option.some.inj (q3.symm.trans hn0)
    rw [Launch.admits_selectMethod X.admits]; exact q4
  have hSE := W (.selects SE tFill tFill) (by simp [own_words])
  obtain ⟨v6, vm6, ⟨T6, L6, c6, n6⟩, hW6, X6, ⟨hv6, C6, n, hn, hD6, q1, q2, q3, q4, hL6, hc6, hn6⟩, st⟩ := X.virtualBack hx (own := tN) (C := SE) (index := 27) (y := tFill) (z := tFill) hown (W (.methodLink tN 27 tFill) (by simp [own_words])) (W (.declares tFill) (by simp [own_words])) (notFace_of_selects hSE) hSE (W (.instanceMethod tFill) (by simp [own_words])) (by decide)
    (fillPaysAny (l := l) (W := 0) hx htr Tt Lk hnF (u0 := ⟨u0, hu⟩) (self := a) (cell := cell) (cellS := cellS) (fun _ => by rw [u2]; simp) (by rw [u2]; simp) (by rw [u3]) (by rw [u3]) (by rw [← xS]; exact vS) hsel0 hneS (fun q => by rw [q] at hisS; cases hisS) (by rw [← xU]; exact vU) (tk lS (by rw [tyS]; exact fits_refV_array _ ⟨u0, hu⟩))
      ⟨{ ci198 := c198, i198 := i198, fBack := fB }, ⟨l198, r198, at198, sB⟩, by rw [← xB]; exact vB⟩ hTK hBelow hfT hO hkO hkindO hfb hfd
      (fun x => tk lB (by rw [tyB]; rfl)) (fun x => tk lD (by rw [tyD]; rfl)) hf (by omega))
    (b := a) (cB := cell.cls) hfound ⟨cell, by rw [eT]; exact h1, rfl, h4⟩ (g := g) hg hsize (Steps.refl _) (argsL := []) (rest := []) (lenOf own_pdF rfl) hs hmr hd
    (fun vmx hWx => ⟨rfl, hc, hsl, by show T.heap[a]? = _; rw [eT]; exact h1, by show T.heap[_]? = _; rw [eT]; exact hcS⟩)
  dsimp only [Pt.U, Pt.locs, Pt.cells, Pt.slots] at X6 hD6 hL6 hc6 hn6 st
  subst hv6 hL6 hc6 hn6
  have kS : Tt.fStack.slot = Jvm.RoadKit.slotOf Z tN "stackTrace" steD := own_slot hZ ⟨_, zS⟩ eS
  have kB : fB.slot = Jvm.RoadKit.slotOf Z tN "backtrace" obD := own_slot hZ ⟨_, zB⟩ eB
  have kDp : fD.slot = Jvm.RoadKit.slotOf Z tN "depth" "I" := by
    obtain ⟨_, _, cz, kz, iz, fz, -, -, z, -⟩ := Cond.lays_spec (hw _ (List.mem_of_getElem? (i := 67) rfl) : (Cond.lays SE tN "depth" "I").before a0 Z = true)
    exact own_slot hZ ⟨_, z⟩ eD
  refine ⟨T6, _, ?_, X6.more (Nat.le_refl _) (Nat.add_le_add_left hn _), ⟨C6, kc, hD6, by rw [q1]; exact h2, by rw [q1]; exact h3, by rw [q2]; exact h4, by rw [q3]; exact h5⟩, ?_, fun target r => st.trans r⟩
  · intro x hx
    simp only [List.mem_cons, List.not_mem_nil, or_false] at hx
    rcases hx with rfl | rfl | rfl <;> rfl
  · intro O nm dd v F b1 b2 b3
    obtain ⟨cx, cfx, kfx, ix, fx, y1, y2, y3, y4, y5, y6, y7⟩ := F
    cases h1.symm.trans y1
    have es : Jvm.RoadKit.slotOf Z O nm dd = fx.slot := by simp [Jvm.RoadKit.slotOf, y2]
    rw [es] at b1 b2 b3
    refine ⟨C6, cfx, kfx, ix, fx, hD6, y2, y3, by rw [q2]; exact y4, by rw [q2]; exact y5, by rw [q1]; exact y6, ?_⟩
    rw [q4 _ (by rw [kB]; exact b1) (by rw [kDp]; exact b2) (by rw [kS]; exact b3)]
    exact y7
theorem own_keep {p : Program} {l : Launch} {e : Env} {R : Room} {s : State} {m : MethodId} {args : Array Value} {below : List Frame} {meth : Method} {c : Code} {T : State} {locs : List Loc} {cells slots : Nat} (X : Stand p l e R s m args below meth c T locs cells slots) {a : Addr} (hL : ∀ x ∈ locs, x.base = a) : Keep s.heap T.heap [a] := by
  have S := X.same
  refine ⟨S.2.1, fun x cl q r => ?_, fun x cl q => ?_⟩
  · exact S.kept_off (fun i hi => r (by simpa using hL _ hi)) q
  · obtain ⟨c', q1, q2, q3, -⟩ := S.2.2.2.2.2 x cl q
    exact ⟨c', q1, by rw [q2], by rw [q2], q3⟩
theorem own_fr {locs : List Loc} {a : Addr} {n0 : Nat} (hL : ∀ x ∈ locs, x.base = a) (g : n0 ≤ a) : Fr n0 locs := fun y hy => by rw [hL y hy]; exact g
theorem own_flags {l : Launch} (h : l.flags = flags0) : l.stackTraces = true := by
  unfold Launch.stackTraces
  rw [h]
  decide +kernel

/-- a ScriptError as 'new' leaves it, and Throwable's two statics -/
def own_R (Z : State) (h : Heap) (a : Addr) (u0 sn : Value) : Prop := Exa Z h a "com/example/lull/lull/runtime/ScriptError" ∧ Unt h a ∧ Fld Z h a "java/lang/Throwable" "cause" "Ljava/lang/Throwable;" .null ∧ Fld Z h a "java/lang/Throwable" "stackTrace" "[Ljava/lang/StackTraceElement;" .null ∧ Fld Z h a "java/lang/Throwable" "suppressedExceptions" "Ljava/util/List;" .null ∧ Fld Z h a "java/lang/Throwable" "backtrace" "Ljava/lang/Object;" .null ∧ Fld Z h a "java/lang/Throwable" "detailMessage" "Ljava/lang/String;" .null ∧ Fld Z h a "com/example/lull/lull/runtime/ScriptError" "line" "I" (.int (0 : Int32)) ∧ Sta Z h "java/lang/Throwable" "UNASSIGNED_STACK" "[Ljava/lang/StackTraceElement;" u0 ∧ Sta Z h "java/lang/Throwable" "SUPPRESSED_SENTINEL" "Ljava/util/List;" sn ∧ ThS Z h ∧ u0.isRef = true ∧ sn.isRef = true
theorem own_R_ext {Z : State} {h h' : Heap} {a : Addr} {u0 sn : Value} (E : Ext h h') (B : own_R Z h a u0 sn) : own_R Z h' a u0 sn := by
  obtain ⟨b1, b2, b3, b4, b5, b6, b7, b8, b9, b10, b11, b12, b13⟩ := B
  exact ⟨b1.ext E, b2.ext E, b3.ext E, b4.ext E, b5.ext E, b6.ext E, b7.ext E, b8.ext E, b9.ext E, b10.ext E, b11.ext E, b12, b13⟩
theorem own_bases {a : Addr} {s1 s2 s3 s4 : Nat} {L : List Loc} (hL : ∀ x ∈ L, x.base = a) : ∀ x ∈ (([] : List Loc) ++ [⟨a, s1⟩] ++ [⟨a, s2⟩] ++ [⟨a, s3⟩] ++ L ++ [⟨a, s4⟩]), x.base = a := by
  intro x hx
  simp only [List.nil_append, List.mem_append, List.mem_cons, List.not_mem_nil, or_false] at hx
  rcases hx with (((rfl | rfl) | rfl) | hx) | rfl
  · rfl
  · rfl
  · rfl
  · exact hL x hx
  · rfl
theorem own_strS {Z : State} {a0 : Array Value} (hw : ∀ d ∈ tables_1, d.before a0 Z = true) : ∀ a ∈ Bundle.stringAtoms, a.before a0 Z = true := by
  intro d hd
  simp only [Bundle.stringAtoms, List.mem_cons, List.not_mem_nil, or_false] at hd
  rcases hd with rfl | rfl | rfl | rfl | rfl | rfl | rfl
  · exact hw _ (List.mem_of_getElem? (i := 4) rfl)
  · exact hw _ (List.mem_of_getElem? (i := 5) rfl)
  · exact hw _ (List.mem_of_getElem? (i := 6) rfl)
  · exact hw _ (List.mem_of_getElem? (i := 7) rfl)
  · exact hw _ (List.mem_of_getElem? (i := 8) rfl)
  · exact hw _ (List.mem_of_getElem? (i := 9) rfl)
  · exact hw _ (List.mem_of_getElem? (i := 10) rfl)
theorem d4_0 : decode jdk_78_method_2_code 0 = .ok (.aload_n 0, 1) := by decide +kernel
theorem d4_1 : decode jdk_78_method_2_code 1 = .ok (.invokespecial 1, 3) := by decide +kernel
theorem d4_4 : decode jdk_78_method_2_code 4 = .ok (.aload_n 0, 1) := by decide +kernel
theorem d4_5 : decode jdk_78_method_2_code 5 = .ok (.aload_n 0, 1) := by decide +kernel
theorem d4_6 : decode jdk_78_method_2_code 6 = .ok (.putfield 7, 3) := by decide +kernel
theorem d4_9 : decode jdk_78_method_2_code 9 = .ok (.aload_n 0, 1) := by decide +kernel
theorem d4_10 : decode jdk_78_method_2_code 10 = .ok (.getstatic 13, 3) := by decide +kernel
theorem d4_13 : decode jdk_78_method_2_code 13 = .ok (.putfield 17, 3) := by decide +kernel
theorem d4_16 : decode jdk_78_method_2_code 16 = .ok (.aload_n 0, 1) := by decide +kernel
theorem d4_17 : decode jdk_78_method_2_code 17 = .ok (.getstatic 20, 3) := by decide +kernel
theorem d4_20 : decode jdk_78_method_2_code 20 = .ok (.putfield 24, 3) := by decide +kernel
theorem d4_23 : decode jdk_78_method_2_code 23 = .ok (.aload_n 0, 1) := by decide +kernel
theorem d4_24 : decode jdk_78_method_2_code 24 = .ok (.invokevirtual 27, 3) := by decide +kernel
theorem d4_27 : decode jdk_78_method_2_code 27 = .ok (.pop, 1) := by decide +kernel
theorem d4_28 : decode jdk_78_method_2_code 28 = .ok (.aload_n 0, 1) := by decide +kernel
theorem d4_29 : decode jdk_78_method_2_code 29 = .ok (.aload_n 1, 1) := by decide +kernel
theorem d4_30 : decode jdk_78_method_2_code 30 = .ok (.putfield 31, 3) := by decide +kernel
theorem d4_33 : decode jdk_78_method_2_code 33 = .ok (.return_, 1) := by decide +kernel
theorem own_pn4 : plainName "java/lang/Throwable" = true := by first | (simp [plainName, overriddenIn]; done) | decide +kernel
theorem own_ef4 (m : MethodId) (x0 : Addr) (x1 : Addr) : entryFrame m #[(.ref x0), (.ref x1)] 2 = mkF m 0 #[.val (.ref x0), .val (.ref x1)] [] := by first | (simp [entryFrame, mkF, argsToLocals, Value.category, maxLocals]; done) | rfl
theorem own_pd4 : parseMethodDescriptor "(Ljava/lang/String;)V" = some ⟨[(.object "java/lang/String")], none⟩ := by decide +kernel
def Q4 (Z : State) (a1 : Addr) (h0 : Heap) (n0 : Nat) (v : Option Value) (h : Heap) (L : List Loc) : Prop := v = none ∧ Fr n0 L ∧ Keep h0 h [a1] ∧ Fld Z h a1 "com/example/lull/lull/runtime/ScriptError" "line" "I" (.int (0 : Int32))
set_option maxRecDepth 65536 in
set_option maxHeartbeats 40000000 in
theorem rm4 (l : Launch) (Z : State) (a0 : Array Value) (hw : ∀ d ∈ tables_1, d.before a0 Z = true) (ws : List Jvm.Cond) (hl : l.stackTraces = true) (a1 a2 : Addr) (u0 sn : Value) (h0 : Heap) (n0 : Nat) (Z0 : n0 ≤ h0.size) (B : own_R Z h0 a1 u0 sn) (g1 : n0 ≤ a1) :
    MetFree l (⟨"java/lang/Throwable", "<init>", "(Ljava/lang/String;)V"⟩ : MethodName) (head1 (Jvm.Cond.code (⟨"java/lang/Throwable", "<init>", "(Ljava/lang/String;)V"⟩ : MethodName) jdk_78_method_2_code 2 (Option.none : Option Jvm.ClassFile.FieldType) :: ws) ({ frames := 3, cells := 1, slots := 2752, locals := 42 } : Room)) (fun a U => a = #[(.ref a1), (.ref a2)] ∧ Z.Warmed39 U.vm ∧ U.heap = h0) (fun _ _ bl s _ => s.vm.MethodsKnown ∧ s.vm.FramesKnown bl) (fun _ U o U' => ∃ v L, o = .returned v ∧ Q4 Z a1 h0 n0 v U'.heap L ∧ FrameEnd U o U' L ({ frames := 3, cells := 1, slots := 2752, locals := 42 } : Room).cells ({ frames := 3, cells := 1, slots := 2752, locals := 42 } : Room).slots) := by
  refine MetFree.of_bodySF (plainFor_of_name own_pn4) hisR ?_
  intro p e s m args below meth c s₁ Bd hml0 hP hK
  obtain ⟨rfl, hZ, hh⟩ := hP
  have hx := Bd.exec
  have hby := Bd.bytes
  have hml : c.maxLocals = 2 := hml0
  have hown : s.vm.findClass "java/lang/Throwable" = some m.cls := findClass_of_methodNamed Bd.named
  have hnm := (name_of_methodNamed Bd.named Bd.method).1
  have X0 : Stand p l e ({ frames := 3, cells := 1, slots := 2752, locals := 42 } : Room) s m #[(.ref a1), (.ref a2)] below meth c s₁ [] 0 0 := Stand.of_body Bd
  have e0 : s₁.heap = h0 := by rw [← hh, Bd.state]; rfl
  have N0 := Fr.nil n0
  refine own_open (f := (mkF m 0 #[.val (.ref a1), .val (.ref a2)] [])) (fun t k => castTop (own_ef4 m a1 a2) k) ?_
  obtain ⟨E0, U0, F0_cause, F0_stackTrace, F0_suppressedExceptions, F0_backtrace, F0_detailMessage, F0_line, S0_UNASSIGNED_STACK, S0_SUPPRESSED_SENTINEL, T0, hu, hn⟩ := B
  refine own_by (f' := (mkF m 1 #[.val (.ref a1), .val (.ref a2)] [(.ref a1)])) (fun t h => XS.aloadN X0.here hx rfl (hb hby d4_0) rfl rfl h) ?_
  obtain ⟨T1, X1, e1, st1⟩ := initO X0 hx hZ hown (hw _ (List.mem_of_getElem? (i := 31) rfl)) (hw _ (List.mem_of_getElem? (i := 32) rfl)) (hw _ (List.mem_of_getElem? (i := 33) rfl)) e0 (g := (mkF m 1 #[.val (.ref a1), .val (.ref a2)] [(.ref a1)])) rfl (by rw [hml]; rfl) rfl (hb hby d4_1) (by decide) (W := 0) (by show 2 * 0 + _ ≤ _; exact Nat.le_of_eq rfl) (by decide)
  refine own_by (f' := (mkF m 4 #[.val (.ref a1), .val (.ref a2)] [])) st1 ?_
  refine own_by (f' := (mkF m 5 #[.val (.ref a1), .val (.ref a2)] [(.ref a1)])) (fun t h => XS.aloadN X1.here hx rfl (hb hby d4_4) rfl rfl h) ?_
  refine own_by (f' := (mkF m 6 #[.val (.ref a1), .val (.ref a2)] [(.ref a1), (.ref a1)])) (fun t h => XS.aloadN X1.here hx rfl (hb hby d4_5) rfl rfl h) ?_
  obtain ⟨T2, h2, X2, e2, W2, st2⟩ := putF X1 hx hZ hown (host := "") (Or.inl (hw _ (List.mem_of_getElem? (i := 34) rfl))) Via.refl e1 F0_cause E0 (Or.inl (hw _ (List.mem_of_getElem? (i := 35) rfl))) (hw _ (List.mem_of_getElem? (i := 1) rfl)) (ty := (.object "java/lang/Throwable")) (by decide) rfl rfl (g := (mkF m 6 #[.val (.ref a1), .val (.ref a2)] [(.ref a1), (.ref a1)])) rfl rfl (hb hby d4_6)
  have E_2 := Exa.wr W2 E0
  have U_2 := Unt.wr W2 U0
  have S_UNASSIGNED_STACK_2 := Sta.wr W2 S0_UNASSIGNED_STACK
  have S_SUPPRESSED_SENTINEL_2 := Sta.wr W2 S0_SUPPRESSED_SENTINEL
  have F_cause_2 := Fld.same W2 F0_cause
  have F_stackTrace_2 := Fld.other W2 F0_stackTrace (Or.inr (slot_ne (Or.inl (hw _ (List.mem_of_getElem? (i := 38) rfl))) (Or.inl (hw _ (List.mem_of_getElem? (i := 35) rfl))) (by decide) (t := (.array (.object "java/lang/StackTraceElement"))) (by decide) (t' := (.object "java/lang/Throwable")) (by decide)))
  have F_suppressedExceptions_2 := Fld.other W2 F0_suppressedExceptions (Or.inr (slot_ne (Or.inl (hw _ (List.mem_of_getElem? (i := 41) rfl))) (Or.inl (hw _ (List.mem_of_getElem? (i := 35) rfl))) (by decide) (t := (.object "java/util/List")) (by decide) (t' := (.object "java/lang/Throwable")) (by decide)))
  have F_backtrace_2 := Fld.other W2 F0_backtrace (Or.inr (slot_ne (Or.inl (hw _ (List.mem_of_getElem? (i := 66) rfl))) (Or.inl (hw _ (List.mem_of_getElem? (i := 35) rfl))) (by decide) (t := (.object "java/lang/Object")) (by decide) (t' := (.object "java/lang/Throwable")) (by decide)))
  have F_detailMessage_2 := Fld.other W2 F0_detailMessage (Or.inr (slot_ne (Or.inl (hw _ (List.mem_of_getElem? (i := 65) rfl))) (Or.inl (hw _ (List.mem_of_getElem? (i := 35) rfl))) (by decide) (t := (.object "java/lang/String")) (by decide) (t' := (.object "java/lang/Throwable")) (by decide)))
  have F_line_2 := Fld.other W2 F0_line (Or.inr (slot_ne (Or.inl (hw _ (List.mem_of_getElem? (i := 76) rfl))) (Or.inl (hw _ (List.mem_of_getElem? (i := 35) rfl))) (by decide) (t := .int) (by decide) (t' := (.object "java/lang/Throwable")) (by decide)))
  refine own_by (f' := (mkF m 9 #[.val (.ref a1), .val (.ref a2)] [])) st2 ?_
  refine own_by (f' := (mkF m 10 #[.val (.ref a1), .val (.ref a2)] [(.ref a1)])) (fun t h => XS.aloadN X2.here hx rfl (hb hby d4_9) rfl rfl h) ?_
  obtain ⟨T3, X3, e3, st3⟩ := getS2 X2 hx hZ hown (host := "") (Or.inl (hw _ (List.mem_of_getElem? (i := 36) rfl))) Via.refl e2 S_UNASSIGNED_STACK_2 (g := (mkF m 10 #[.val (.ref a1), .val (.ref a2)] [(.ref a1)])) rfl (hb hby d4_10)
  refine own_by (f' := (mkF m 13 #[.val (.ref a1), .val (.ref a2)] [u0, (.ref a1)])) st3 ?_
  obtain ⟨T4, h4, X4, e4, W4, st4⟩ := putF X3 hx hZ hown (host := "") (Or.inl (hw _ (List.mem_of_getElem? (i := 37) rfl))) Via.refl e3 F_stackTrace_2 E_2 (Or.inl (hw _ (List.mem_of_getElem? (i := 38) rfl))) (hw _ (List.mem_of_getElem? (i := 1) rfl)) (ty := (.array (.object "java/lang/StackTraceElement"))) (by decide) (narrow_isRef _ hu) (fits_refV_array _ ⟨_, hu⟩) (g := (mkF m 13 #[.val (.ref a1), .val (.ref a2)] [u0, (.ref a1)])) rfl rfl (hb hby d4_13)
  have E_4 := Exa.wr W4 E_2
  have U_4 := Unt.wr W4 U_2
  have S_UNASSIGNED_STACK_4 := Sta.wr W4 S_UNASSIGNED_STACK_2
  have S_SUPPRESSED_SENTINEL_4 := Sta.wr W4 S_SUPPRESSED_SENTINEL_2
  have F_cause_4 := Fld.other W4 F_cause_2 (Or.inr (slot_ne (Or.inl (hw _ (List.mem_of_getElem? (i := 35) rfl))) (Or.inl (hw _ (List.mem_of_getElem? (i := 38) rfl))) (by decide) (t := (.object "java/lang/Throwable")) (by decide) (t' := (.array (.object "java/lang/StackTraceElement"))) (by decide)))
  have F_stackTrace_4 := Fld.same W4 F_stackTrace_2
  have F_suppressedExceptions_4 := Fld.other W4 F_suppressedExceptions_2 (Or.inr (slot_ne (Or.inl (hw _ (List.mem_of_getElem? (i := 41) rfl))) (Or.inl (hw _ (List.mem_of_getElem? (i := 38) rfl))) (by decide) (t := (.object "java/util/List")) (by decide) (t' := (.array (.object "java/lang/StackTraceElement"))) (by decide)))
  have F_backtrace_4 := Fld.other W4 F_backtrace_2 (Or.inr (slot_ne (Or.inl (hw _ (List.mem_of_getElem? (i := 66) rfl))) (Or.inl (hw _ (List.mem_of_getElem? (i := 38) rfl))) (by decide) (t := (.object "java/lang/Object")) (by decide) (t' := (.array (.object "java/lang/StackTraceElement"))) (by decide)))
  have F_detailMessage_4 := Fld.other W4 F_detailMessage_2 (Or.inr (slot_ne (Or.inl (hw _ (List.mem_of_getElem? (i := 65) rfl))) (Or.inl (hw _ (List.mem_of_getElem? (i := 38) rfl))) (by decide) (t := (.object "java/lang/String")) (by decide) (t' := (.array (.object "java/lang/StackTraceElement"))) (by decide)))
  have F_line_4 := Fld.other W4 F_line_2 (Or.inr (slot_ne (Or.inl (hw _ (List.mem_of_getElem? (i := 76) rfl))) (Or.inl (hw _ (List.mem_of_getElem? (i := 38) rfl))) (by decide) (t := .int) (by decide) (t' := (.array (.object "java/lang/StackTraceElement"))) (by decide)))
  refine own_by (f' := (mkF m 16 #[.val (.ref a1), .val (.ref a2)] [])) st4 ?_
  refine own_by (f' := (mkF m 17 #[.val (.ref a1), .val (.ref a2)] [(.ref a1)])) (fun t h => XS.aloadN X4.here hx rfl (hb hby d4_16) rfl rfl h) ?_
  obtain ⟨T5, X5, e5, st5⟩ := getS2 X4 hx hZ hown (host := "") (Or.inl (hw _ (List.mem_of_getElem? (i := 39) rfl))) Via.refl e4 S_SUPPRESSED_SENTINEL_4 (g := (mkF m 17 #[.val (.ref a1), .val (.ref a2)] [(.ref a1)])) rfl (hb hby d4_17)
  refine own_by (f' := (mkF m 20 #[.val (.ref a1), .val (.ref a2)] [sn, (.ref a1)])) st5 ?_
  obtain ⟨T6, h6, X6, e6, W6, st6⟩ := putF X5 hx hZ hown (host := "") (Or.inl (hw _ (List.mem_of_getElem? (i := 40) rfl))) Via.refl e5 F_suppressedExceptions_4 E_4 (Or.inl (hw _ (List.mem_of_getElem? (i := 41) rfl))) (hw _ (List.mem_of_getElem? (i := 1) rfl)) (ty := (.object "java/util/List")) (by decide) (narrow_isRef _ hn) (fits_refV_object _ ⟨_, hn⟩) (g := (mkF m 20 #[.val (.ref a1), .val (.ref a2)] [sn, (.ref a1)])) rfl rfl (hb hby d4_20)
  have E_6 := Exa.wr W6 E_4
  have U_6 := Unt.wr W6 U_4
  have S_UNASSIGNED_STACK_6 := Sta.wr W6 S_UNASSIGNED_STACK_4
  have S_SUPPRESSED_SENTINEL_6 := Sta.wr W6 S_SUPPRESSED_SENTINEL_4
  have F_cause_6 := Fld.other W6 F_cause_4 (Or.inr (slot_ne (Or.inl (hw _ (List.mem_of_getElem? (i := 35) rfl))) (Or.inl (hw _ (List.mem_of_getElem? (i := 41) rfl))) (by decide) (t := (.object "java/lang/Throwable")) (by decide) (t' := (.object "java/util/List")) (by decide)))
  have F_stackTrace_6 := Fld.other W6 F_stackTrace_4 (Or.inr (slot_ne (Or.inl (hw _ (List.mem_of_getElem? (i := 38) rfl))) (Or.inl (hw _ (List.mem_of_getElem? (i := 41) rfl))) (by decide) (t := (.array (.object "java/lang/StackTraceElement"))) (by decide) (t' := (.object "java/util/List")) (by decide)))
  have F_suppressedExceptions_6 := Fld.same W6 F_suppressedExceptions_4
  have F_backtrace_6 := Fld.other W6 F_backtrace_4 (Or.inr (slot_ne (Or.inl (hw _ (List.mem_of_getElem? (i := 66) rfl))) (Or.inl (hw _ (List.mem_of_getElem? (i := 41) rfl))) (by decide) (t := (.object "java/lang/Object")) (by decide) (t' := (.object "java/util/List")) (by decide)))
  have F_detailMessage_6 := Fld.other W6 F_detailMessage_4 (Or.inr (slot_ne (Or.inl (hw _ (List.mem_of_getElem? (i := 65) rfl))) (Or.inl (hw _ (List.mem_of_getElem? (i := 41) rfl))) (by decide) (t := (.object "java/lang/String")) (by decide) (t' := (.object "java/util/List")) (by decide)))
  have F_line_6 := Fld.other W6 F_line_4 (Or.inr (slot_ne (Or.inl (hw _ (List.mem_of_getElem? (i := 76) rfl))) (Or.inl (hw _ (List.mem_of_getElem? (i := 41) rfl))) (by decide) (t := .int) (by decide) (t' := (.object "java/util/List")) (by decide)))
  refine own_by (f' := (mkF m 23 #[.val (.ref a1), .val (.ref a2)] [])) st6 ?_
  refine own_by (f' := (mkF m 24 #[.val (.ref a1), .val (.ref a2)] [(.ref a1)])) (fun t h => XS.aloadN X6.here hx rfl (hb hby d4_23) rfl rfl h) ?_
  obtain ⟨T7, L7, hL7, X7, E_7, Fk7, st7⟩ := own_fill X6 hx hl hZ hw hown (by rw [hh]; exact T0) hK.1 hK.2 e6 hu E_6 U_6 F_stackTrace_6 F_backtrace_6 S_UNASSIGNED_STACK_6 (g := (mkF m 24 #[.val (.ref a1), .val (.ref a2)] [(.ref a1)])) rfl (by rw [hml]; rfl) rfl (by show 2 * 0 + 0 ≤ 0; decide) (hb hby d4_24) (by decide) (by decide) (by decide) (by decide)
  obtain ⟨h7, e7⟩ : ∃ z, T7.heap = z := ⟨_, rfl⟩
  rw [e7] at E_7
  have F_detailMessage_7 := Fk7 F_detailMessage_6 (slot_ne (Or.inl (hw _ (List.mem_of_getElem? (i := 65) rfl))) (Or.inl (hw _ (List.mem_of_getElem? (i := 66) rfl))) (by decide) (t := (.object "java/lang/String")) (by decide) (t' := (.object "java/lang/Object")) (by decide)) (slot_ne (Or.inl (hw _ (List.mem_of_getElem? (i := 65) rfl))) (Or.inl (hw _ (List.mem_of_getElem? (i := 67) rfl))) (by decide) (t := (.object "java/lang/String")) (by decide) (t' := .int) (by decide)) (slot_ne (Or.inl (hw _ (List.mem_of_getElem? (i := 65) rfl))) (Or.inl (hw _ (List.mem_of_getElem? (i := 38) rfl))) (by decide) (t := (.object "java/lang/String")) (by decide) (t' := (.array (.object "java/lang/StackTraceElement"))) (by decide))
  rw [e7] at F_detailMessage_7
  have F_line_7 := Fk7 F_line_6 (slot_ne (Or.inl (hw _ (List.mem_of_getElem? (i := 76) rfl))) (Or.inl (hw _ (List.mem_of_getElem? (i := 66) rfl))) (by decide) (t := .int) (by decide) (t' := (.object "java/lang/Object")) (by decide)) (slot_ne (Or.inl (hw _ (List.mem_of_getElem? (i := 76) rfl))) (Or.inl (hw _ (List.mem_of_getElem? (i := 67) rfl))) (by decide) (t := .int) (by decide) (t' := .int) (by decide)) (slot_ne (Or.inl (hw _ (List.mem_of_getElem? (i := 76) rfl))) (Or.inl (hw _ (List.mem_of_getElem? (i := 38) rfl))) (by decide) (t := .int) (by decide) (t' := (.array (.object "java/lang/StackTraceElement"))) (by decide))
  rw [e7] at F_line_7
  refine own_by (f' := (mkF m 27 #[.val (.ref a1), .val (.ref a2)] [(.ref a1)])) st7 ?_
  refine own_by (f' := (mkF m 28 #[.val (.ref a1), .val (.ref a2)] [])) (fun t h => XT.pop X7.here hx rfl (hb hby d4_27) rfl rfl h) ?_
  refine own_by (f' := (mkF m 29 #[.val (.ref a1), .val (.ref a2)] [(.ref a1)])) (fun t h => XS.aloadN X7.here hx rfl (hb hby d4_28) rfl rfl h) ?_
  refine own_by (f' := (mkF m 30 #[.val (.ref a1), .val (.ref a2)] [(.ref a2), (.ref a1)])) (fun t h => XS.aloadN X7.here hx rfl (hb hby d4_29) rfl rfl h) ?_
  obtain ⟨T8, h8, X8, e8, W8, st8⟩ := putF X7 hx hZ hown (host := "") (Or.inl (hw _ (List.mem_of_getElem? (i := 69) rfl))) Via.refl e7 F_detailMessage_7 E_7 (Or.inl (hw _ (List.mem_of_getElem? (i := 65) rfl))) (hw _ (List.mem_of_getElem? (i := 1) rfl)) (ty := (.object "java/lang/String")) (by decide) rfl rfl (g := (mkF m 30 #[.val (.ref a1), .val (.ref a2)] [(.ref a2), (.ref a1)])) rfl rfl (hb hby d4_30)
  have E_8 := Exa.wr W8 E_7
  have F_detailMessage_8 := Fld.same W8 F_detailMessage_7
  have F_line_8 := Fld.other W8 F_line_7 (Or.inr (slot_ne (Or.inl (hw _ (List.mem_of_getElem? (i := 76) rfl))) (Or.inl (hw _ (List.mem_of_getElem? (i := 65) rfl))) (by decide) (t := .int) (by decide) (t' := (.object "java/lang/String")) (by decide)))
  refine own_by (f' := (mkF m 33 #[.val (.ref a1), .val (.ref a2)] [])) st8 ?_
  have Kp := own_keep X8 (own_bases hL7)
  rw [hh, e8] at Kp
  obtain ⟨fs, hr, hrun, hended, hW, hsame⟩ := X8.leave (v := none) (fun _ => rfl)
  refine own_mk ⟨_, _, X8.returnOut hx Bd.returns (hb hby d4_33) hr, hrun, hended, _, _, rfl, ?_, ⟨_, rfl⟩, hW, hsame.mono (by decide) (by decide)⟩
  show Q4 Z a1 h0 n0 _ T8.heap _
  rw [e8]
  exact ⟨rfl, own_fr (own_bases hL7) g1, Kp, F_line_8⟩
theorem d3_0 : decode jdk_59_method_2_code 0 = .ok (.aload_n 0, 1) := by decide +kernel
theorem d3_1 : decode jdk_59_method_2_code 1 = .ok (.aload_n 1, 1) := by decide +kernel
theorem d3_2 : decode jdk_59_method_2_code 2 = .ok (.invokespecial 7, 3) := by decide +kernel
theorem d3_5 : decode jdk_59_method_2_code 5 = .ok (.return_, 1) := by decide +kernel
theorem own_pn3 : plainName "java/lang/Exception" = true := by first | (simp [plainName, overriddenIn]; done) | decide +kernel
theorem own_ef3 (m : MethodId) (x0 : Addr) (x1 : Addr) : entryFrame m #[(.ref x0), (.ref x1)] 2 = mkF m 0 #[.val (.ref x0), .val (.ref x1)] [] := by first | (simp [entryFrame, mkF, argsToLocals, Value.category, maxLocals]; done) | rfl
theorem own_pd3 : parseMethodDescriptor "(Ljava/lang/String;)V" = some ⟨[(.object "java/lang/String")], none⟩ := by decide +kernel
def Q3 (Z : State) (a1 : Addr) (h0 : Heap) (n0 : Nat) (v : Option Value) (h : Heap) (L : List Loc) : Prop := v = none ∧ Fr n0 L ∧ Keep h0 h [a1] ∧ Fld Z h a1 "com/example/lull/lull/runtime/ScriptError" "line" "I" (.int (0 : Int32))
set_option maxRecDepth 65536 in
set_option maxHeartbeats 40000000 in
theorem rm3 (l : Launch) (Z : State) (a0 : Array Value) (hw : ∀ d ∈ tables_1, d.before a0 Z = true) (ws : List Jvm.Cond) (hl : l.stackTraces = true) (a1 a2 : Addr) (u0 sn : Value) (h0 : Heap) (n0 : Nat) (Z0 : n0 ≤ h0.size) (B : own_R Z h0 a1 u0 sn) (g1 : n0 ≤ a1) :
    MetFree l (⟨"java/lang/Exception", "<init>", "(Ljava/lang/String;)V"⟩ : MethodName) (head1 (Jvm.Cond.code (⟨"java/lang/Exception", "<init>", "(Ljava/lang/String;)V"⟩ : MethodName) jdk_59_method_2_code 2 (Option.none : Option Jvm.ClassFile.FieldType) :: ws) ({ frames := 4, cells := 1, slots := 2752, locals := 55 } : Room)) (fun a U => a = #[(.ref a1), (.ref a2)] ∧ Z.Warmed39 U.vm ∧ U.heap = h0) (fun _ _ bl s _ => s.vm.MethodsKnown ∧ s.vm.FramesKnown bl) (fun _ U o U' => ∃ v L, o = .returned v ∧ Q3 Z a1 h0 n0 v U'.heap L ∧ FrameEnd U o U' L ({ frames := 4, cells := 1, slots := 2752, locals := 55 } : Room).cells ({ frames := 4, cells := 1, slots := 2752, locals := 55 } : Room).slots) := by
  refine MetFree.of_bodySF (plainFor_of_name own_pn3) hisR ?_
  intro p e s m args below meth c s₁ Bd hml0 hP hK
  obtain ⟨rfl, hZ, hh⟩ := hP
  have hx := Bd.exec
  have hby := Bd.bytes
  have hml : c.maxLocals = 2 := hml0
  have hown : s.vm.findClass "java/lang/Exception" = some m.cls := findClass_of_methodNamed Bd.named
  have hnm := (name_of_methodNamed Bd.named Bd.method).1
  have X0 : Stand p l e ({ frames := 4, cells := 1, slots := 2752, locals := 55 } : Room) s m #[(.ref a1), (.ref a2)] below meth c s₁ [] 0 0 := Stand.of_body Bd
  have e0 : s₁.heap = h0 := by rw [← hh, Bd.state]; rfl
  have N0 := Fr.nil n0
  refine own_open (f := (mkF m 0 #[.val (.ref a1), .val (.ref a2)] [])) (fun t k => castTop (own_ef3 m a1 a2) k) ?_
  refine own_by (f' := (mkF m 1 #[.val (.ref a1), .val (.ref a2)] [(.ref a1)])) (fun t h => XS.aloadN X0.here hx rfl (hb hby d3_0) rfl rfl h) ?_
  refine own_by (f' := (mkF m 2 #[.val (.ref a1), .val (.ref a2)] [(.ref a2), (.ref a1)])) (fun t h => XS.aloadN X0.here hx rfl (hb hby d3_1) rfl rfl h) ?_
  obtain ⟨v1, _, ⟨T1, L1, k1, n1⟩, -, X1, ⟨Lc1, hQ1, l1, y1, z1⟩, st1⟩ := X0.specialBack hx (y := (⟨"java/lang/Throwable", "<init>", "(Ljava/lang/String;)V"⟩ : MethodName)) rfl hown (mvT hZ (hw _ (List.mem_of_getElem? (i := 25) rfl))) (mvT hZ (hw _ (List.mem_of_getElem? (i := 26) rfl))) (mvT hZ (hw _ (List.mem_of_getElem? (i := 30) rfl))) (by decide) (backOfKL (W := 0) (rm4 l Z a0 hw [] hl a1 a2 u0 sn h0 n0 Z0 B g1) hZ (hw _ (List.mem_of_getElem? (i := 30) rfl)) (hw _ (List.mem_of_getElem? (i := 29) rfl)) (by decide) (by decide) hK.1 hK.2) (g := (mkF m 2 #[.val (.ref a1), .val (.ref a2)] [(.ref a2), (.ref a1)])) rfl (by rw [hml]; rfl) (Steps.refl _) (a := a1) (argsL := [(.ref a2)]) (rest := []) (lenOf own_pd4 rfl) rfl (by show 2 * 0 + _ ≤ _; exact Nat.le_of_eq rfl) (hb hby d3_2) (fun _ _ => ⟨rfl, e0, (by decide : 0 + 1 ≤ _), (by decide : 0 + 2752 ≤ _)⟩)
  dsimp only [Pt.U, Pt.locs, Pt.cells, Pt.slots] at X1 l1 y1 z1 st1 hQ1
  subst l1 y1 z1
  obtain ⟨rfl, Nc1, Kc1, Fc1⟩ := hQ1
  have N1 := Fr.app N0 Nc1
  obtain ⟨h1, e1⟩ : ∃ z, T1.heap = z := ⟨_, rfl⟩
  rw [e1] at Kc1 Fc1
  refine own_by (f' := (mkF m 5 #[.val (.ref a1), .val (.ref a2)] [])) (fun t h => st1.trans h) ?_
  obtain ⟨fs, hr, hrun, hended, hW, hsame⟩ := X1.leave (v := none) (fun _ => rfl)
  refine own_mk ⟨_, _, X1.returnOut hx Bd.returns (hb hby d3_5) hr, hrun, hended, _, _, rfl, ?_, ⟨_, rfl⟩, hW, hsame.mono (by decide) (by decide)⟩
  show Q3 Z a1 h0 n0 _ T1.heap _
  rw [e1]
  exact ⟨rfl, N1, Kc1, Fc1⟩
theorem d2_0 : decode jdk_58_method_2_code 0 = .ok (.aload_n 0, 1) := by decide +kernel
theorem d2_1 : decode jdk_58_method_2_code 1 = .ok (.aload_n 1, 1) := by decide +kernel
theorem d2_2 : decode jdk_58_method_2_code 2 = .ok (.invokespecial 7, 3) := by decide +kernel
theorem d2_5 : decode jdk_58_method_2_code 5 = .ok (.return_, 1) := by decide +kernel
theorem own_pn2 : plainName "java/lang/RuntimeException" = true := by first | (simp [plainName, overriddenIn]; done) | decide +kernel
theorem own_ef2 (m : MethodId) (x0 : Addr) (x1 : Addr) : entryFrame m #[(.ref x0), (.ref x1)] 2 = mkF m 0 #[.val (.ref x0), .val (.ref x1)] [] := by first | (simp [entryFrame, mkF, argsToLocals, Value.category, maxLocals]; done) | rfl
theorem own_pd2 : parseMethodDescriptor "(Ljava/lang/String;)V" = some ⟨[(.object "java/lang/String")], none⟩ := by decide +kernel
def Q2 (Z : State) (a1 : Addr) (h0 : Heap) (n0 : Nat) (v : Option Value) (h : Heap) (L : List Loc) : Prop := v = none ∧ Fr n0 L ∧ Keep h0 h [a1] ∧ Fld Z h a1 "com/example/lull/lull/runtime/ScriptError" "line" "I" (.int (0 : Int32))
set_option maxRecDepth 65536 in
set_option maxHeartbeats 40000000 in
theorem rm2 (l : Launch) (Z : State) (a0 : Array Value) (hw : ∀ d ∈ tables_1, d.before a0 Z = true) (ws : List Jvm.Cond) (hl : l.stackTraces = true) (a1 a2 : Addr) (u0 sn : Value) (h0 : Heap) (n0 : Nat) (Z0 : n0 ≤ h0.size) (B : own_R Z h0 a1 u0 sn) (g1 : n0 ≤ a1) :
    MetFree l (⟨"java/lang/RuntimeException", "<init>", "(Ljava/lang/String;)V"⟩ : MethodName) (head1 (Jvm.Cond.code (⟨"java/lang/RuntimeException", "<init>", "(Ljava/lang/String;)V"⟩ : MethodName) jdk_58_method_2_code 2 (Option.none : Option Jvm.ClassFile.FieldType) :: ws) ({ frames := 5, cells := 1, slots := 2752, locals := 68 } : Room)) (fun a U => a = #[(.ref a1), (.ref a2)] ∧ Z.Warmed39 U.vm ∧ U.heap = h0) (fun _ _ bl s _ => s.vm.MethodsKnown ∧ s.vm.FramesKnown bl) (fun _ U o U' => ∃ v L, o = .returned v ∧ Q2 Z a1 h0 n0 v U'.heap L ∧ FrameEnd U o U' L ({ frames := 5, cells := 1, slots := 2752, locals := 68 } : Room).cells ({ frames := 5, cells := 1, slots := 2752, locals := 68 } : Room).slots) := by
  refine MetFree.of_bodySF (plainFor_of_name own_pn2) hisR ?_
  intro p e s m args below meth c s₁ Bd hml0 hP hK
  obtain ⟨rfl, hZ, hh⟩ := hP
  have hx := Bd.exec
  have hby := Bd.bytes
  have hml : c.maxLocals = 2 := hml0
  have hown : s.vm.findClass "java/lang/RuntimeException" = some m.cls := findClass_of_methodNamed Bd.named
  have hnm := (name_of_methodNamed Bd.named Bd.method).1
  have X0 : Stand p l e ({ frames := 5, cells := 1, slots := 2752, locals := 68 } : Room) s m #[(.ref a1), (.ref a2)] below meth c s₁ [] 0 0 := Stand.of_body Bd
  have e0 : s₁.heap = h0 := by rw [← hh, Bd.state]; rfl
  have N0 := Fr.nil n0
  refine own_open (f := (mkF m 0 #[.val (.ref a1), .val (.ref a2)] [])) (fun t k => castTop (own_ef2 m a1 a2) k) ?_
  refine own_by (f' := (mkF m 1 #[.val (.ref a1), .val (.ref a2)] [(.ref a1)])) (fun t h => XS.aloadN X0.here hx rfl (hb hby d2_0) rfl rfl h) ?_
  refine own_by (f' := (mkF m 2 #[.val (.ref a1), .val (.ref a2)] [(.ref a2), (.ref a1)])) (fun t h => XS.aloadN X0.here hx rfl (hb hby d2_1) rfl rfl h) ?_
  obtain ⟨v1, _, ⟨T1, L1, k1, n1⟩, -, X1, ⟨Lc1, hQ1, l1, y1, z1⟩, st1⟩ := X0.specialBack hx (y := (⟨"java/lang/Exception", "<init>", "(Ljava/lang/String;)V"⟩ : MethodName)) rfl hown (mvT hZ (hw _ (List.mem_of_getElem? (i := 19) rfl))) (mvT hZ (hw _ (List.mem_of_getElem? (i := 20) rfl))) (mvT hZ (hw _ (List.mem_of_getElem? (i := 24) rfl))) (by decide) (backOfKL (W := 0) (rm3 l Z a0 hw [] hl a1 a2 u0 sn h0 n0 Z0 B g1) hZ (hw _ (List.mem_of_getElem? (i := 24) rfl)) (hw _ (List.mem_of_getElem? (i := 23) rfl)) (by decide) (by decide) hK.1 hK.2) (g := (mkF m 2 #[.val (.ref a1), .val (.ref a2)] [(.ref a2), (.ref a1)])) rfl (by rw [hml]; rfl) (Steps.refl _) (a := a1) (argsL := [(.ref a2)]) (rest := []) (lenOf own_pd3 rfl) rfl (by show 2 * 0 + _ ≤ _; exact Nat.le_of_eq rfl) (hb hby d2_2) (fun _ _ => ⟨rfl, e0, (by decide : 0 + 1 ≤ _), (by decide : 0 + 2752 ≤ _)⟩)
  dsimp only [Pt.U, Pt.locs, Pt.cells, Pt.slots] at X1 l1 y1 z1 st1 hQ1
  subst l1 y1 z1
  obtain ⟨rfl, Nc1, Kc1, Fc1⟩ := hQ1
  have N1 := Fr.app N0 Nc1
  obtain ⟨h1, e1⟩ : ∃ z, T1.heap = z := ⟨_, rfl⟩
  rw [e1] at Kc1 Fc1
  refine own_by (f' := (mkF m 5 #[.val (.ref a1), .val (.ref a2)] [])) (fun t h => st1.trans h) ?_
  obtain ⟨fs, hr, hrun, hended, hW, hsame⟩ := X1.leave (v := none) (fun _ => rfl)
  refine own_mk ⟨_, _, X1.returnOut hx Bd.returns (hb hby d2_5) hr, hrun, hended, _, _, rfl, ?_, ⟨_, rfl⟩, hW, hsame.mono (by decide) (by decide)⟩
  show Q2 Z a1 h0 n0 _ T1.heap _
  rw [e1]
  exact ⟨rfl, N1, Kc1, Fc1⟩
theorem d1_0 : decode prog_97_method_1_code 0 = .ok (.aload_n 0, 1) := by decide +kernel
theorem d1_1 : decode prog_97_method_1_code 1 = .ok (.aload_n 1, 1) := by decide +kernel
theorem d1_2 : decode prog_97_method_1_code 2 = .ok (.invokespecial 1, 3) := by decide +kernel
theorem d1_5 : decode prog_97_method_1_code 5 = .ok (.return_, 1) := by decide +kernel
theorem own_pn1 : plainName "com/example/lull/lull/runtime/ScriptError" = true := by first | (simp [plainName, overriddenIn]; done) | decide +kernel
theorem own_ef1 (m : MethodId) (x0 : Addr) (x1 : Addr) : entryFrame m #[(.ref x0), (.ref x1)] 2 = mkF m 0 #[.val (.ref x0), .val (.ref x1)] [] := by first | (simp [entryFrame, mkF, argsToLocals, Value.category, maxLocals]; done) | rfl
theorem own_pd1 : parseMethodDescriptor "(Ljava/lang/String;)V" = some ⟨[(.object "java/lang/String")], none⟩ := by decide +kernel
def Q1 (Z : State) (a1 : Addr) (h0 : Heap) (n0 : Nat) (v : Option Value) (h : Heap) (L : List Loc) : Prop := v = none ∧ Fr n0 L ∧ Keep h0 h [a1] ∧ Fld Z h a1 "com/example/lull/lull/runtime/ScriptError" "line" "I" (.int (0 : Int32))
set_option maxRecDepth 65536 in
set_option maxHeartbeats 40000000 in
theorem rm1 (l : Launch) (Z : State) (a0 : Array Value) (hw : ∀ d ∈ tables_1, d.before a0 Z = true) (ws : List Jvm.Cond) (hl : l.stackTraces = true) (a1 a2 : Addr) (u0 sn : Value) (h0 : Heap) (n0 : Nat) (Z0 : n0 ≤ h0.size) (B : own_R Z h0 a1 u0 sn) (g1 : n0 ≤ a1) :
    MetFree l (⟨"com/example/lull/lull/runtime/ScriptError", "<init>", "(Ljava/lang/String;)V"⟩ : MethodName) (head1 (Jvm.Cond.code (⟨"com/example/lull/lull/runtime/ScriptError", "<init>", "(Ljava/lang/String;)V"⟩ : MethodName) prog_97_method_1_code 2 (Option.none : Option Jvm.ClassFile.FieldType) :: ws) ({ frames := 6, cells := 1, slots := 2752, locals := 81 } : Room)) (fun a U => a = #[(.ref a1), (.ref a2)] ∧ Z.Warmed39 U.vm ∧ U.heap = h0) (fun _ _ bl s _ => s.vm.MethodsKnown ∧ s.vm.FramesKnown bl) (fun _ U o U' => ∃ v L, o = .returned v ∧ Q1 Z a1 h0 n0 v U'.heap L ∧ FrameEnd U o U' L ({ frames := 6, cells := 1, slots := 2752, locals := 81 } : Room).cells ({ frames := 6, cells := 1, slots := 2752, locals := 81 } : Room).slots) := by
  refine MetFree.of_bodySF (plainFor_of_name own_pn1) hisR ?_
  intro p e s m args below meth c s₁ Bd hml0 hP hK
  obtain ⟨rfl, hZ, hh⟩ := hP
  have hx := Bd.exec
  have hby := Bd.bytes
  have hml : c.maxLocals = 2 := hml0
  have hown : s.vm.findClass "com/example/lull/lull/runtime/ScriptError" = some m.cls := findClass_of_methodNamed Bd.named
  have hnm := (name_of_methodNamed Bd.named Bd.method).1
  have X0 : Stand p l e ({ frames := 6, cells := 1, slots := 2752, locals := 81 } : Room) s m #[(.ref a1), (.ref a2)] below meth c s₁ [] 0 0 := Stand.of_body Bd
  have e0 : s₁.heap = h0 := by rw [← hh, Bd.state]; rfl
  have N0 := Fr.nil n0
  refine own_open (f := (mkF m 0 #[.val (.ref a1), .val (.ref a2)] [])) (fun t k => castTop (own_ef1 m a1 a2) k) ?_
  refine own_by (f' := (mkF m 1 #[.val (.ref a1), .val (.ref a2)] [(.ref a1)])) (fun t h => XS.aloadN X0.here hx rfl (hb hby d1_0) rfl rfl h) ?_
  refine own_by (f' := (mkF m 2 #[.val (.ref a1), .val (.ref a2)] [(.ref a2), (.ref a1)])) (fun t h => XS.aloadN X0.here hx rfl (hb hby d1_1) rfl rfl h) ?_
  obtain ⟨v1, _, ⟨T1, L1, k1, n1⟩, -, X1, ⟨Lc1, hQ1, l1, y1, z1⟩, st1⟩ := X0.specialBack hx (y := (⟨"java/lang/RuntimeException", "<init>", "(Ljava/lang/String;)V"⟩ : MethodName)) rfl hown (mvT hZ (hw _ (List.mem_of_getElem? (i := 14) rfl))) (mvT hZ (hw _ (List.mem_of_getElem? (i := 15) rfl))) (mvT hZ (hw _ (List.mem_of_getElem? (i := 18) rfl))) (by decide) (backOfKL (W := 0) (rm2 l Z a0 hw [] hl a1 a2 u0 sn h0 n0 Z0 B g1) hZ (hw _ (List.mem_of_getElem? (i := 18) rfl)) (hw _ (List.mem_of_getElem? (i := 17) rfl)) (by decide) (by decide) hK.1 hK.2) (g := (mkF m 2 #[.val (.ref a1), .val (.ref a2)] [(.ref a2), (.ref a1)])) rfl (by rw [hml]; rfl) (Steps.refl _) (a := a1) (argsL := [(.ref a2)]) (rest := []) (lenOf own_pd2 rfl) rfl (by show 2 * 0 + _ ≤ _; exact Nat.le_of_eq rfl) (hb hby d1_2) (fun _ _ => ⟨rfl, e0, (by decide : 0 + 1 ≤ _), (by decide : 0 + 2752 ≤ _)⟩)
  dsimp only [Pt.U, Pt.locs, Pt.cells, Pt.slots] at X1 l1 y1 z1 st1 hQ1
  subst l1 y1 z1
  obtain ⟨rfl, Nc1, Kc1, Fc1⟩ := hQ1
  have N1 := Fr.app N0 Nc1
  obtain ⟨h1, e1⟩ : ∃ z, T1.heap = z := ⟨_, rfl⟩
  rw [e1] at Kc1 Fc1
  refine own_by (f' := (mkF m 5 #[.val (.ref a1), .val (.ref a2)] [])) (fun t h => st1.trans h) ?_
  obtain ⟨fs, hr, hrun, hended, hW, hsame⟩ := X1.leave (v := none) (fun _ => rfl)
  refine own_mk ⟨_, _, X1.returnOut hx Bd.returns (hb hby d1_5) hr, hrun, hended, _, _, rfl, ?_, ⟨_, rfl⟩, hW, hsame.mono (by decide) (by decide)⟩
  show Q1 Z a1 h0 n0 _ T1.heap _
  rw [e1]
  exact ⟨rfl, N1, Kc1, Fc1⟩
theorem d5_0 : decode prog_97_method_4_code 0 = .ok (.aload_n 0, 1) := by decide +kernel
theorem d5_1 : decode prog_97_method_4_code 1 = .ok (.getfield 17, 3) := by decide +kernel
theorem d5_4 : decode prog_97_method_4_code 4 = .ok (.ireturn, 1) := by decide +kernel
theorem own_pn5 : plainName "com/example/lull/lull/runtime/ScriptError" = true := by first | (simp [plainName, overriddenIn]; done) | decide +kernel
theorem own_ef5 (m : MethodId) (x0 : Addr) : entryFrame m #[(.ref x0)] 1 = mkF m 0 #[.val (.ref x0)] [] := by first | (simp [entryFrame, mkF, argsToLocals, Value.category, maxLocals]; done) | rfl
theorem own_pd5 : parseMethodDescriptor "()I" = some ⟨[], some .int⟩ := by decide +kernel
def Q5 (r1 : Int32) (h0 : Heap) (n0 : Nat) (v : Option Value) (h : Heap) (L : List Loc) : Prop := v = some (.int r1) ∧ Fr n0 L ∧ h = h0
set_option maxRecDepth 65536 in
set_option maxHeartbeats 40000000 in
theorem rm5 (l : Launch) (Z : State) (a0 : Array Value) (hw : ∀ d ∈ tables_1, d.before a0 Z = true) (ws : List Jvm.Cond) (a1 : Addr) (r1 : Int32) (h0 : Heap) (n0 : Nat) (Z0 : n0 ≤ h0.size) (F1 : Fld Z h0 a1 "com/example/lull/lull/runtime/ScriptError" "line" "I" (.int r1)) :
    MetFree l (⟨"com/example/lull/lull/runtime/ScriptError", "line", "()I"⟩ : MethodName) (head1 (Jvm.Cond.code (⟨"com/example/lull/lull/runtime/ScriptError", "line", "()I"⟩ : MethodName) prog_97_method_4_code 1 (Option.some Jvm.ClassFile.FieldType.int) :: ws) ({ frames := 0, cells := 0, slots := 0, locals := 0 } : Room)) (fun a U => a = #[(.ref a1)] ∧ Z.Warmed39 U.vm ∧ U.heap = h0) (fun _ _ _ _ _ => True) (fun _ U o U' => ∃ v L, o = .returned v ∧ Q5 r1 h0 n0 v U'.heap L ∧ FrameEnd U o U' L ({ frames := 0, cells := 0, slots := 0, locals := 0 } : Room).cells ({ frames := 0, cells := 0, slots := 0, locals := 0 } : Room).slots) := by
  refine MetFree.of_bodySF (plainFor_of_name own_pn5) hisR ?_
  intro p e s m args below meth c s₁ Bd hml0 hP hK
  obtain ⟨rfl, hZ, hh⟩ := hP
  have hx := Bd.exec
  have hby := Bd.bytes
  have hml : c.maxLocals = 1 := hml0
  have hown : s.vm.findClass "com/example/lull/lull/runtime/ScriptError" = some m.cls := findClass_of_methodNamed Bd.named
  have hnm := (name_of_methodNamed Bd.named Bd.method).1
  have X0 : Stand p l e ({ frames := 0, cells := 0, slots := 0, locals := 0 } : Room) s m #[(.ref a1)] below meth c s₁ [] 0 0 := Stand.of_body Bd
  have e0 : s₁.heap = h0 := by rw [← hh, Bd.state]; rfl
  have N0 := Fr.nil n0
  refine own_open (f := (mkF m 0 #[.val (.ref a1)] [])) (fun t k => castTop (own_ef5 m a1) k) ?_
  refine own_by (f' := (mkF m 1 #[.val (.ref a1)] [(.ref a1)])) (fun t h => XS.aloadN X0.here hx rfl (hb hby d5_0) rfl rfl h) ?_
  obtain ⟨T1, X1, e1, st1⟩ := getF X0 hx hZ hown (host := "") (Or.inl (hw _ (List.mem_of_getElem? (i := 75) rfl))) Via.refl e0 F1 (g := (mkF m 1 #[.val (.ref a1)] [(.ref a1)])) rfl rfl (hb hby d5_1)
  refine own_by (f' := (mkF m 4 #[.val (.ref a1)] [(.int r1)])) st1 ?_
  obtain ⟨fs, hr, hrun, hended, hW, hsame⟩ := X1.leave (v := some (.int r1)) (fun h => by rw [Bd.returns] at h; cases h)
  refine own_mk ⟨_, _, retI X1 hx Bd.returns (hb hby d5_4) hr, hrun, hended, _, _, rfl, ?_, ⟨_, rfl⟩, hW, hsame.mono (by decide) (by decide)⟩
  show Q5 r1 h0 n0 _ T1.heap _
  rw [e1]
  exact ⟨rfl, N0, rfl⟩
theorem d6_0 : decode prog_97_method_5_code 0 = .ok (.aload_n 0, 1) := by decide +kernel
theorem d6_1 : decode prog_97_method_5_code 1 = .ok (.getfield 17, 3) := by decide +kernel
theorem d6_4 : decode prog_97_method_5_code 4 = .ok (.ifCond .ne 8, 3) := by decide +kernel
theorem d6_7 : decode prog_97_method_5_code 7 = .ok (.aload_n 0, 1) := by decide +kernel
theorem d6_8 : decode prog_97_method_5_code 8 = .ok (.iload_n 1, 1) := by decide +kernel
theorem d6_9 : decode prog_97_method_5_code 9 = .ok (.putfield 17, 3) := by decide +kernel
theorem d6_12 : decode prog_97_method_5_code 12 = .ok (.aload_n 0, 1) := by decide +kernel
theorem d6_13 : decode prog_97_method_5_code 13 = .ok (.areturn, 1) := by decide +kernel
theorem own_pn6 : plainName "com/example/lull/lull/runtime/ScriptError" = true := by first | (simp [plainName, overriddenIn]; done) | decide +kernel
theorem own_ef6 (m : MethodId) (x0 : Addr) (x1 : Int32) : entryFrame m #[(.ref x0), (.int x1)] 2 = mkF m 0 #[.val (.ref x0), .val (.int x1)] [] := by first | (simp [entryFrame, mkF, argsToLocals, Value.category, maxLocals]; done) | rfl
theorem own_pd6 : parseMethodDescriptor "(I)Lcom/example/lull/lull/runtime/ScriptError;" = some ⟨[.int], some (.object "com/example/lull/lull/runtime/ScriptError")⟩ := by decide +kernel
def Q6 (Z : State) (a1 : Addr) (p2 r1 : Int32) (h0 : Heap) (n0 : Nat) (v : Option Value) (h : Heap) (L : List Loc) : Prop := v = some (.ref a1) ∧ Fr n0 L ∧ Keep h0 h [a1] ∧ Fld Z h a1 "com/example/lull/lull/runtime/ScriptError" "line" "I" (.int (if r1 = 0 then p2 else r1))
set_option maxRecDepth 65536 in
set_option maxHeartbeats 40000000 in
theorem rm6 (l : Launch) (Z : State) (a0 : Array Value) (hw : ∀ d ∈ tables_1, d.before a0 Z = true) (ws : List Jvm.Cond) (a1 : Addr) (p2 r1 : Int32) (h0 : Heap) (n0 : Nat) (Z0 : n0 ≤ h0.size) (F1 : Fld Z h0 a1 "com/example/lull/lull/runtime/ScriptError" "line" "I" (.int r1)) (E1 : Exa Z h0 a1 "com/example/lull/lull/runtime/ScriptError") (g1 : n0 ≤ a1) :
    MetFree l (⟨"com/example/lull/lull/runtime/ScriptError", "atLine", "(I)Lcom/example/lull/lull/runtime/ScriptError;"⟩ : MethodName) (head1 (Jvm.Cond.code (⟨"com/example/lull/lull/runtime/ScriptError", "atLine", "(I)Lcom/example/lull/lull/runtime/ScriptError;"⟩ : MethodName) prog_97_method_5_code 2 (Option.some (Jvm.ClassFile.FieldType.object "com/example/lull/lull/runtime/ScriptError")) :: ws) ({ frames := 0, cells := 0, slots := 0, locals := 0 } : Room)) (fun a U => a = #[(.ref a1), (.int p2)] ∧ Z.Warmed39 U.vm ∧ U.heap = h0) (fun _ _ _ _ _ => True) (fun _ U o U' => ∃ v L, o = .returned v ∧ Q6 Z a1 p2 r1 h0 n0 v U'.heap L ∧ FrameEnd U o U' L ({ frames := 0, cells := 0, slots := 0, locals := 0 } : Room).cells ({ frames := 0, cells := 0, slots := 0, locals := 0 } : Room).slots) := by
  refine MetFree.of_bodySF (plainFor_of_name own_pn6) hisR ?_
  intro p e s m args below meth c s₁ Bd hml0 hP hK
  obtain ⟨rfl, hZ, hh⟩ := hP
  have hx := Bd.exec
  have hby := Bd.bytes
  have hml : c.maxLocals = 2 := hml0
  have hown : s.vm.findClass "com/example/lull/lull/runtime/ScriptError" = some m.cls := findClass_of_methodNamed Bd.named
  have hnm := (name_of_methodNamed Bd.named Bd.method).1
  have X0 : Stand p l e ({ frames := 0, cells := 0, slots := 0, locals := 0 } : Room) s m #[(.ref a1), (.int p2)] below meth c s₁ [] 0 0 := Stand.of_body Bd
  have e0 : s₁.heap = h0 := by rw [← hh, Bd.state]; rfl
  have N0 := Fr.nil n0
  refine own_open (f := (mkF m 0 #[.val (.ref a1), .val (.int p2)] [])) (fun t k => castTop (own_ef6 m a1 p2) k) ?_
  refine own_by (f' := (mkF m 1 #[.val (.ref a1), .val (.int p2)] [(.ref a1)])) (fun t h => XS.aloadN X0.here hx rfl (hb hby d6_0) rfl rfl h) ?_
  obtain ⟨T1, X1, e1, st1⟩ := getF X0 hx hZ hown (host := "") (Or.inl (hw _ (List.mem_of_getElem? (i := 75) rfl))) Via.refl e0 F1 (g := (mkF m 1 #[.val (.ref a1), .val (.int p2)] [(.ref a1)])) rfl rfl (hb hby d6_1)
  refine own_by (f' := (mkF m 4 #[.val (.ref a1), .val (.int p2)] [(.int r1)])) st1 ?_
  by_cases hc4_2 : r1 = (0 : Int32)
  · refine own_by (f' := (mkF m 7 #[.val (.ref a1), .val (.int p2)] [])) (fun t h => XS.ifNo X1.here hx rfl (hb hby d6_4) rfl ((if0 _ _).trans (teq hc4_2).2) h) ?_
    refine own_by (f' := (mkF m 8 #[.val (.ref a1), .val (.int p2)] [(.ref a1)])) (fun t h => XS.aloadN X1.here hx rfl (hb hby d6_7) rfl rfl h) ?_
    refine own_by (f' := (mkF m 9 #[.val (.ref a1), .val (.int p2)] [(.int p2), (.ref a1)])) (fun t h => XS.iloadN X1.here hx rfl (hb hby d6_8) rfl h) ?_
    obtain ⟨T3, h3, X3, e3, W3, st3⟩ := putF X1 hx hZ hown (host := "") (Or.inl (hw _ (List.mem_of_getElem? (i := 75) rfl))) Via.refl e1 F1 E1 (Or.inl (hw _ (List.mem_of_getElem? (i := 76) rfl))) (hw _ (List.mem_of_getElem? (i := 1) rfl)) (ty := .int) (by decide) rfl rfl (g := (mkF m 9 #[.val (.ref a1), .val (.int p2)] [(.int p2), (.ref a1)])) rfl rfl (hb hby d6_9)
    have Fw := Fld.same W3 F1
    have N3 := Fr.snoc X3 N0 g1
    refine own_by (f' := (mkF m 12 #[.val (.ref a1), .val (.int p2)] [])) st3 ?_
    refine own_by (f' := (mkF m 13 #[.val (.ref a1), .val (.int p2)] [(.ref a1)])) (fun t h => XS.aloadN X3.here hx rfl (hb hby d6_12) rfl rfl h) ?_
    obtain ⟨fs, hr, hrun, hended, hW, hsame⟩ := X3.leave (v := some (.ref a1)) (fun h => by rw [Bd.returns] at h; cases h)
    refine own_mk ⟨_, _, retOut X3 hx Bd.returns rfl (Or.inr (Or.inr (Or.inr (Or.inr ⟨rfl, rfl, rfl⟩)))) (hb hby d6_13) hr, hrun, hended, _, _, rfl, ?_, ⟨_, rfl⟩, hW, hsame.mono (by decide) (by decide)⟩
    show Q6 Z a1 p2 r1 h0 n0 _ T3.heap _
    rw [e3]
    exact ⟨rfl, N3, Keep.of_wr W3, by rw [if_pos hc4_2]; exact Fw⟩
  · refine own_by (f' := (mkF m 12 #[.val (.ref a1), .val (.int p2)] [])) (fun t h => XS.ifYes X1.here hx rfl (pc0 := 4) (pc' := 12) rfl (hb hby d6_4) rfl ((if0 _ _).trans (feq hc4_2).2) (by decide) (by decide) h) ?_
    refine own_by (f' := (mkF m 13 #[.val (.ref a1), .val (.int p2)] [(.ref a1)])) (fun t h => XS.aloadN X1.here hx rfl (hb hby d6_12) rfl rfl h) ?_
    obtain ⟨fs, hr, hrun, hended, hW, hsame⟩ := X1.leave (v := some (.ref a1)) (fun h => by rw [Bd.returns] at h; cases h)
    refine own_mk ⟨_, _, retOut X1 hx Bd.returns rfl (Or.inr (Or.inr (Or.inr (Or.inr ⟨rfl, rfl, rfl⟩)))) (hb hby d6_13) hr, hrun, hended, _, _, rfl, ?_, ⟨_, rfl⟩, hW, hsame.mono (by decide) (by decide)⟩
    show Q6 Z a1 p2 r1 h0 n0 _ T1.heap _
    rw [e1]
    exact ⟨rfl, N0, Keep.refl _ _, by rw [if_neg hc4_2]; exact F1⟩
theorem own_pn0 : plainName "com/example/lull/lull/runtime/ScriptErrorAtLinePinLaw" = true := by first | (simp [plainName, overriddenIn]; done) | decide +kernel
theorem own_ef0 (m : MethodId) (x0 : Int32) (x1 : Int32) (x2 : Int32) (x3 : Int32) : entryFrame m #[(.int x0), (.int x1), (.int x2), (.int x3)] maxLocals = mkF m 0 #[.val (.int x0), .val (.int x1), .val (.int x2), .val (.int x3), .unset, .unset, .unset, .unset, .unset, .unset, .unset, .unset] [] := by first | (simp [entryFrame, mkF, argsToLocals, Value.category, maxLocals]; done) | rfl
def Q0 (n0 : Nat) (v : Option Value) (h : Heap) (L : List Loc) : Prop := v = some (.int 1) ∧ Fr n0 L
set_option maxRecDepth 65536 in
set_option maxHeartbeats 40000000 in
theorem rm0 (l : Launch) (Z : State) (a0 : Array Value) (hw : ∀ d ∈ tables_1, d.before a0 Z = true) (ws : List Jvm.Cond) (hl : l.stackTraces = true) (p1 p2 p3 p4 : Int32) (u0 sn : Value) (h0 : Heap) (n0 : Nat) (Z0 : n0 ≤ h0.size) (S_u : Sta Z h0 "java/lang/Throwable" "UNASSIGNED_STACK" "[Ljava/lang/StackTraceElement;" u0) (S_n : Sta Z h0 "java/lang/Throwable" "SUPPRESSED_SENTINEL" "Ljava/util/List;" sn) (T0 : ThS Z h0) (hu : u0.isRef = true) (hn : sn.isRef = true) :
    MetFree l x (head1 (Jvm.Cond.code x code maxLocals ret :: ws) room_1) (fun a U => a = #[(.int p1), (.int p2), (.int p3), (.int p4)] ∧ Z.Warmed39 U.vm ∧ U.heap = h0) (fun _ _ bl s _ => s.vm.MethodsKnown ∧ s.vm.FramesKnown bl) (fun _ U o U' => ∃ v L, o = .returned v ∧ Q0 n0 v U'.heap L ∧ ReturnedEndW U o U' L room_1.cells room_1.slots) := by
  refine MetFree.of_bodySF (plainFor_of_name own_pn0) hisR ?_
  intro p e s m args below meth c s₁ Bd hml0 hP hK
  obtain ⟨rfl, hZ, hh⟩ := hP
  have hx := Bd.exec
  have hby := Bd.bytes
  have hml : c.maxLocals = 12 := hml0
  have hown : s.vm.findClass "com/example/lull/lull/runtime/ScriptErrorAtLinePinLaw" = some m.cls := findClass_of_methodNamed Bd.named
  have hnm := (name_of_methodNamed Bd.named Bd.method).1
  have X0 : Stand p l e room_1 s m #[(.int p1), (.int p2), (.int p3), (.int p4)] below meth c s₁ [] 0 0 := Stand.of_body Bd
  have e0 : s₁.heap = h0 := by rw [← hh, Bd.state]; rfl
  have N0 := Fr.nil n0
  refine own_openW (f := (mkF m 0 #[.val (.int p1), .val (.int p2), .val (.int p3), .val (.int p4), .unset, .unset, .unset, .unset, .unset, .unset, .unset, .unset] [])) (fun t k => castTop (own_ef0 m p1 p2 p3 p4) k) ?_
  have K : ∀ f1 f2 : Int32, own_GoW p e below s (Q0 n0) room_1.cells room_1.slots s₁ (mkF m 26 #[.val (.int p1), .val (.int p2), .val (.int p3), .val (.int p4), .val (.int f1), .val (.int f2), .unset, .unset, .unset, .unset, .unset, .unset] []) := by
    intro f1 f2
    obtain ⟨T1, h1, X1, e1, Ex1, A1, D1, U1, st1⟩ := newO X0 hx hZ hown (hw _ (List.mem_of_getElem? (i := 0) rfl)) (hw _ (List.mem_of_getElem? (i := 1) rfl)) (hw _ (List.mem_of_getElem? (i := 2) rfl)) e0 (g := (mkF m 26 #[.val (.int p1), .val (.int p2), .val (.int p3), .val (.int p4), .val (.int f1), .val (.int f2), .unset, .unset, .unset, .unset, .unset, .unset] [])) rfl (hb hby at_26) (by decide) (by decide)
    obtain ⟨b, gb⟩ : ∃ z, z = h0.size := ⟨_, rfl⟩
    rw [← gb] at A1 D1 U1 st1
    have gn : n0 ≤ b := Nat.le_trans Z0 (Nat.le_of_eq gb.symm)
    have F_cause : Fld Z h1 b "java/lang/Throwable" "cause" "Ljava/lang/Throwable;" .null := D1 (Or.inl (hw _ (List.mem_of_getElem? (i := 35) rfl))) (ty := (.object "java/lang/Throwable")) (by decide)
    have F_stackTrace : Fld Z h1 b "java/lang/Throwable" "stackTrace" "[Ljava/lang/StackTraceElement;" .null := D1 (Or.inl (hw _ (List.mem_of_getElem? (i := 38) rfl))) (ty := (.array (.object "java/lang/StackTraceElement"))) (by decide)
    have F_suppressedExceptions : Fld Z h1 b "java/lang/Throwable" "suppressedExceptions" "Ljava/util/List;" .null := D1 (Or.inl (hw _ (List.mem_of_getElem? (i := 41) rfl))) (ty := (.object "java/util/List")) (by decide)
    have F_backtrace : Fld Z h1 b "java/lang/Throwable" "backtrace" "Ljava/lang/Object;" .null := D1 (Or.inl (hw _ (List.mem_of_getElem? (i := 66) rfl))) (ty := (.object "java/lang/Object")) (by decide)
    have F_detailMessage : Fld Z h1 b "java/lang/Throwable" "detailMessage" "Ljava/lang/String;" .null := D1 (Or.inl (hw _ (List.mem_of_getElem? (i := 65) rfl))) (ty := (.object "java/lang/String")) (by decide)
    have F_line : Fld Z h1 b "com/example/lull/lull/runtime/ScriptError" "line" "I" (.int (0 : Int32)) := D1 (Or.inl (hw _ (List.mem_of_getElem? (i := 76) rfl))) (ty := .int) (by decide)
    have B1 : own_R Z h1 b u0 sn := ⟨A1, U1, F_cause, F_stackTrace, F_suppressedExceptions, F_backtrace, F_detailMessage, F_line, S_u.ext Ex1, S_n.ext Ex1, T0.ext Ex1, hu, hn⟩
    refine own_byW (f' := (mkF m 29 #[.val (.int p1), .val (.int p2), .val (.int p3), .val (.int p4), .val (.int f1), .val (.int f2), .unset, .unset, .unset, .unset, .unset, .unset] [(.ref b)])) st1 ?_
    refine own_byW (f' := (mkF m 30 #[.val (.int p1), .val (.int p2), .val (.int p3), .val (.int p4), .val (.int f1), .val (.int f2), .unset, .unset, .unset, .unset, .unset, .unset] [(.ref b), (.ref b)])) (fun t h => XS.dup X1.here hx rfl (hb hby at_29) rfl rfl h) ?_
    obtain ⟨a2, T2, h2, k2, X2, e2, El2, hS2, hk2, hZ2', hown2', st2⟩ := ldcS (s := s) (vm0 := s.vm) X1 hx hZ hown (hw _ (List.mem_of_getElem? (i := 3) rfl)) (own_strS hw) e1 ((State.WarmedH.refl s).since 0) (Nat.zero_le _) (g := (mkF m 30 #[.val (.int p1), .val (.int p2), .val (.int p3), .val (.int p4), .val (.int f1), .val (.int f2), .unset, .unset, .unset, .unset, .unset, .unset] [(.ref b), (.ref b)])) rfl (hb hby at_30) (n := 16) (by decide) (by decide) (by decide) (by decide)
    have Ex2 := own_extt Ex1 El2
    refine own_byW (f' := (mkF m 32 #[.val (.int p1), .val (.int p2), .val (.int p3), .val (.int p4), .val (.int f1), .val (.int f2), .unset, .unset, .unset, .unset, .unset, .unset] [(.ref a2), (.ref b), (.ref b)])) st2 ?_
    have Br : own_R Z h2 b u0 sn := own_R_ext El2 B1
    obtain ⟨v3, _, ⟨T3, L3, k3, n3⟩, -, X3, ⟨Lc3, hQ3, l3, y3, z3⟩, st3⟩ := X2.specialBack hx (y := (⟨"com/example/lull/lull/runtime/ScriptError", "<init>", "(Ljava/lang/String;)V"⟩ : MethodName)) rfl hown2' (mvT hZ2' (hw _ (List.mem_of_getElem? (i := 11) rfl))) (mvT hZ2' (hw _ (List.mem_of_getElem? (i := 12) rfl))) (mvT hZ2' (hw _ (List.mem_of_getElem? (i := 13) rfl))) (by decide) (backOfKL (W := 1) (rm1 l Z a0 hw [] hl b a2 u0 sn h2 n0 (Nat.le_trans Z0 Ex2.1) Br gn) hZ2' (hw _ (List.mem_of_getElem? (i := 13) rfl)) (hw _ (List.mem_of_getElem? (i := 2) rfl)) (by decide) (by decide) (Vm.MethodsKnown.alikeC hS2.1.alike hK.1) (Vm.FramesKnown.alikeC hS2.1.alike hK.2)) (g := (mkF m 32 #[.val (.int p1), .val (.int p2), .val (.int p3), .val (.int p4), .val (.int f1), .val (.int f2), .unset, .unset, .unset, .unset, .unset, .unset] [(.ref a2), (.ref b), (.ref b)])) rfl (by rw [hml]; rfl) (Steps.refl _) (a := b) (argsL := [(.ref a2)]) (rest := [(.ref b)]) (lenOf own_pd1 rfl) rfl (by show 2 * 0 + _ ≤ _; exact Nat.le_of_eq rfl) (hb hby at_32) (fun _ _ => ⟨rfl, e2, (by decide : 3 + 1 ≤ _), (by decide : 27 + 2752 ≤ _)⟩)
    dsimp only [Pt.U, Pt.locs, Pt.cells, Pt.slots] at X3 l3 y3 z3 st3 hQ3
    subst l3 y3 z3
    obtain ⟨rfl, Nc3, Kc3, Fc3⟩ := hQ3
    have N3 := Fr.app N0 Nc3
    obtain ⟨h3, e3⟩ : ∃ z, T3.heap = z := ⟨_, rfl⟩
    rw [e3] at Kc3 Fc3
    have Zl3 : n0 ≤ h3.size := Nat.le_trans (Nat.le_trans Z0 Ex2.1) Kc3.1
    have Eb3 := Exa.keep Br.1 Kc3
    have hk3 := Nat.le_trans hk2 Kc3.1
    refine own_byW (f' := (mkF m 35 #[.val (.int p1), .val (.int p2), .val (.int p3), .val (.int p4), .val (.int f1), .val (.int f2), .unset, .unset, .unset, .unset, .unset, .unset] [(.ref b)])) (fun t h => st3.trans h) ?_
    refine own_byW (f' := (mkF m 37 #[.val (.int p1), .val (.int p2), .val (.int p3), .val (.int p4), .val (.int f1), .val (.int f2), .val (.ref b), .unset, .unset, .unset, .unset, .unset] [])) (fun t h => XS.astore X3.here hx rfl (hb hby at_35) rfl rfl (l' := #[.val (.int p1), .val (.int p2), .val (.int p3), .val (.int p4), .val (.int f1), .val (.int f2), .val (.ref b), .unset, .unset, .unset, .unset, .unset]) rfl h) ?_
    refine own_byW (f' := (mkF m 39 #[.val (.int p1), .val (.int p2), .val (.int p3), .val (.int p4), .val (.int f1), .val (.int f2), .val (.ref b), .unset, .unset, .unset, .unset, .unset] [(.ref b)])) (fun t h => XS.aload X3.here hx rfl (hb hby at_37) rfl rfl h) ?_
    obtain ⟨cq4, kq4, q4a, q4b, q4c⟩ := isOf hZ2' e3 Eb3
    obtain ⟨v4, _, ⟨T4, L4, k4, n4⟩, -, X4, ⟨Lc4, hQ4, l4, y4, z4⟩, st4⟩ := X3.virtualBack hx (y := (⟨"com/example/lull/lull/runtime/ScriptError", "line", "()I"⟩ : MethodName)) (z := (⟨"com/example/lull/lull/runtime/ScriptError", "line", "()I"⟩ : MethodName)) hown2' (mvT hZ2' (hw _ (List.mem_of_getElem? (i := 70) rfl))) (mvT hZ2' (hw _ (List.mem_of_getElem? (i := 71) rfl))) (notFace_of_selects (args := #[]) (mvT hZ2' (hw _ (List.mem_of_getElem? (i := 73) rfl)))) (mvT hZ2' (hw _ (List.mem_of_getElem? (i := 73) rfl))) (mvT hZ2' (hw _ (List.mem_of_getElem? (i := 72) rfl))) (by decide) (backOf (W := 0) (rm5 l Z a0 hw [] b (0 : Int32) h3 n0 Zl3 Fc3) hZ2' (hw _ (List.mem_of_getElem? (i := 74) rfl)) (hw _ (List.mem_of_getElem? (i := 2) rfl)) (by decide) (by decide)) q4a q4c (g := (mkF m 39 #[.val (.int p1), .val (.int p2), .val (.int p3), .val (.int p4), .val (.int f1), .val (.int f2), .val (.ref b), .unset, .unset, .unset, .unset, .unset] [(.ref b)])) rfl (by rw [hml]; rfl) (Steps.refl _) (argsL := []) (rest := []) (lenOf own_pd5 rfl) rfl (by show 2 * 0 + _ ≤ _; exact Nat.le_of_eq rfl) (hb hby at_39) (fun _ _ => ⟨rfl, e3, (by decide : 4 + 0 ≤ _), (by decide : 2779 + 0 ≤ _)⟩)
    dsimp only [Pt.U, Pt.locs, Pt.cells, Pt.slots] at X4 l4 y4 z4 st4 hQ4
    subst l4 y4 z4
    obtain ⟨hv4, Nc4, e4⟩ := hQ4
    have N4 := Fr.app N3 Nc4
    obtain rfl : v4 = some (.int (0 : Int32)) := hv4
    refine own_byW (f' := (mkF m 42 #[.val (.int p1), .val (.int p2), .val (.int p3), .val (.int p4), .val (.int f1), .val (.int f2), .val (.ref b), .unset, .unset, .unset, .unset, .unset] [(.int (0 : Int32))])) (fun t h => st4.trans h) ?_
    refine own_byW (f' := (mkF m 47 #[.val (.int p1), .val (.int p2), .val (.int p3), .val (.int p4), .val (.int f1), .val (.int f2), .val (.ref b), .unset, .unset, .unset, .unset, .unset] [])) (fun t h => XS.ifYes X4.here hx rfl (pc0 := 42) (pc' := 47) rfl (hb hby at_42) rfl (by decide) (by decide) (by decide) h) ?_
    refine own_byW (f' := (mkF m 49 #[.val (.int p1), .val (.int p2), .val (.int p3), .val (.int p4), .val (.int f1), .val (.int f2), .val (.ref b), .unset, .unset, .unset, .unset, .unset] [(.ref b)])) (fun t h => XS.aload X4.here hx rfl (hb hby at_47) rfl rfl h) ?_
    refine own_byW (f' := (mkF m 51 #[.val (.int p1), .val (.int p2), .val (.int p3), .val (.int p4), .val (.int f1), .val (.int f2), .val (.ref b), .unset, .unset, .unset, .unset, .unset] [(.int f1), (.ref b)])) (fun t h => XS.iload X4.here hx rfl (hb hby at_49) rfl h) ?_
    obtain ⟨cq5, kq5, q5a, q5b, q5c⟩ := isOf hZ2' e4 Eb3
    obtain ⟨v5, _, ⟨T5, L5, k5, n5⟩, -, X5, ⟨Lc5, hQ5, l5, y5, z5⟩, st5⟩ := X4.virtualBack hx (y := (⟨"com/example/lull/lull/runtime/ScriptError", "atLine", "(I)Lcom/example/lull/lull/runtime/ScriptError;"⟩ : MethodName)) (z := (⟨"com/example/lull/lull/runtime/ScriptError", "atLine", "(I)Lcom/example/lull/lull/runtime/ScriptError;"⟩ : MethodName)) hown2' (mvT hZ2' (hw _ (List.mem_of_getElem? (i := 77) rfl))) (mvT hZ2' (hw _ (List.mem_of_getElem? (i := 78) rfl))) (notFace_of_selects (args := #[]) (mvT hZ2' (hw _ (List.mem_of_getElem? (i := 80) rfl)))) (mvT hZ2' (hw _ (List.mem_of_getElem? (i := 80) rfl))) (mvT hZ2' (hw _ (List.mem_of_getElem? (i := 79) rfl))) (by decide) (backOf (W := 0) (rm6 l Z a0 hw [] b f1 (0 : Int32) h3 n0 Zl3 Fc3 Eb3 gn) hZ2' (hw _ (List.mem_of_getElem? (i := 81) rfl)) (hw _ (List.mem_of_getElem? (i := 2) rfl)) (by decide) (by decide)) q5a q5c (g := (mkF m 51 #[.val (.int p1), .val (.int p2), .val (.int p3), .val (.int p4), .val (.int f1), .val (.int f2), .val (.ref b), .unset, .unset, .unset, .unset, .unset] [(.int f1), (.ref b)])) rfl (by rw [hml]; rfl) (Steps.refl _) (argsL := [(.int f1)]) (rest := []) (lenOf own_pd6 rfl) rfl (by show 2 * 0 + _ ≤ _; exact Nat.le_of_eq rfl) (hb hby at_51) (fun _ _ => ⟨rfl, e4, (by decide : 4 + 0 ≤ _), (by decide : 2779 + 0 ≤ _)⟩)
    dsimp only [Pt.U, Pt.locs, Pt.cells, Pt.slots] at X5 l5 y5 z5 st5 hQ5
    subst l5 y5 z5
    obtain ⟨rfl, Nc5, Kc5, Fc5⟩ := hQ5
    have N5 := Fr.app N4 Nc5
    obtain ⟨h5, e5⟩ : ∃ z, T5.heap = z := ⟨_, rfl⟩
    rw [e5] at Kc5 Fc5
    have Zl5 : n0 ≤ h5.size := Nat.le_trans Zl3 Kc5.1
    have Eb5 := Exa.keep Eb3 Kc5
    have hk5 := Nat.le_trans hk3 Kc5.1
    rw [if_pos rfl] at Fc5
    refine own_byW (f' := (mkF m 54 #[.val (.int p1), .val (.int p2), .val (.int p3), .val (.int p4), .val (.int f1), .val (.int f2), .val (.ref b), .unset, .unset, .unset, .unset, .unset] [(.ref b)])) (fun t h => st5.trans h) ?_
    refine own_byW (f' := (mkF m 56 #[.val (.int p1), .val (.int p2), .val (.int p3), .val (.int p4), .val (.int f1), .val (.int f2), .val (.ref b), .val (.ref b), .unset, .unset, .unset, .unset] [])) (fun t h => XS.astore X5.here hx rfl (hb hby at_54) rfl rfl (l' := #[.val (.int p1), .val (.int p2), .val (.int p3), .val (.int p4), .val (.int f1), .val (.int f2), .val (.ref b), .val (.ref b), .unset, .unset, .unset, .unset]) rfl h) ?_
    refine own_byW (f' := (mkF m 58 #[.val (.int p1), .val (.int p2), .val (.int p3), .val (.int p4), .val (.int f1), .val (.int f2), .val (.ref b), .val (.ref b), .unset, .unset, .unset, .unset] [(.ref b)])) (fun t h => XS.aload X5.here hx rfl (hb hby at_56) rfl rfl h) ?_
    refine own_byW (f' := (mkF m 60 #[.val (.int p1), .val (.int p2), .val (.int p3), .val (.int p4), .val (.int f1), .val (.int f2), .val (.ref b), .val (.ref b), .unset, .unset, .unset, .unset] [(.ref b), (.ref b)])) (fun t h => XS.aload X5.here hx rfl (hb hby at_58) rfl rfl h) ?_
    refine own_byW (f' := (mkF m 65 #[.val (.int p1), .val (.int p2), .val (.int p3), .val (.int p4), .val (.int f1), .val (.int f2), .val (.ref b), .val (.ref b), .unset, .unset, .unset, .unset] [])) (fun t h => Jvm.RoadKit.acmp (g := (mkF m 60 #[.val (.int p1), .val (.int p2), .val (.int p3), .val (.int p4), .val (.int f1), .val (.int f2), .val (.ref b), .val (.ref b), .unset, .unset, .unset, .unset] [(.ref b), (.ref b)])) X5 hx rfl rfl rfl (pc0 := 60) (pc' := 65) (same := true) rfl (hb hby at_60) rfl (decide_eq_true rfl) (by decide) (by decide) h) ?_
    refine own_byW (f' := (mkF m 67 #[.val (.int p1), .val (.int p2), .val (.int p3), .val (.int p4), .val (.int f1), .val (.int f2), .val (.ref b), .val (.ref b), .unset, .unset, .unset, .unset] [(.ref b)])) (fun t h => XS.aload X5.here hx rfl (hb hby at_65) rfl rfl h) ?_
    obtain ⟨cq6, kq6, q6a, q6b, q6c⟩ := isOf hZ2' e5 Eb5
    obtain ⟨v6, _, ⟨T6, L6, k6, n6⟩, -, X6, ⟨Lc6, hQ6, l6, y6, z6⟩, st6⟩ := X5.virtualBack hx (y := (⟨"com/example/lull/lull/runtime/ScriptError", "line", "()I"⟩ : MethodName)) (z := (⟨"com/example/lull/lull/runtime/ScriptError", "line", "()I"⟩ : MethodName)) hown2' (mvT hZ2' (hw _ (List.mem_of_getElem? (i := 70) rfl))) (mvT hZ2' (hw _ (List.mem_of_getElem? (i := 71) rfl))) (notFace_of_selects (args := #[]) (mvT hZ2' (hw _ (List.mem_of_getElem? (i := 73) rfl)))) (mvT hZ2' (hw _ (List.mem_of_getElem? (i := 73) rfl))) (mvT hZ2' (hw _ (List.mem_of_getElem? (i := 72) rfl))) (by decide) (backOf (W := 0) (rm5 l Z a0 hw [] b f1 h5 n0 Zl5 Fc5) hZ2' (hw _ (List.mem_of_getElem? (i := 74) rfl)) (hw _ (List.mem_of_getElem? (i := 2) rfl)) (by decide) (by decide)) q6a q6c (g := (mkF m 67 #[.val (.int p1), .val (.int p2), .val (.int p3), .val (.int p4), .val (.int f1), .val (.int f2), .val (.ref b), .val (.ref b), .unset, .unset, .unset, .unset] [(.ref b)])) rfl (by rw [hml]; rfl) (Steps.refl _) (argsL := []) (rest := []) (lenOf own_pd5 rfl) rfl (by show 2 * 0 + _ ≤ _; exact Nat.le_of_eq rfl) (hb hby at_67) (fun _ _ => ⟨rfl, e5, (by decide : 4 + 0 ≤ _), (by decide : 2779 + 0 ≤ _)⟩)
    dsimp only [Pt.U, Pt.locs, Pt.cells, Pt.slots] at X6 l6 y6 z6 st6 hQ6
    subst l6 y6 z6
    obtain ⟨hv6, Nc6, e6⟩ := hQ6
    have N6 := Fr.app N5 Nc6
    obtain rfl : v6 = some (.int f1) := hv6
    refine own_byW (f' := (mkF m 70 #[.val (.int p1), .val (.int p2), .val (.int p3), .val (.int p4), .val (.int f1), .val (.int f2), .val (.ref b), .val (.ref b), .unset, .unset, .unset, .unset] [(.int f1)])) (fun t h => st6.trans h) ?_
    refine own_byW (f' := (mkF m 72 #[.val (.int p1), .val (.int p2), .val (.int p3), .val (.int p4), .val (.int f1), .val (.int f2), .val (.ref b), .val (.ref b), .unset, .unset, .unset, .unset] [(.int f1), (.int f1)])) (fun t h => XS.iload X6.here hx rfl (hb hby at_70) rfl h) ?_
    refine own_byW (f' := (mkF m 77 #[.val (.int p1), .val (.int p2), .val (.int p3), .val (.int p4), .val (.int f1), .val (.int f2), .val (.ref b), .val (.ref b), .unset, .unset, .unset, .unset] [])) (fun t h => XS.icmpYes X6.here hx rfl (pc0 := 72) (pc' := 77) rfl (hb hby at_72) rfl (teq (rfl : f1 = f1)).1 (by decide) (by decide) h) ?_
    refine own_byW (f' := (mkF m 79 #[.val (.int p1), .val (.int p2), .val (.int p3), .val (.int p4), .val (.int f1), .val (.int f2), .val (.ref b), .val (.ref b), .unset, .unset, .unset, .unset] [(.ref b)])) (fun t h => XS.aload X6.here hx rfl (hb hby at_77) rfl rfl h) ?_
    refine own_byW (f' := (mkF m 81 #[.val (.int p1), .val (.int p2), .val (.int p3), .val (.int p4), .val (.int f1), .val (.int f2), .val (.ref b), .val (.ref b), .unset, .unset, .unset, .unset] [(.int f2), (.ref b)])) (fun t h => XS.iload X6.here hx rfl (hb hby at_79) rfl h) ?_
    by_cases hc81_7 : f1 = (0 : Int32)
    · obtain ⟨cq8, kq8, q8a, q8b, q8c⟩ := isOf hZ2' e6 Eb5
      obtain ⟨v8, _, ⟨T8, L8, k8, n8⟩, -, X8, ⟨Lc8, hQ8, l8, y8, z8⟩, st8⟩ := X6.virtualBack hx (y := (⟨"com/example/lull/lull/runtime/ScriptError", "atLine", "(I)Lcom/example/lull/lull/runtime/ScriptError;"⟩ : MethodName)) (z := (⟨"com/example/lull/lull/runtime/ScriptError", "atLine", "(I)Lcom/example/lull/lull/runtime/ScriptError;"⟩ : MethodName)) hown2' (mvT hZ2' (hw _ (List.mem_of_getElem? (i := 77) rfl))) (mvT hZ2' (hw _ (List.mem_of_getElem? (i := 78) rfl))) (notFace_of_selects (args := #[]) (mvT hZ2' (hw _ (List.mem_of_getElem? (i := 80) rfl)))) (mvT hZ2' (hw _ (List.mem_of_getElem? (i := 80) rfl))) (mvT hZ2' (hw _ (List.mem_of_getElem? (i := 79) rfl))) (by decide) (backOf (W := 0) (rm6 l Z a0 hw [] b f2 f1 h5 n0 Zl5 Fc5 Eb5 gn) hZ2' (hw _ (List.mem_of_getElem? (i := 81) rfl)) (hw _ (List.mem_of_getElem? (i := 2) rfl)) (by decide) (by decide)) q8a q8c (g := (mkF m 81 #[.val (.int p1), .val (.int p2), .val (.int p3), .val (.int p4), .val (.int f1), .val (.int f2), .val (.ref b), .val (.ref b), .unset, .unset, .unset, .unset] [(.int f2), (.ref b)])) rfl (by rw [hml]; rfl) (Steps.refl _) (argsL := [(.int f2)]) (rest := []) (lenOf own_pd6 rfl) rfl (by show 2 * 0 + _ ≤ _; exact Nat.le_of_eq rfl) (hb hby at_81) (fun _ _ => ⟨rfl, e6, (by decide : 4 + 0 ≤ _), (by decide : 2779 + 0 ≤ _)⟩)
      dsimp only [Pt.U, Pt.locs, Pt.cells, Pt.slots] at X8 l8 y8 z8 st8 hQ8
      subst l8 y8 z8
      obtain ⟨rfl, Nc8, Kc8, Fc8⟩ := hQ8
      have N8 := Fr.app N6 Nc8
      obtain ⟨h8, e8⟩ : ∃ z, T8.heap = z := ⟨_, rfl⟩
      rw [e8] at Kc8 Fc8
      have Zl8 : n0 ≤ h8.size := Nat.le_trans Zl5 Kc8.1
      have Eb8 := Exa.keep Eb5 Kc8
      have hk8 := Nat.le_trans hk5 Kc8.1
      rw [if_pos hc81_7] at Fc8
      refine own_byW (f' := (mkF m 84 #[.val (.int p1), .val (.int p2), .val (.int p3), .val (.int p4), .val (.int f1), .val (.int f2), .val (.ref b), .val (.ref b), .unset, .unset, .unset, .unset] [(.ref b)])) (fun t h => st8.trans h) ?_
      refine own_byW (f' := (mkF m 86 #[.val (.int p1), .val (.int p2), .val (.int p3), .val (.int p4), .val (.int f1), .val (.int f2), .val (.ref b), .val (.ref b), .val (.ref b), .unset, .unset, .unset] [])) (fun t h => XS.astore X8.here hx rfl (hb hby at_84) rfl rfl (l' := #[.val (.int p1), .val (.int p2), .val (.int p3), .val (.int p4), .val (.int f1), .val (.int f2), .val (.ref b), .val (.ref b), .val (.ref b), .unset, .unset, .unset]) rfl h) ?_
      refine own_byW (f' := (mkF m 88 #[.val (.int p1), .val (.int p2), .val (.int p3), .val (.int p4), .val (.int f1), .val (.int f2), .val (.ref b), .val (.ref b), .val (.ref b), .unset, .unset, .unset] [(.ref b)])) (fun t h => XS.aload X8.here hx rfl (hb hby at_86) rfl rfl h) ?_
      refine own_byW (f' := (mkF m 90 #[.val (.int p1), .val (.int p2), .val (.int p3), .val (.int p4), .val (.int f1), .val (.int f2), .val (.ref b), .val (.ref b), .val (.ref b), .unset, .unset, .unset] [(.ref b), (.ref b)])) (fun t h => XS.aload X8.here hx rfl (hb hby at_88) rfl rfl h) ?_
      refine own_byW (f' := (mkF m 95 #[.val (.int p1), .val (.int p2), .val (.int p3), .val (.int p4), .val (.int f1), .val (.int f2), .val (.ref b), .val (.ref b), .val (.ref b), .unset, .unset, .unset] [])) (fun t h => Jvm.RoadKit.acmp (g := (mkF m 90 #[.val (.int p1), .val (.int p2), .val (.int p3), .val (.int p4), .val (.int f1), .val (.int f2), .val (.ref b), .val (.ref b), .val (.ref b), .unset, .unset, .unset] [(.ref b), (.ref b)])) X8 hx rfl rfl rfl (pc0 := 90) (pc' := 95) (same := true) rfl (hb hby at_90) rfl (decide_eq_true rfl) (by decide) (by decide) h) ?_
      refine own_byW (f' := (mkF m 97 #[.val (.int p1), .val (.int p2), .val (.int p3), .val (.int p4), .val (.int f1), .val (.int f2), .val (.ref b), .val (.ref b), .val (.ref b), .unset, .unset, .unset] [(.int f1)])) (fun t h => XS.iload X8.here hx rfl (hb hby at_95) rfl h) ?_
      refine own_byW (f' := (mkF m 100 #[.val (.int p1), .val (.int p2), .val (.int p3), .val (.int p4), .val (.int f1), .val (.int f2), .val (.ref b), .val (.ref b), .val (.ref b), .unset, .unset, .unset] [])) (fun t h => XS.ifNo X8.here hx rfl (hb hby at_97) rfl ((if0 _ _).trans (teq hc81_7).2) h) ?_
      refine own_byW (f' := (mkF m 102 #[.val (.int p1), .val (.int p2), .val (.int p3), .val (.int p4), .val (.int f1), .val (.int f2), .val (.ref b), .val (.ref b), .val (.ref b), .unset, .unset, .unset] [(.int f2)])) (fun t h => XS.iload X8.here hx rfl (hb hby at_100) rfl h) ?_
      refine own_byW (f' := (mkF m 107 #[.val (.int p1), .val (.int p2), .val (.int p3), .val (.int p4), .val (.int f1), .val (.int f2), .val (.ref b), .val (.ref b), .val (.ref b), .unset, .unset, .unset] [(.int f2)])) (fun t h => XS.goto X8.here hx rfl (pc0 := 102) (pc' := 107) rfl (hb hby at_102) (by decide) (by decide) h) ?_
      refine own_byW (f' := (mkF m 109 #[.val (.int p1), .val (.int p2), .val (.int p3), .val (.int p4), .val (.int f1), .val (.int f2), .val (.ref b), .val (.ref b), .val (.ref b), .val (.int f2), .unset, .unset] [])) (fun t h => XS.istore X8.here hx rfl (hb hby at_107) rfl (l' := #[.val (.int p1), .val (.int p2), .val (.int p3), .val (.int p4), .val (.int f1), .val (.int f2), .val (.ref b), .val (.ref b), .val (.ref b), .val (.int f2), .unset, .unset]) rfl h) ?_
      refine own_byW (f' := (mkF m 111 #[.val (.int p1), .val (.int p2), .val (.int p3), .val (.int p4), .val (.int f1), .val (.int f2), .val (.ref b), .val (.ref b), .val (.ref b), .val (.int f2), .unset, .unset] [(.ref b)])) (fun t h => XS.aload X8.here hx rfl (hb hby at_109) rfl rfl h) ?_
      obtain ⟨cq9, kq9, q9a, q9b, q9c⟩ := isOf hZ2' e8 Eb8
      obtain ⟨v9, _, ⟨T9, L9, k9, n9⟩, -, X9, ⟨Lc9, hQ9, l9, y9, z9⟩, st9⟩ := X8.virtualBack hx (y := (⟨"com/example/lull/lull/runtime/ScriptError", "line", "()I"⟩ : MethodName)) (z := (⟨"com/example/lull/lull/runtime/ScriptError", "line", "()I"⟩ : MethodName)) hown2' (mvT hZ2' (hw _ (List.mem_of_getElem? (i := 70) rfl))) (mvT hZ2' (hw _ (List.mem_of_getElem? (i := 71) rfl))) (notFace_of_selects (args := #[]) (mvT hZ2' (hw _ (List.mem_of_getElem? (i := 73) rfl)))) (mvT hZ2' (hw _ (List.mem_of_getElem? (i := 73) rfl))) (mvT hZ2' (hw _ (List.mem_of_getElem? (i := 72) rfl))) (by decide) (backOf (W := 0) (rm5 l Z a0 hw [] b f2 h8 n0 Zl8 Fc8) hZ2' (hw _ (List.mem_of_getElem? (i := 74) rfl)) (hw _ (List.mem_of_getElem? (i := 2) rfl)) (by decide) (by decide)) q9a q9c (g := (mkF m 111 #[.val (.int p1), .val (.int p2), .val (.int p3), .val (.int p4), .val (.int f1), .val (.int f2), .val (.ref b), .val (.ref b), .val (.ref b), .val (.int f2), .unset, .unset] [(.ref b)])) rfl (by rw [hml]; rfl) (Steps.refl _) (argsL := []) (rest := []) (lenOf own_pd5 rfl) rfl (by show 2 * 0 + _ ≤ _; exact Nat.le_of_eq rfl) (hb hby at_111) (fun _ _ => ⟨rfl, e8, (by decide : 4 + 0 ≤ _), (by decide : 2779 + 0 ≤ _)⟩)
      dsimp only [Pt.U, Pt.locs, Pt.cells, Pt.slots] at X9 l9 y9 z9 st9 hQ9
      subst l9 y9 z9
      obtain ⟨hv9, Nc9, e9⟩ := hQ9
      have N9 := Fr.app N8 Nc9
      obtain rfl : v9 = some (.int f2) := hv9
      refine own_byW (f' := (mkF m 114 #[.val (.int p1), .val (.int p2), .val (.int p3), .val (.int p4), .val (.int f1), .val (.int f2), .val (.ref b), .val (.ref b), .val (.ref b), .val (.int f2), .unset, .unset] [(.int f2)])) (fun t h => st9.trans h) ?_
      refine own_byW (f' := (mkF m 116 #[.val (.int p1), .val (.int p2), .val (.int p3), .val (.int p4), .val (.int f1), .val (.int f2), .val (.ref b), .val (.ref b), .val (.ref b), .val (.int f2), .unset, .unset] [(.int f2), (.int f2)])) (fun t h => XS.iload X9.here hx rfl (hb hby at_114) rfl h) ?_
      refine own_byW (f' := (mkF m 121 #[.val (.int p1), .val (.int p2), .val (.int p3), .val (.int p4), .val (.int f1), .val (.int f2), .val (.ref b), .val (.ref b), .val (.ref b), .val (.int f2), .unset, .unset] [])) (fun t h => XS.icmpYes X9.here hx rfl (pc0 := 116) (pc' := 121) rfl (hb hby at_116) rfl (teq (rfl : f2 = f2)).1 (by decide) (by decide) h) ?_
      refine own_byW (f' := (mkF m 123 #[.val (.int p1), .val (.int p2), .val (.int p3), .val (.int p4), .val (.int f1), .val (.int f2), .val (.ref b), .val (.ref b), .val (.ref b), .val (.int f2), .unset, .unset] [(.ref b)])) (fun t h => XS.aload X9.here hx rfl (hb hby at_121) rfl rfl h) ?_
      refine own_byW (f' := (mkF m 124 #[.val (.int p1), .val (.int p2), .val (.int p3), .val (.int p4), .val (.int f1), .val (.int f2), .val (.ref b), .val (.ref b), .val (.ref b), .val (.int f2), .unset, .unset] [(.int p3), (.ref b)])) (fun t h => XS.iloadN X9.here hx rfl (hb hby at_123) rfl h) ?_
      by_cases hc124_10 : f2 = (0 : Int32)
      · obtain ⟨cq11, kq11, q11a, q11b, q11c⟩ := isOf hZ2' e9 Eb8
        obtain ⟨v11, _, ⟨T11, L11, k11, n11⟩, -, X11, ⟨Lc11, hQ11, l11, y11, z11⟩, st11⟩ := X9.virtualBack hx (y := (⟨"com/example/lull/lull/runtime/ScriptError", "atLine", "(I)Lcom/example/lull/lull/runtime/ScriptError;"⟩ : MethodName)) (z := (⟨"com/example/lull/lull/runtime/ScriptError", "atLine", "(I)Lcom/example/lull/lull/runtime/ScriptError;"⟩ : MethodName)) hown2' (mvT hZ2' (hw _ (List.mem_of_getElem? (i := 77) rfl))) (mvT hZ2' (hw _ (List.mem_of_getElem? (i := 78) rfl))) (notFace_of_selects (args := #[]) (mvT hZ2' (hw _ (List.mem_of_getElem? (i := 80) rfl)))) (mvT hZ2' (hw _ (List.mem_of_getElem? (i := 80) rfl))) (mvT hZ2' (hw _ (List.mem_of_getElem? (i := 79) rfl))) (by decide) (backOf (W := 0) (rm6 l Z a0 hw [] b p3 f2 h8 n0 Zl8 Fc8 Eb8 gn) hZ2' (hw _ (List.mem_of_getElem? (i := 81) rfl)) (hw _ (List.mem_of_getElem? (i := 2) rfl)) (by decide) (by decide)) q11a q11c (g := (mkF m 124 #[.val (.int p1), .val (.int p2), .val (.int p3), .val (.int p4), .val (.int f1), .val (.int f2), .val (.ref b), .val (.ref b), .val (.ref b), .val (.int f2), .unset, .unset] [(.int p3), (.ref b)])) rfl (by rw [hml]; rfl) (Steps.refl _) (argsL := [(.int p3)]) (rest := []) (lenOf own_pd6 rfl) rfl (by show 2 * 0 + _ ≤ _; exact Nat.le_of_eq rfl) (hb hby at_124) (fun _ _ => ⟨rfl, e9, (by decide : 4 + 0 ≤ _), (by decide : 2779 + 0 ≤ _)⟩)
        dsimp only [Pt.U, Pt.locs, Pt.cells, Pt.slots] at X11 l11 y11 z11 st11 hQ11
        subst l11 y11 z11
        obtain ⟨rfl, Nc11, Kc11, Fc11⟩ := hQ11
        have N11 := Fr.app N9 Nc11
        obtain ⟨h11, e11⟩ : ∃ z, T11.heap = z := ⟨_, rfl⟩
        rw [e11] at Kc11 Fc11
        have Zl11 : n0 ≤ h11.size := Nat.le_trans Zl8 Kc11.1
        have Eb11 := Exa.keep Eb8 Kc11
        have hk11 := Nat.le_trans hk8 Kc11.1
        rw [if_pos hc124_10] at Fc11
        refine own_byW (f' := (mkF m 127 #[.val (.int p1), .val (.int p2), .val (.int p3), .val (.int p4), .val (.int f1), .val (.int f2), .val (.ref b), .val (.ref b), .val (.ref b), .val (.int f2), .unset, .unset] [(.ref b)])) (fun t h => st11.trans h) ?_
        refine own_byW (f' := (mkF m 129 #[.val (.int p1), .val (.int p2), .val (.int p3), .val (.int p4), .val (.int f1), .val (.int f2), .val (.ref b), .val (.ref b), .val (.ref b), .val (.int f2), .val (.ref b), .unset] [])) (fun t h => XS.astore X11.here hx rfl (hb hby at_127) rfl rfl (l' := #[.val (.int p1), .val (.int p2), .val (.int p3), .val (.int p4), .val (.int f1), .val (.int f2), .val (.ref b), .val (.ref b), .val (.ref b), .val (.int f2), .val (.ref b), .unset]) rfl h) ?_
        refine own_byW (f' := (mkF m 131 #[.val (.int p1), .val (.int p2), .val (.int p3), .val (.int p4), .val (.int f1), .val (.int f2), .val (.ref b), .val (.ref b), .val (.ref b), .val (.int f2), .val (.ref b), .unset] [(.ref b)])) (fun t h => XS.aload X11.here hx rfl (hb hby at_129) rfl rfl h) ?_
        refine own_byW (f' := (mkF m 133 #[.val (.int p1), .val (.int p2), .val (.int p3), .val (.int p4), .val (.int f1), .val (.int f2), .val (.ref b), .val (.ref b), .val (.ref b), .val (.int f2), .val (.ref b), .unset] [(.ref b), (.ref b)])) (fun t h => XS.aload X11.here hx rfl (hb hby at_131) rfl rfl h) ?_
        refine own_byW (f' := (mkF m 138 #[.val (.int p1), .val (.int p2), .val (.int p3), .val (.int p4), .val (.int f1), .val (.int f2), .val (.ref b), .val (.ref b), .val (.ref b), .val (.int f2), .val (.ref b), .unset] [])) (fun t h => Jvm.RoadKit.acmp (g := (mkF m 133 #[.val (.int p1), .val (.int p2), .val (.int p3), .val (.int p4), .val (.int f1), .val (.int f2), .val (.ref b), .val (.ref b), .val (.ref b), .val (.int f2), .val (.ref b), .unset] [(.ref b), (.ref b)])) X11 hx rfl rfl rfl (pc0 := 133) (pc' := 138) (same := true) rfl (hb hby at_133) rfl (decide_eq_true rfl) (by decide) (by decide) h) ?_
        refine own_byW (f' := (mkF m 140 #[.val (.int p1), .val (.int p2), .val (.int p3), .val (.int p4), .val (.int f1), .val (.int f2), .val (.ref b), .val (.ref b), .val (.ref b), .val (.int f2), .val (.ref b), .unset] [(.int f2)])) (fun t h => XS.iload X11.here hx rfl (hb hby at_138) rfl h) ?_
        refine own_byW (f' := (mkF m 143 #[.val (.int p1), .val (.int p2), .val (.int p3), .val (.int p4), .val (.int f1), .val (.int f2), .val (.ref b), .val (.ref b), .val (.ref b), .val (.int f2), .val (.ref b), .unset] [])) (fun t h => XS.ifNo X11.here hx rfl (hb hby at_140) rfl ((if0 _ _).trans (teq hc124_10).2) h) ?_
        refine own_byW (f' := (mkF m 144 #[.val (.int p1), .val (.int p2), .val (.int p3), .val (.int p4), .val (.int f1), .val (.int f2), .val (.ref b), .val (.ref b), .val (.ref b), .val (.int f2), .val (.ref b), .unset] [(.int p3)])) (fun t h => XS.iloadN X11.here hx rfl (hb hby at_143) rfl h) ?_
        refine own_byW (f' := (mkF m 149 #[.val (.int p1), .val (.int p2), .val (.int p3), .val (.int p4), .val (.int f1), .val (.int f2), .val (.ref b), .val (.ref b), .val (.ref b), .val (.int f2), .val (.ref b), .unset] [(.int p3)])) (fun t h => XS.goto X11.here hx rfl (pc0 := 144) (pc' := 149) rfl (hb hby at_144) (by decide) (by decide) h) ?_
        refine own_byW (f' := (mkF m 151 #[.val (.int p1), .val (.int p2), .val (.int p3), .val (.int p4), .val (.int f1), .val (.int f2), .val (.ref b), .val (.ref b), .val (.ref b), .val (.int f2), .val (.ref b), .val (.int p3)] [])) (fun t h => XS.istore X11.here hx rfl (hb hby at_149) rfl (l' := #[.val (.int p1), .val (.int p2), .val (.int p3), .val (.int p4), .val (.int f1), .val (.int f2), .val (.ref b), .val (.ref b), .val (.ref b), .val (.int f2), .val (.ref b), .val (.int p3)]) rfl h) ?_
        refine own_byW (f' := (mkF m 153 #[.val (.int p1), .val (.int p2), .val (.int p3), .val (.int p4), .val (.int f1), .val (.int f2), .val (.ref b), .val (.ref b), .val (.ref b), .val (.int f2), .val (.ref b), .val (.int p3)] [(.ref b)])) (fun t h => XS.aload X11.here hx rfl (hb hby at_151) rfl rfl h) ?_
        obtain ⟨cq12, kq12, q12a, q12b, q12c⟩ := isOf hZ2' e11 Eb11
        obtain ⟨v12, _, ⟨T12, L12, k12, n12⟩, -, X12, ⟨Lc12, hQ12, l12, y12, z12⟩, st12⟩ := X11.virtualBack hx (y := (⟨"com/example/lull/lull/runtime/ScriptError", "line", "()I"⟩ : MethodName)) (z := (⟨"com/example/lull/lull/runtime/ScriptError", "line", "()I"⟩ : MethodName)) hown2' (mvT hZ2' (hw _ (List.mem_of_getElem? (i := 70) rfl))) (mvT hZ2' (hw _ (List.mem_of_getElem? (i := 71) rfl))) (notFace_of_selects (args := #[]) (mvT hZ2' (hw _ (List.mem_of_getElem? (i := 73) rfl)))) (mvT hZ2' (hw _ (List.mem_of_getElem? (i := 73) rfl))) (mvT hZ2' (hw _ (List.mem_of_getElem? (i := 72) rfl))) (by decide) (backOf (W := 0) (rm5 l Z a0 hw [] b p3 h11 n0 Zl11 Fc11) hZ2' (hw _ (List.mem_of_getElem? (i := 74) rfl)) (hw _ (List.mem_of_getElem? (i := 2) rfl)) (by decide) (by decide)) q12a q12c (g := (mkF m 153 #[.val (.int p1), .val (.int p2), .val (.int p3), .val (.int p4), .val (.int f1), .val (.int f2), .val (.ref b), .val (.ref b), .val (.ref b), .val (.int f2), .val (.ref b), .val (.int p3)] [(.ref b)])) rfl (by rw [hml]; rfl) (Steps.refl _) (argsL := []) (rest := []) (lenOf own_pd5 rfl) rfl (by show 2 * 0 + _ ≤ _; exact Nat.le_of_eq rfl) (hb hby at_153) (fun _ _ => ⟨rfl, e11, (by decide : 4 + 0 ≤ _), (by decide : 2779 + 0 ≤ _)⟩)
        dsimp only [Pt.U, Pt.locs, Pt.cells, Pt.slots] at X12 l12 y12 z12 st12 hQ12
        subst l12 y12 z12
        obtain ⟨hv12, Nc12, e12⟩ := hQ12
        have N12 := Fr.app N11 Nc12
        obtain rfl : v12 = some (.int p3) := hv12
        refine own_byW (f' := (mkF m 156 #[.val (.int p1), .val (.int p2), .val (.int p3), .val (.int p4), .val (.int f1), .val (.int f2), .val (.ref b), .val (.ref b), .val (.ref b), .val (.int f2), .val (.ref b), .val (.int p3)] [(.int p3)])) (fun t h => st12.trans h) ?_
        refine own_byW (f' := (mkF m 158 #[.val (.int p1), .val (.int p2), .val (.int p3), .val (.int p4), .val (.int f1), .val (.int f2), .val (.ref b), .val (.ref b), .val (.ref b), .val (.int f2), .val (.ref b), .val (.int p3)] [(.int p3), (.int p3)])) (fun t h => XS.iload X12.here hx rfl (hb hby at_156) rfl h) ?_
        refine own_byW (f' := (mkF m 161 #[.val (.int p1), .val (.int p2), .val (.int p3), .val (.int p4), .val (.int f1), .val (.int f2), .val (.ref b), .val (.ref b), .val (.ref b), .val (.int f2), .val (.ref b), .val (.int p3)] [])) (fun t h => XS.icmpNo X12.here hx rfl (hb hby at_158) rfl (teq (rfl : p3 = p3)).2 h) ?_
        refine own_byW (f' := (mkF m 162 #[.val (.int p1), .val (.int p2), .val (.int p3), .val (.int p4), .val (.int f1), .val (.int f2), .val (.ref b), .val (.ref b), .val (.ref b), .val (.int f2), .val (.ref b), .val (.int p3)] [(.int (1 : Int32))])) (fun t h => XS.iconst X12.here hx rfl (hb hby at_161) h) ?_
        refine own_byW (f' := (mkF m 166 #[.val (.int p1), .val (.int p2), .val (.int p3), .val (.int p4), .val (.int f1), .val (.int f2), .val (.ref b), .val (.ref b), .val (.ref b), .val (.int f2), .val (.ref b), .val (.int p3)] [(.int (1 : Int32))])) (fun t h => XS.goto X12.here hx rfl (pc0 := 162) (pc' := 166) rfl (hb hby at_162) (by decide) (by decide) h) ?_
        obtain ⟨fs, hr, hrun, hended, hR, hW, hB, hsame⟩ := X12.leaveW hS2 (by rw [e12]; exact hk11) (v := some (.int (1 : Int32))) (fun h => by rw [Bd.returns] at h; cases h)
        refine own_mkW ⟨_, _, retN X12 hx (t := .boolean) Bd.returns (by simp) (hb hby at_166) hr, hrun, hended, _, _, rfl, ?_, hR, hW, hB, hsame.mono (by decide) (by decide)⟩
        show Q0 n0 _ T12.heap _
        rw [e12]
        exact ⟨rfl, N12⟩
      · obtain ⟨cq13, kq13, q13a, q13b, q13c⟩ := isOf hZ2' e9 Eb8
        obtain ⟨v13, _, ⟨T13, L13, k13, n13⟩, -, X13, ⟨Lc13, hQ13, l13, y13, z13⟩, st13⟩ := X9.virtualBack hx (y := (⟨"com/example/lull/lull/runtime/ScriptError", "atLine", "(I)Lcom/example/lull/lull/runtime/ScriptError;"⟩ : MethodName)) (z := (⟨"com/example/lull/lull/runtime/ScriptError", "atLine", "(I)Lcom/example/lull/lull/runtime/ScriptError;"⟩ : MethodName)) hown2' (mvT hZ2' (hw _ (List.mem_of_getElem? (i := 77) rfl))) (mvT hZ2' (hw _ (List.mem_of_getElem? (i := 78) rfl))) (notFace_of_selects (args := #[]) (mvT hZ2' (hw _ (List.mem_of_getElem? (i := 80) rfl)))) (mvT hZ2' (hw _ (List.mem_of_getElem? (i := 80) rfl))) (mvT hZ2' (hw _ (List.mem_of_getElem? (i := 79) rfl))) (by decide) (backOf (W := 0) (rm6 l Z a0 hw [] b p3 f2 h8 n0 Zl8 Fc8 Eb8 gn) hZ2' (hw _ (List.mem_of_getElem? (i := 81) rfl)) (hw _ (List.mem_of_getElem? (i := 2) rfl)) (by decide) (by decide)) q13a q13c (g := (mkF m 124 #[.val (.int p1), .val (.int p2), .val (.int p3), .val (.int p4), .val (.int f1), .val (.int f2), .val (.ref b), .val (.ref b), .val (.ref b), .val (.int f2), .unset, .unset] [(.int p3), (.ref b)])) rfl (by rw [hml]; rfl) (Steps.refl _) (argsL := [(.int p3)]) (rest := []) (lenOf own_pd6 rfl) rfl (by show 2 * 0 + _ ≤ _; exact Nat.le_of_eq rfl) (hb hby at_124) (fun _ _ => ⟨rfl, e9, (by decide : 4 + 0 ≤ _), (by decide : 2779 + 0 ≤ _)⟩)
        dsimp only [Pt.U, Pt.locs, Pt.cells, Pt.slots] at X13 l13 y13 z13 st13 hQ13
        subst l13 y13 z13
        obtain ⟨rfl, Nc13, Kc13, Fc13⟩ := hQ13
        have N13 := Fr.app N9 Nc13
        obtain ⟨h13, e13⟩ : ∃ z, T13.heap = z := ⟨_, rfl⟩
        rw [e13] at Kc13 Fc13
        have Zl13 : n0 ≤ h13.size := Nat.le_trans Zl8 Kc13.1
        have Eb13 := Exa.keep Eb8 Kc13
        have hk13 := Nat.le_trans hk8 Kc13.1
        rw [if_neg hc124_10] at Fc13
        refine own_byW (f' := (mkF m 127 #[.val (.int p1), .val (.int p2), .val (.int p3), .val (.int p4), .val (.int f1), .val (.int f2), .val (.ref b), .val (.ref b), .val (.ref b), .val (.int f2), .unset, .unset] [(.ref b)])) (fun t h => st13.trans h) ?_
        refine own_byW (f' := (mkF m 129 #[.val (.int p1), .val (.int p2), .val (.int p3), .val (.int p4), .val (.int f1), .val (.int f2), .val (.ref b), .val (.ref b), .val (.ref b), .val (.int f2), .val (.ref b), .unset] [])) (fun t h => XS.astore X13.here hx rfl (hb hby at_127) rfl rfl (l' := #[.val (.int p1), .val (.int p2), .val (.int p3), .val (.int p4), .val (.int f1), .val (.int f2), .val (.ref b), .val (.ref b), .val (.ref b), .val (.int f2), .val (.ref b), .unset]) rfl h) ?_
        refine own_byW (f' := (mkF m 131 #[.val (.int p1), .val (.int p2), .val (.int p3), .val (.int p4), .val (.int f1), .val (.int f2), .val (.ref b), .val (.ref b), .val (.ref b), .val (.int f2), .val (.ref b), .unset] [(.ref b)])) (fun t h => XS.aload X13.here hx rfl (hb hby at_129) rfl rfl h) ?_
        refine own_byW (f' := (mkF m 133 #[.val (.int p1), .val (.int p2), .val (.int p3), .val (.int p4), .val (.int f1), .val (.int f2), .val (.ref b), .val (.ref b), .val (.ref b), .val (.int f2), .val (.ref b), .unset] [(.ref b), (.ref b)])) (fun t h => XS.aload X13.here hx rfl (hb hby at_131) rfl rfl h) ?_
        refine own_byW (f' := (mkF m 138 #[.val (.int p1), .val (.int p2), .val (.int p3), .val (.int p4), .val (.int f1), .val (.int f2), .val (.ref b), .val (.ref b), .val (.ref b), .val (.int f2), .val (.ref b), .unset] [])) (fun t h => Jvm.RoadKit.acmp (g := (mkF m 133 #[.val (.int p1), .val (.int p2), .val (.int p3), .val (.int p4), .val (.int f1), .val (.int f2), .val (.ref b), .val (.ref b), .val (.ref b), .val (.int f2), .val (.ref b), .unset] [(.ref b), (.ref b)])) X13 hx rfl rfl rfl (pc0 := 133) (pc' := 138) (same := true) rfl (hb hby at_133) rfl (decide_eq_true rfl) (by decide) (by decide) h) ?_
        refine own_byW (f' := (mkF m 140 #[.val (.int p1), .val (.int p2), .val (.int p3), .val (.int p4), .val (.int f1), .val (.int f2), .val (.ref b), .val (.ref b), .val (.ref b), .val (.int f2), .val (.ref b), .unset] [(.int f2)])) (fun t h => XS.iload X13.here hx rfl (hb hby at_138) rfl h) ?_
        refine own_byW (f' := (mkF m 147 #[.val (.int p1), .val (.int p2), .val (.int p3), .val (.int p4), .val (.int f1), .val (.int f2), .val (.ref b), .val (.ref b), .val (.ref b), .val (.int f2), .val (.ref b), .unset] [])) (fun t h => XS.ifYes X13.here hx rfl (pc0 := 140) (pc' := 147) rfl (hb hby at_140) rfl ((if0 _ _).trans (feq hc124_10).2) (by decide) (by decide) h) ?_
        refine own_byW (f' := (mkF m 149 #[.val (.int p1), .val (.int p2), .val (.int p3), .val (.int p4), .val (.int f1), .val (.int f2), .val (.ref b), .val (.ref b), .val (.ref b), .val (.int f2), .val (.ref b), .unset] [(.int f2)])) (fun t h => XS.iload X13.here hx rfl (hb hby at_147) rfl h) ?_
        refine own_byW (f' := (mkF m 151 #[.val (.int p1), .val (.int p2), .val (.int p3), .val (.int p4), .val (.int f1), .val (.int f2), .val (.ref b), .val (.ref b), .val (.ref b), .val (.int f2), .val (.ref b), .val (.int f2)] [])) (fun t h => XS.istore X13.here hx rfl (hb hby at_149) rfl (l' := #[.val (.int p1), .val (.int p2), .val (.int p3), .val (.int p4), .val (.int f1), .val (.int f2), .val (.ref b), .val (.ref b), .val (.ref b), .val (.int f2), .val (.ref b), .val (.int f2)]) rfl h) ?_
        refine own_byW (f' := (mkF m 153 #[.val (.int p1), .val (.int p2), .val (.int p3), .val (.int p4), .val (.int f1), .val (.int f2), .val (.ref b), .val (.ref b), .val (.ref b), .val (.int f2), .val (.ref b), .val (.int f2)] [(.ref b)])) (fun t h => XS.aload X13.here hx rfl (hb hby at_151) rfl rfl h) ?_
        obtain ⟨cq14, kq14, q14a, q14b, q14c⟩ := isOf hZ2' e13 Eb13
        obtain ⟨v14, _, ⟨T14, L14, k14, n14⟩, -, X14, ⟨Lc14, hQ14, l14, y14, z14⟩, st14⟩ := X13.virtualBack hx (y := (⟨"com/example/lull/lull/runtime/ScriptError", "line", "()I"⟩ : MethodName)) (z := (⟨"com/example/lull/lull/runtime/ScriptError", "line", "()I"⟩ : MethodName)) hown2' (mvT hZ2' (hw _ (List.mem_of_getElem? (i := 70) rfl))) (mvT hZ2' (hw _ (List.mem_of_getElem? (i := 71) rfl))) (notFace_of_selects (args := #[]) (mvT hZ2' (hw _ (List.mem_of_getElem? (i := 73) rfl)))) (mvT hZ2' (hw _ (List.mem_of_getElem? (i := 73) rfl))) (mvT hZ2' (hw _ (List.mem_of_getElem? (i := 72) rfl))) (by decide) (backOf (W := 0) (rm5 l Z a0 hw [] b f2 h13 n0 Zl13 Fc13) hZ2' (hw _ (List.mem_of_getElem? (i := 74) rfl)) (hw _ (List.mem_of_getElem? (i := 2) rfl)) (by decide) (by decide)) q14a q14c (g := (mkF m 153 #[.val (.int p1), .val (.int p2), .val (.int p3), .val (.int p4), .val (.int f1), .val (.int f2), .val (.ref b), .val (.ref b), .val (.ref b), .val (.int f2), .val (.ref b), .val (.int f2)] [(.ref b)])) rfl (by rw [hml]; rfl) (Steps.refl _) (argsL := []) (rest := []) (lenOf own_pd5 rfl) rfl (by show 2 * 0 + _ ≤ _; exact Nat.le_of_eq rfl) (hb hby at_153) (fun _ _ => ⟨rfl, e13, (by decide : 4 + 0 ≤ _), (by decide : 2779 + 0 ≤ _)⟩)
        dsimp only [Pt.U, Pt.locs, Pt.cells, Pt.slots] at X14 l14 y14 z14 st14 hQ14
        subst l14 y14 z14
        obtain ⟨hv14, Nc14, e14⟩ := hQ14
        have N14 := Fr.app N13 Nc14
        obtain rfl : v14 = some (.int f2) := hv14
        refine own_byW (f' := (mkF m 156 #[.val (.int p1), .val (.int p2), .val (.int p3), .val (.int p4), .val (.int f1), .val (.int f2), .val (.ref b), .val (.ref b), .val (.ref b), .val (.int f2), .val (.ref b), .val (.int f2)] [(.int f2)])) (fun t h => st14.trans h) ?_
        refine own_byW (f' := (mkF m 158 #[.val (.int p1), .val (.int p2), .val (.int p3), .val (.int p4), .val (.int f1), .val (.int f2), .val (.ref b), .val (.ref b), .val (.ref b), .val (.int f2), .val (.ref b), .val (.int f2)] [(.int f2), (.int f2)])) (fun t h => XS.iload X14.here hx rfl (hb hby at_156) rfl h) ?_
        refine own_byW (f' := (mkF m 161 #[.val (.int p1), .val (.int p2), .val (.int p3), .val (.int p4), .val (.int f1), .val (.int f2), .val (.ref b), .val (.ref b), .val (.ref b), .val (.int f2), .val (.ref b), .val (.int f2)] [])) (fun t h => XS.icmpNo X14.here hx rfl (hb hby at_158) rfl (teq (rfl : f2 = f2)).2 h) ?_
        refine own_byW (f' := (mkF m 162 #[.val (.int p1), .val (.int p2), .val (.int p3), .val (.int p4), .val (.int f1), .val (.int f2), .val (.ref b), .val (.ref b), .val (.ref b), .val (.int f2), .val (.ref b), .val (.int f2)] [(.int (1 : Int32))])) (fun t h => XS.iconst X14.here hx rfl (hb hby at_161) h) ?_
        refine own_byW (f' := (mkF m 166 #[.val (.int p1), .val (.int p2), .val (.int p3), .val (.int p4), .val (.int f1), .val (.int f2), .val (.ref b), .val (.ref b), .val (.ref b), .val (.int f2), .val (.ref b), .val (.int f2)] [(.int (1 : Int32))])) (fun t h => XS.goto X14.here hx rfl (pc0 := 162) (pc' := 166) rfl (hb hby at_162) (by decide) (by decide) h) ?_
        obtain ⟨fs, hr, hrun, hended, hR, hW, hB, hsame⟩ := X14.leaveW hS2 (by rw [e14]; exact hk13) (v := some (.int (1 : Int32))) (fun h => by rw [Bd.returns] at h; cases h)
        refine own_mkW ⟨_, _, retN X14 hx (t := .boolean) Bd.returns (by simp) (hb hby at_166) hr, hrun, hended, _, _, rfl, ?_, hR, hW, hB, hsame.mono (by decide) (by decide)⟩
        show Q0 n0 _ T14.heap _
        rw [e14]
        exact ⟨rfl, N14⟩
    · obtain ⟨cq15, kq15, q15a, q15b, q15c⟩ := isOf hZ2' e6 Eb5
      obtain ⟨v15, _, ⟨T15, L15, k15, n15⟩, -, X15, ⟨Lc15, hQ15, l15, y15, z15⟩, st15⟩ := X6.virtualBack hx (y := (⟨"com/example/lull/lull/runtime/ScriptError", "atLine", "(I)Lcom/example/lull/lull/runtime/ScriptError;"⟩ : MethodName)) (z := (⟨"com/example/lull/lull/runtime/ScriptError", "atLine", "(I)Lcom/example/lull/lull/runtime/ScriptError;"⟩ : MethodName)) hown2' (mvT hZ2' (hw _ (List.mem_of_getElem? (i := 77) rfl))) (mvT hZ2' (hw _ (List.mem_of_getElem? (i := 78) rfl))) (notFace_of_selects (args := #[]) (mvT hZ2' (hw _ (List.mem_of_getElem? (i := 80) rfl)))) (mvT hZ2' (hw _ (List.mem_of_getElem? (i := 80) rfl))) (mvT hZ2' (hw _ (List.mem_of_getElem? (i := 79) rfl))) (by decide) (backOf (W := 0) (rm6 l Z a0 hw [] b f2 f1 h5 n0 Zl5 Fc5 Eb5 gn) hZ2' (hw _ (List.mem_of_getElem? (i := 81) rfl)) (hw _ (List.mem_of_getElem? (i := 2) rfl)) (by decide) (by decide)) q15a q15c (g := (mkF m 81 #[.val (.int p1), .val (.int p2), .val (.int p3), .val (.int p4), .val (.int f1), .val (.int f2), .val (.ref b), .val (.ref b), .unset, .unset, .unset, .unset] [(.int f2), (.ref b)])) rfl (by rw [hml]; rfl) (Steps.refl _) (argsL := [(.int f2)]) (rest := []) (lenOf own_pd6 rfl) rfl (by show 2 * 0 + _ ≤ _; exact Nat.le_of_eq rfl) (hb hby at_81) (fun _ _ => ⟨rfl, e6, (by decide : 4 + 0 ≤ _), (by decide : 2779 + 0 ≤ _)⟩)
      dsimp only [Pt.U, Pt.locs, Pt.cells, Pt.slots] at X15 l15 y15 z15 st15 hQ15
      subst l15 y15 z15
      obtain ⟨rfl, Nc15, Kc15, Fc15⟩ := hQ15
      have N15 := Fr.app N6 Nc15
      obtain ⟨h15, e15⟩ : ∃ z, T15.heap = z := ⟨_, rfl⟩
      rw [e15] at Kc15 Fc15
      have Zl15 : n0 ≤ h15.size := Nat.le_trans Zl5 Kc15.1
      have Eb15 := Exa.keep Eb5 Kc15
      have hk15 := Nat.le_trans hk5 Kc15.1
      rw [if_neg hc81_7] at Fc15
      refine own_byW (f' := (mkF m 84 #[.val (.int p1), .val (.int p2), .val (.int p3), .val (.int p4), .val (.int f1), .val (.int f2), .val (.ref b), .val (.ref b), .unset, .unset, .unset, .unset] [(.ref b)])) (fun t h => st15.trans h) ?_
      refine own_byW (f' := (mkF m 86 #[.val (.int p1), .val (.int p2), .val (.int p3), .val (.int p4), .val (.int f1), .val (.int f2), .val (.ref b), .val (.ref b), .val (.ref b), .unset, .unset, .unset] [])) (fun t h => XS.astore X15.here hx rfl (hb hby at_84) rfl rfl (l' := #[.val (.int p1), .val (.int p2), .val (.int p3), .val (.int p4), .val (.int f1), .val (.int f2), .val (.ref b), .val (.ref b), .val (.ref b), .unset, .unset, .unset]) rfl h) ?_
      refine own_byW (f' := (mkF m 88 #[.val (.int p1), .val (.int p2), .val (.int p3), .val (.int p4), .val (.int f1), .val (.int f2), .val (.ref b), .val (.ref b), .val (.ref b), .unset, .unset, .unset] [(.ref b)])) (fun t h => XS.aload X15.here hx rfl (hb hby at_86) rfl rfl h) ?_
      refine own_byW (f' := (mkF m 90 #[.val (.int p1), .val (.int p2), .val (.int p3), .val (.int p4), .val (.int f1), .val (.int f2), .val (.ref b), .val (.ref b), .val (.ref b), .unset, .unset, .unset] [(.ref b), (.ref b)])) (fun t h => XS.aload X15.here hx rfl (hb hby at_88) rfl rfl h) ?_
      refine own_byW (f' := (mkF m 95 #[.val (.int p1), .val (.int p2), .val (.int p3), .val (.int p4), .val (.int f1), .val (.int f2), .val (.ref b), .val (.ref b), .val (.ref b), .unset, .unset, .unset] [])) (fun t h => Jvm.RoadKit.acmp (g := (mkF m 90 #[.val (.int p1), .val (.int p2), .val (.int p3), .val (.int p4), .val (.int f1), .val (.int f2), .val (.ref b), .val (.ref b), .val (.ref b), .unset, .unset, .unset] [(.ref b), (.ref b)])) X15 hx rfl rfl rfl (pc0 := 90) (pc' := 95) (same := true) rfl (hb hby at_90) rfl (decide_eq_true rfl) (by decide) (by decide) h) ?_
      refine own_byW (f' := (mkF m 97 #[.val (.int p1), .val (.int p2), .val (.int p3), .val (.int p4), .val (.int f1), .val (.int f2), .val (.ref b), .val (.ref b), .val (.ref b), .unset, .unset, .unset] [(.int f1)])) (fun t h => XS.iload X15.here hx rfl (hb hby at_95) rfl h) ?_
      refine own_byW (f' := (mkF m 105 #[.val (.int p1), .val (.int p2), .val (.int p3), .val (.int p4), .val (.int f1), .val (.int f2), .val (.ref b), .val (.ref b), .val (.ref b), .unset, .unset, .unset] [])) (fun t h => XS.ifYes X15.here hx rfl (pc0 := 97) (pc' := 105) rfl (hb hby at_97) rfl ((if0 _ _).trans (feq hc81_7).2) (by decide) (by decide) h) ?_
      refine own_byW (f' := (mkF m 107 #[.val (.int p1), .val (.int p2), .val (.int p3), .val (.int p4), .val (.int f1), .val (.int f2), .val (.ref b), .val (.ref b), .val (.ref b), .unset, .unset, .unset] [(.int f1)])) (fun t h => XS.iload X15.here hx rfl (hb hby at_105) rfl h) ?_
      refine own_byW (f' := (mkF m 109 #[.val (.int p1), .val (.int p2), .val (.int p3), .val (.int p4), .val (.int f1), .val (.int f2), .val (.ref b), .val (.ref b), .val (.ref b), .val (.int f1), .unset, .unset] [])) (fun t h => XS.istore X15.here hx rfl (hb hby at_107) rfl (l' := #[.val (.int p1), .val (.int p2), .val (.int p3), .val (.int p4), .val (.int f1), .val (.int f2), .val (.ref b), .val (.ref b), .val (.ref b), .val (.int f1), .unset, .unset]) rfl h) ?_
      refine own_byW (f' := (mkF m 111 #[.val (.int p1), .val (.int p2), .val (.int p3), .val (.int p4), .val (.int f1), .val (.int f2), .val (.ref b), .val (.ref b), .val (.ref b), .val (.int f1), .unset, .unset] [(.ref b)])) (fun t h => XS.aload X15.here hx rfl (hb hby at_109) rfl rfl h) ?_
      obtain ⟨cq16, kq16, q16a, q16b, q16c⟩ := isOf hZ2' e15 Eb15
      obtain ⟨v16, _, ⟨T16, L16, k16, n16⟩, -, X16, ⟨Lc16, hQ16, l16, y16, z16⟩, st16⟩ := X15.virtualBack hx (y := (⟨"com/example/lull/lull/runtime/ScriptError", "line", "()I"⟩ : MethodName)) (z := (⟨"com/example/lull/lull/runtime/ScriptError", "line", "()I"⟩ : MethodName)) hown2' (mvT hZ2' (hw _ (List.mem_of_getElem? (i := 70) rfl))) (mvT hZ2' (hw _ (List.mem_of_getElem? (i := 71) rfl))) (notFace_of_selects (args := #[]) (mvT hZ2' (hw _ (List.mem_of_getElem? (i := 73) rfl)))) (mvT hZ2' (hw _ (List.mem_of_getElem? (i := 73) rfl))) (mvT hZ2' (hw _ (List.mem_of_getElem? (i := 72) rfl))) (by decide) (backOf (W := 0) (rm5 l Z a0 hw [] b f1 h15 n0 Zl15 Fc15) hZ2' (hw _ (List.mem_of_getElem? (i := 74) rfl)) (hw _ (List.mem_of_getElem? (i := 2) rfl)) (by decide) (by decide)) q16a q16c (g := (mkF m 111 #[.val (.int p1), .val (.int p2), .val (.int p3), .val (.int p4), .val (.int f1), .val (.int f2), .val (.ref b), .val (.ref b), .val (.ref b), .val (.int f1), .unset, .unset] [(.ref b)])) rfl (by rw [hml]; rfl) (Steps.refl _) (argsL := []) (rest := []) (lenOf own_pd5 rfl) rfl (by show 2 * 0 + _ ≤ _; exact Nat.le_of_eq rfl) (hb hby at_111) (fun _ _ => ⟨rfl, e15, (by decide : 4 + 0 ≤ _), (by decide : 2779 + 0 ≤ _)⟩)
      dsimp only [Pt.U, Pt.locs, Pt.cells, Pt.slots] at X16 l16 y16 z16 st16 hQ16
      subst l16 y16 z16
      obtain ⟨hv16, Nc16, e16⟩ := hQ16
      have N16 := Fr.app N15 Nc16
      obtain rfl : v16 = some (.int f1) := hv16
      refine own_byW (f' := (mkF m 114 #[.val (.int p1), .val (.int p2), .val (.int p3), .val (.int p4), .val (.int f1), .val (.int f2), .val (.ref b), .val (.ref b), .val (.ref b), .val (.int f1), .unset, .unset] [(.int f1)])) (fun t h => st16.trans h) ?_
      refine own_byW (f' := (mkF m 116 #[.val (.int p1), .val (.int p2), .val (.int p3), .val (.int p4), .val (.int f1), .val (.int f2), .val (.ref b), .val (.ref b), .val (.ref b), .val (.int f1), .unset, .unset] [(.int f1), (.int f1)])) (fun t h => XS.iload X16.here hx rfl (hb hby at_114) rfl h) ?_
      refine own_byW (f' := (mkF m 121 #[.val (.int p1), .val (.int p2), .val (.int p3), .val (.int p4), .val (.int f1), .val (.int f2), .val (.ref b), .val (.ref b), .val (.ref b), .val (.int f1), .unset, .unset] [])) (fun t h => XS.icmpYes X16.here hx rfl (pc0 := 116) (pc' := 121) rfl (hb hby at_116) rfl (teq (rfl : f1 = f1)).1 (by decide) (by decide) h) ?_
      refine own_byW (f' := (mkF m 123 #[.val (.int p1), .val (.int p2), .val (.int p3), .val (.int p4), .val (.int f1), .val (.int f2), .val (.ref b), .val (.ref b), .val (.ref b), .val (.int f1), .unset, .unset] [(.ref b)])) (fun t h => XS.aload X16.here hx rfl (hb hby at_121) rfl rfl h) ?_
      refine own_byW (f' := (mkF m 124 #[.val (.int p1), .val (.int p2), .val (.int p3), .val (.int p4), .val (.int f1), .val (.int f2), .val (.ref b), .val (.ref b), .val (.ref b), .val (.int f1), .unset, .unset] [(.int p3), (.ref b)])) (fun t h => XS.iloadN X16.here hx rfl (hb hby at_123) rfl h) ?_
      obtain ⟨cq17, kq17, q17a, q17b, q17c⟩ := isOf hZ2' e16 Eb15
      obtain ⟨v17, _, ⟨T17, L17, k17, n17⟩, -, X17, ⟨Lc17, hQ17, l17, y17, z17⟩, st17⟩ := X16.virtualBack hx (y := (⟨"com/example/lull/lull/runtime/ScriptError", "atLine", "(I)Lcom/example/lull/lull/runtime/ScriptError;"⟩ : MethodName)) (z := (⟨"com/example/lull/lull/runtime/ScriptError", "atLine", "(I)Lcom/example/lull/lull/runtime/ScriptError;"⟩ : MethodName)) hown2' (mvT hZ2' (hw _ (List.mem_of_getElem? (i := 77) rfl))) (mvT hZ2' (hw _ (List.mem_of_getElem? (i := 78) rfl))) (notFace_of_selects (args := #[]) (mvT hZ2' (hw _ (List.mem_of_getElem? (i := 80) rfl)))) (mvT hZ2' (hw _ (List.mem_of_getElem? (i := 80) rfl))) (mvT hZ2' (hw _ (List.mem_of_getElem? (i := 79) rfl))) (by decide) (backOf (W := 0) (rm6 l Z a0 hw [] b p3 f1 h15 n0 Zl15 Fc15 Eb15 gn) hZ2' (hw _ (List.mem_of_getElem? (i := 81) rfl)) (hw _ (List.mem_of_getElem? (i := 2) rfl)) (by decide) (by decide)) q17a q17c (g := (mkF m 124 #[.val (.int p1), .val (.int p2), .val (.int p3), .val (.int p4), .val (.int f1), .val (.int f2), .val (.ref b), .val (.ref b), .val (.ref b), .val (.int f1), .unset, .unset] [(.int p3), (.ref b)])) rfl (by rw [hml]; rfl) (Steps.refl _) (argsL := [(.int p3)]) (rest := []) (lenOf own_pd6 rfl) rfl (by show 2 * 0 + _ ≤ _; exact Nat.le_of_eq rfl) (hb hby at_124) (fun _ _ => ⟨rfl, e16, (by decide : 4 + 0 ≤ _), (by decide : 2779 + 0 ≤ _)⟩)
      dsimp only [Pt.U, Pt.locs, Pt.cells, Pt.slots] at X17 l17 y17 z17 st17 hQ17
      subst l17 y17 z17
      obtain ⟨rfl, Nc17, Kc17, Fc17⟩ := hQ17
      have N17 := Fr.app N16 Nc17
      obtain ⟨h17, e17⟩ : ∃ z, T17.heap = z := ⟨_, rfl⟩
      rw [e17] at Kc17 Fc17
      have Zl17 : n0 ≤ h17.size := Nat.le_trans Zl15 Kc17.1
      have Eb17 := Exa.keep Eb15 Kc17
      have hk17 := Nat.le_trans hk15 Kc17.1
      rw [if_neg hc81_7] at Fc17
      refine own_byW (f' := (mkF m 127 #[.val (.int p1), .val (.int p2), .val (.int p3), .val (.int p4), .val (.int f1), .val (.int f2), .val (.ref b), .val (.ref b), .val (.ref b), .val (.int f1), .unset, .unset] [(.ref b)])) (fun t h => st17.trans h) ?_
      refine own_byW (f' := (mkF m 129 #[.val (.int p1), .val (.int p2), .val (.int p3), .val (.int p4), .val (.int f1), .val (.int f2), .val (.ref b), .val (.ref b), .val (.ref b), .val (.int f1), .val (.ref b), .unset] [])) (fun t h => XS.astore X17.here hx rfl (hb hby at_127) rfl rfl (l' := #[.val (.int p1), .val (.int p2), .val (.int p3), .val (.int p4), .val (.int f1), .val (.int f2), .val (.ref b), .val (.ref b), .val (.ref b), .val (.int f1), .val (.ref b), .unset]) rfl h) ?_
      refine own_byW (f' := (mkF m 131 #[.val (.int p1), .val (.int p2), .val (.int p3), .val (.int p4), .val (.int f1), .val (.int f2), .val (.ref b), .val (.ref b), .val (.ref b), .val (.int f1), .val (.ref b), .unset] [(.ref b)])) (fun t h => XS.aload X17.here hx rfl (hb hby at_129) rfl rfl h) ?_
      refine own_byW (f' := (mkF m 133 #[.val (.int p1), .val (.int p2), .val (.int p3), .val (.int p4), .val (.int f1), .val (.int f2), .val (.ref b), .val (.ref b), .val (.ref b), .val (.int f1), .val (.ref b), .unset] [(.ref b), (.ref b)])) (fun t h => XS.aload X17.here hx rfl (hb hby at_131) rfl rfl h) ?_
      refine own_byW (f' := (mkF m 138 #[.val (.int p1), .val (.int p2), .val (.int p3), .val (.int p4), .val (.int f1), .val (.int f2), .val (.ref b), .val (.ref b), .val (.ref b), .val (.int f1), .val (.ref b), .unset] [])) (fun t h => Jvm.RoadKit.acmp (g := (mkF m 133 #[.val (.int p1), .val (.int p2), .val (.int p3), .val (.int p4), .val (.int f1), .val (.int f2), .val (.ref b), .val (.ref b), .val (.ref b), .val (.int f1), .val (.ref b), .unset] [(.ref b), (.ref b)])) X17 hx rfl rfl rfl (pc0 := 133) (pc' := 138) (same := true) rfl (hb hby at_133) rfl (decide_eq_true rfl) (by decide) (by decide) h) ?_
      refine own_byW (f' := (mkF m 140 #[.val (.int p1), .val (.int p2), .val (.int p3), .val (.int p4), .val (.int f1), .val (.int f2), .val (.ref b), .val (.ref b), .val (.ref b), .val (.int f1), .val (.ref b), .unset] [(.int f1)])) (fun t h => XS.iload X17.here hx rfl (hb hby at_138) rfl h) ?_
      refine own_byW (f' := (mkF m 147 #[.val (.int p1), .val (.int p2), .val (.int p3), .val (.int p4), .val (.int f1), .val (.int f2), .val (.ref b), .val (.ref b), .val (.ref b), .val (.int f1), .val (.ref b), .unset] [])) (fun t h => XS.ifYes X17.here hx rfl (pc0 := 140) (pc' := 147) rfl (hb hby at_140) rfl ((if0 _ _).trans (feq hc81_7).2) (by decide) (by decide) h) ?_
      refine own_byW (f' := (mkF m 149 #[.val (.int p1), .val (.int p2), .val (.int p3), .val (.int p4), .val (.int f1), .val (.int f2), .val (.ref b), .val (.ref b), .val (.ref b), .val (.int f1), .val (.ref b), .unset] [(.int f1)])) (fun t h => XS.iload X17.here hx rfl (hb hby at_147) rfl h) ?_
      refine own_byW (f' := (mkF m 151 #[.val (.int p1), .val (.int p2), .val (.int p3), .val (.int p4), .val (.int f1), .val (.int f2), .val (.ref b), .val (.ref b), .val (.ref b), .val (.int f1), .val (.ref b), .val (.int f1)] [])) (fun t h => XS.istore X17.here hx rfl (hb hby at_149) rfl (l' := #[.val (.int p1), .val (.int p2), .val (.int p3), .val (.int p4), .val (.int f1), .val (.int f2), .val (.ref b), .val (.ref b), .val (.ref b), .val (.int f1), .val (.ref b), .val (.int f1)]) rfl h) ?_
      refine own_byW (f' := (mkF m 153 #[.val (.int p1), .val (.int p2), .val (.int p3), .val (.int p4), .val (.int f1), .val (.int f2), .val (.ref b), .val (.ref b), .val (.ref b), .val (.int f1), .val (.ref b), .val (.int f1)] [(.ref b)])) (fun t h => XS.aload X17.here hx rfl (hb hby at_151) rfl rfl h) ?_
      obtain ⟨cq18, kq18, q18a, q18b, q18c⟩ := isOf hZ2' e17 Eb17
      obtain ⟨v18, _, ⟨T18, L18, k18, n18⟩, -, X18, ⟨Lc18, hQ18, l18, y18, z18⟩, st18⟩ := X17.virtualBack hx (y := (⟨"com/example/lull/lull/runtime/ScriptError", "line", "()I"⟩ : MethodName)) (z := (⟨"com/example/lull/lull/runtime/ScriptError", "line", "()I"⟩ : MethodName)) hown2' (mvT hZ2' (hw _ (List.mem_of_getElem? (i := 70) rfl))) (mvT hZ2' (hw _ (List.mem_of_getElem? (i := 71) rfl))) (notFace_of_selects (args := #[]) (mvT hZ2' (hw _ (List.mem_of_getElem? (i := 73) rfl)))) (mvT hZ2' (hw _ (List.mem_of_getElem? (i := 73) rfl))) (mvT hZ2' (hw _ (List.mem_of_getElem? (i := 72) rfl))) (by decide) (backOf (W := 0) (rm5 l Z a0 hw [] b f1 h17 n0 Zl17 Fc17) hZ2' (hw _ (List.mem_of_getElem? (i := 74) rfl)) (hw _ (List.mem_of_getElem? (i := 2) rfl)) (by decide) (by decide)) q18a q18c (g := (mkF m 153 #[.val (.int p1), .val (.int p2), .val (.int p3), .val (.int p4), .val (.int f1), .val (.int f2), .val (.ref b), .val (.ref b), .val (.ref b), .val (.int f1), .val (.ref b), .val (.int f1)] [(.ref b)])) rfl (by rw [hml]; rfl) (Steps.refl _) (argsL := []) (rest := []) (lenOf own_pd5 rfl) rfl (by show 2 * 0 + _ ≤ _; exact Nat.le_of_eq rfl) (hb hby at_153) (fun _ _ => ⟨rfl, e17, (by decide : 4 + 0 ≤ _), (by decide : 2779 + 0 ≤ _)⟩)
      dsimp only [Pt.U, Pt.locs, Pt.cells, Pt.slots] at X18 l18 y18 z18 st18 hQ18
      subst l18 y18 z18
      obtain ⟨hv18, Nc18, e18⟩ := hQ18
      have N18 := Fr.app N17 Nc18
      obtain rfl : v18 = some (.int f1) := hv18
      refine own_byW (f' := (mkF m 156 #[.val (.int p1), .val (.int p2), .val (.int p3), .val (.int p4), .val (.int f1), .val (.int f2), .val (.ref b), .val (.ref b), .val (.ref b), .val (.int f1), .val (.ref b), .val (.int f1)] [(.int f1)])) (fun t h => st18.trans h) ?_
      refine own_byW (f' := (mkF m 158 #[.val (.int p1), .val (.int p2), .val (.int p3), .val (.int p4), .val (.int f1), .val (.int f2), .val (.ref b), .val (.ref b), .val (.ref b), .val (.int f1), .val (.ref b), .val (.int f1)] [(.int f1), (.int f1)])) (fun t h => XS.iload X18.here hx rfl (hb hby at_156) rfl h) ?_
      refine own_byW (f' := (mkF m 161 #[.val (.int p1), .val (.int p2), .val (.int p3), .val (.int p4), .val (.int f1), .val (.int f2), .val (.ref b), .val (.ref b), .val (.ref b), .val (.int f1), .val (.ref b), .val (.int f1)] [])) (fun t h => XS.icmpNo X18.here hx rfl (hb hby at_158) rfl (teq (rfl : f1 = f1)).2 h) ?_
      refine own_byW (f' := (mkF m 162 #[.val (.int p1), .val (.int p2), .val (.int p3), .val (.int p4), .val (.int f1), .val (.int f2), .val (.ref b), .val (.ref b), .val (.ref b), .val (.int f1), .val (.ref b), .val (.int f1)] [(.int (1 : Int32))])) (fun t h => XS.iconst X18.here hx rfl (hb hby at_161) h) ?_
      refine own_byW (f' := (mkF m 166 #[.val (.int p1), .val (.int p2), .val (.int p3), .val (.int p4), .val (.int f1), .val (.int f2), .val (.ref b), .val (.ref b), .val (.ref b), .val (.int f1), .val (.ref b), .val (.int f1)] [(.int (1 : Int32))])) (fun t h => XS.goto X18.here hx rfl (pc0 := 162) (pc' := 166) rfl (hb hby at_162) (by decide) (by decide) h) ?_
      obtain ⟨fs, hr, hrun, hended, hR, hW, hB, hsame⟩ := X18.leaveW hS2 (by rw [e18]; exact hk17) (v := some (.int (1 : Int32))) (fun h => by rw [Bd.returns] at h; cases h)
      refine own_mkW ⟨_, _, retN X18 hx (t := .boolean) Bd.returns (by simp) (hb hby at_166) hr, hrun, hended, _, _, rfl, ?_, hR, hW, hB, hsame.mono (by decide) (by decide)⟩
      show Q0 n0 _ T18.heap _
      rw [e18]
      exact ⟨rfl, N18⟩
  refine own_byW (f' := (mkF m 1 #[.val (.int p1), .val (.int p2), .val (.int p3), .val (.int p4), .unset, .unset, .unset, .unset, .unset, .unset, .unset, .unset] [(.int p4)])) (fun t h => XS.iloadN X0.here hx rfl (hb hby at_0) rfl h) ?_
  refine own_byW (f' := (mkF m 2 #[.val (.int p1), .val (.int p2), .val (.int p3), .val (.int p4), .unset, .unset, .unset, .unset, .unset, .unset, .unset, .unset] [(.int (1 : Int32)), (.int p4)])) (fun t h => XS.iconst X0.here hx rfl (hb hby at_1) h) ?_
  refine own_byW (f' := (mkF m 3 #[.val (.int p1), .val (.int p2), .val (.int p3), .val (.int p4), .unset, .unset, .unset, .unset, .unset, .unset, .unset, .unset] [(.int (p4 &&& (1 : Int32)))])) (fun t h => XS.iand X0.here hx rfl (hb hby at_2) rfl h) ?_
  by_cases hc3_19 : (p4 &&& (1 : Int32)) = (0 : Int32)
  · refine own_byW (f' := (mkF m 10 #[.val (.int p1), .val (.int p2), .val (.int p3), .val (.int p4), .unset, .unset, .unset, .unset, .unset, .unset, .unset, .unset] [])) (fun t h => XS.ifYes X0.here hx rfl (pc0 := 3) (pc' := 10) rfl (hb hby at_3) rfl ((if0 _ _).trans (teq hc3_19).1) (by decide) (by decide) h) ?_
    refine own_byW (f' := (mkF m 11 #[.val (.int p1), .val (.int p2), .val (.int p3), .val (.int p4), .unset, .unset, .unset, .unset, .unset, .unset, .unset, .unset] [(.int p1)])) (fun t h => XS.iloadN X0.here hx rfl (hb hby at_10) rfl h) ?_
    refine own_byW (f' := (mkF m 13 #[.val (.int p1), .val (.int p2), .val (.int p3), .val (.int p4), .val (.int p1), .unset, .unset, .unset, .unset, .unset, .unset, .unset] [])) (fun t h => XS.istore X0.here hx rfl (hb hby at_11) rfl (l' := #[.val (.int p1), .val (.int p2), .val (.int p3), .val (.int p4), .val (.int p1), .unset, .unset, .unset, .unset, .unset, .unset, .unset]) rfl h) ?_
    refine own_byW (f' := (mkF m 14 #[.val (.int p1), .val (.int p2), .val (.int p3), .val (.int p4), .val (.int p1), .unset, .unset, .unset, .unset, .unset, .unset, .unset] [(.int p4)])) (fun t h => XS.iloadN X0.here hx rfl (hb hby at_13) rfl h) ?_
    refine own_byW (f' := (mkF m 15 #[.val (.int p1), .val (.int p2), .val (.int p3), .val (.int p4), .val (.int p1), .unset, .unset, .unset, .unset, .unset, .unset, .unset] [(.int (2 : Int32)), (.int p4)])) (fun t h => XS.iconst X0.here hx rfl (hb hby at_14) h) ?_
    refine own_byW (f' := (mkF m 16 #[.val (.int p1), .val (.int p2), .val (.int p3), .val (.int p4), .val (.int p1), .unset, .unset, .unset, .unset, .unset, .unset, .unset] [(.int (p4 &&& (2 : Int32)))])) (fun t h => XS.iand X0.here hx rfl (hb hby at_15) rfl h) ?_
    by_cases hc16_20 : (p4 &&& (2 : Int32)) = (0 : Int32)
    · refine own_byW (f' := (mkF m 23 #[.val (.int p1), .val (.int p2), .val (.int p3), .val (.int p4), .val (.int p1), .unset, .unset, .unset, .unset, .unset, .unset, .unset] [])) (fun t h => XS.ifYes X0.here hx rfl (pc0 := 16) (pc' := 23) rfl (hb hby at_16) rfl ((if0 _ _).trans (teq hc16_20).1) (by decide) (by decide) h) ?_
      refine own_byW (f' := (mkF m 24 #[.val (.int p1), .val (.int p2), .val (.int p3), .val (.int p4), .val (.int p1), .unset, .unset, .unset, .unset, .unset, .unset, .unset] [(.int p2)])) (fun t h => XS.iloadN X0.here hx rfl (hb hby at_23) rfl h) ?_
      refine own_byW (f' := (mkF m 26 #[.val (.int p1), .val (.int p2), .val (.int p3), .val (.int p4), .val (.int p1), .val (.int p2), .unset, .unset, .unset, .unset, .unset, .unset] [])) (fun t h => XS.istore X0.here hx rfl (hb hby at_24) rfl (l' := #[.val (.int p1), .val (.int p2), .val (.int p3), .val (.int p4), .val (.int p1), .val (.int p2), .unset, .unset, .unset, .unset, .unset, .unset]) rfl h) ?_
      exact K _ _
    · refine own_byW (f' := (mkF m 19 #[.val (.int p1), .val (.int p2), .val (.int p3), .val (.int p4), .val (.int p1), .unset, .unset, .unset, .unset, .unset, .unset, .unset] [])) (fun t h => XS.ifNo X0.here hx rfl (hb hby at_16) rfl ((if0 _ _).trans (feq hc16_20).1) h) ?_
      refine own_byW (f' := (mkF m 20 #[.val (.int p1), .val (.int p2), .val (.int p3), .val (.int p4), .val (.int p1), .unset, .unset, .unset, .unset, .unset, .unset, .unset] [(.int (0 : Int32))])) (fun t h => XS.iconst X0.here hx rfl (hb hby at_19) h) ?_
      refine own_byW (f' := (mkF m 24 #[.val (.int p1), .val (.int p2), .val (.int p3), .val (.int p4), .val (.int p1), .unset, .unset, .unset, .unset, .unset, .unset, .unset] [(.int (0 : Int32))])) (fun t h => XS.goto X0.here hx rfl (pc0 := 20) (pc' := 24) rfl (hb hby at_20) (by decide) (by decide) h) ?_
      refine own_byW (f' := (mkF m 26 #[.val (.int p1), .val (.int p2), .val (.int p3), .val (.int p4), .val (.int p1), .val (.int (0 : Int32)), .unset, .unset, .unset, .unset, .unset, .unset] [])) (fun t h => XS.istore X0.here hx rfl (hb hby at_24) rfl (l' := #[.val (.int p1), .val (.int p2), .val (.int p3), .val (.int p4), .val (.int p1), .val (.int (0 : Int32)), .unset, .unset, .unset, .unset, .unset, .unset]) rfl h) ?_
      exact K _ _
  · refine own_byW (f' := (mkF m 6 #[.val (.int p1), .val (.int p2), .val (.int p3), .val (.int p4), .unset, .unset, .unset, .unset, .unset, .unset, .unset, .unset] [])) (fun t h => XS.ifNo X0.here hx rfl (hb hby at_3) rfl ((if0 _ _).trans (feq hc3_19).1) h) ?_
    refine own_byW (f' := (mkF m 7 #[.val (.int p1), .val (.int p2), .val (.int p3), .val (.int p4), .unset, .unset, .unset, .unset, .unset, .unset, .unset, .unset] [(.int (0 : Int32))])) (fun t h => XS.iconst X0.here hx rfl (hb hby at_6) h) ?_
    refine own_byW (f' := (mkF m 11 #[.val (.int p1), .val (.int p2), .val (.int p3), .val (.int p4), .unset, .unset, .unset, .unset, .unset, .unset, .unset, .unset] [(.int (0 : Int32))])) (fun t h => XS.goto X0.here hx rfl (pc0 := 7) (pc' := 11) rfl (hb hby at_7) (by decide) (by decide) h) ?_
    refine own_byW (f' := (mkF m 13 #[.val (.int p1), .val (.int p2), .val (.int p3), .val (.int p4), .val (.int (0 : Int32)), .unset, .unset, .unset, .unset, .unset, .unset, .unset] [])) (fun t h => XS.istore X0.here hx rfl (hb hby at_11) rfl (l' := #[.val (.int p1), .val (.int p2), .val (.int p3), .val (.int p4), .val (.int (0 : Int32)), .unset, .unset, .unset, .unset, .unset, .unset, .unset]) rfl h) ?_
    refine own_byW (f' := (mkF m 14 #[.val (.int p1), .val (.int p2), .val (.int p3), .val (.int p4), .val (.int (0 : Int32)), .unset, .unset, .unset, .unset, .unset, .unset, .unset] [(.int p4)])) (fun t h => XS.iloadN X0.here hx rfl (hb hby at_13) rfl h) ?_
    refine own_byW (f' := (mkF m 15 #[.val (.int p1), .val (.int p2), .val (.int p3), .val (.int p4), .val (.int (0 : Int32)), .unset, .unset, .unset, .unset, .unset, .unset, .unset] [(.int (2 : Int32)), (.int p4)])) (fun t h => XS.iconst X0.here hx rfl (hb hby at_14) h) ?_
    refine own_byW (f' := (mkF m 16 #[.val (.int p1), .val (.int p2), .val (.int p3), .val (.int p4), .val (.int (0 : Int32)), .unset, .unset, .unset, .unset, .unset, .unset, .unset] [(.int (p4 &&& (2 : Int32)))])) (fun t h => XS.iand X0.here hx rfl (hb hby at_15) rfl h) ?_
    by_cases hc16_21 : (p4 &&& (2 : Int32)) = (0 : Int32)
    · refine own_byW (f' := (mkF m 23 #[.val (.int p1), .val (.int p2), .val (.int p3), .val (.int p4), .val (.int (0 : Int32)), .unset, .unset, .unset, .unset, .unset, .unset, .unset] [])) (fun t h => XS.ifYes X0.here hx rfl (pc0 := 16) (pc' := 23) rfl (hb hby at_16) rfl ((if0 _ _).trans (teq hc16_21).1) (by decide) (by decide) h) ?_
      refine own_byW (f' := (mkF m 24 #[.val (.int p1), .val (.int p2), .val (.int p3), .val (.int p4), .val (.int (0 : Int32)), .unset, .unset, .unset, .unset, .unset, .unset, .unset] [(.int p2)])) (fun t h => XS.iloadN X0.here hx rfl (hb hby at_23) rfl h) ?_
      refine own_byW (f' := (mkF m 26 #[.val (.int p1), .val (.int p2), .val (.int p3), .val (.int p4), .val (.int (0 : Int32)), .val (.int p2), .unset, .unset, .unset, .unset, .unset, .unset] [])) (fun t h => XS.istore X0.here hx rfl (hb hby at_24) rfl (l' := #[.val (.int p1), .val (.int p2), .val (.int p3), .val (.int p4), .val (.int (0 : Int32)), .val (.int p2), .unset, .unset, .unset, .unset, .unset, .unset]) rfl h) ?_
      exact K _ _
    · refine own_byW (f' := (mkF m 19 #[.val (.int p1), .val (.int p2), .val (.int p3), .val (.int p4), .val (.int (0 : Int32)), .unset, .unset, .unset, .unset, .unset, .unset, .unset] [])) (fun t h => XS.ifNo X0.here hx rfl (hb hby at_16) rfl ((if0 _ _).trans (feq hc16_21).1) h) ?_
      refine own_byW (f' := (mkF m 20 #[.val (.int p1), .val (.int p2), .val (.int p3), .val (.int p4), .val (.int (0 : Int32)), .unset, .unset, .unset, .unset, .unset, .unset, .unset] [(.int (0 : Int32))])) (fun t h => XS.iconst X0.here hx rfl (hb hby at_19) h) ?_
      refine own_byW (f' := (mkF m 24 #[.val (.int p1), .val (.int p2), .val (.int p3), .val (.int p4), .val (.int (0 : Int32)), .unset, .unset, .unset, .unset, .unset, .unset, .unset] [(.int (0 : Int32))])) (fun t h => XS.goto X0.here hx rfl (pc0 := 20) (pc' := 24) rfl (hb hby at_20) (by decide) (by decide) h) ?_
      refine own_byW (f' := (mkF m 26 #[.val (.int p1), .val (.int p2), .val (.int p3), .val (.int p4), .val (.int (0 : Int32)), .val (.int (0 : Int32)), .unset, .unset, .unset, .unset, .unset, .unset] [])) (fun t h => XS.istore X0.here hx rfl (hb hby at_24) rfl (l' := #[.val (.int p1), .val (.int p2), .val (.int p3), .val (.int p4), .val (.int (0 : Int32)), .val (.int (0 : Int32)), .unset, .unset, .unset, .unset, .unset, .unset]) rfl h) ?_
      exact K _ _
set_option maxRecDepth 65536 in
set_option maxHeartbeats 40000000 in
theorem comes_1 {Post : Tables → Env → Array Value → State → Outcome → State → Prop} (hpost : ∀ tb e args s v u, (limb_1_1.after args s (.returned v) u = true ∧ limb_1_2.after args s (.returned v) u = true ∧ True) → ReturnedEndW s (.returned v) u (Jvm.fieldLocs frame_1_writes args s ++ Jvm.arrayLocs frame_1_arrays args s ++ Jvm.staticLocs frame_1_statics s) 16 6656 → Post tb e args s (.returned v) u) :
    ArmFor flags0 classFile x code maxLocals ret World_1 tables_1 room_1 Calls_1 rest_1 Pre_1 Post := by
  intro l hfl _ _ p e ha hc hk s m args below hf hA hF happ hP
  obtain ⟨hcalls, hrest, hpre⟩ := hP
  obtain ⟨-, -, -, hnamed, -, -, -, hat⟩ := (Spec.applies_iff hf).mp happ
  obtain ⟨hg, hn⟩ := and_e (Cond.before_iff.mp (show (Jvm.Cond.and given_1 narrow_1).before args s = true from hpre))
  obtain ⟨hcount, hg⟩ := and_e hg
  obtain ⟨hk0, hg⟩ := and_e hg
  obtain ⟨hk1, hg⟩ := and_e hg
  obtain ⟨hk2, hg⟩ := and_e hg
  have hk3 := hg
  obtain ⟨w0, w1, w2, w3, rfl⟩ : ∃ w0 w1 w2 w3 : Value, args = #[w0, w1, w2, w3] := by
    have hs : args.size = 4 := by simpa [Cond.value, given_1] using hcount
    obtain ⟨L⟩ := args
    match L, hs with
    | [w0, w1, w2, w3], _ => exact ⟨w0, w1, w2, w3, rfl⟩
  have hw := fun d (hd : d ∈ tables_1) => atoms_spec (ws := Jvm.Cond.code x code maxLocals ret :: tables_1) hat d (List.mem_cons_of_mem _ hd)
  obtain ⟨i0, ei0⟩ := is_v hk0
  obtain rfl : w0 = (.int i0) := Option.some.inj ei0
  obtain ⟨i1, ei1⟩ := is_v hk1
  obtain rfl : w1 = (.int i1) := Option.some.inj ei1
  obtain ⟨i2, ei2⟩ := is_v hk2
  obtain rfl : w2 = (.int i2) := Option.some.inj ei2
  obtain ⟨i3, ei3⟩ := is_v hk3
  obtain rfl : w3 = (.int i3) := Option.some.inj ei3
  obtain ⟨hfk, htk, -⟩ := hcalls
  obtain ⟨hsets, -⟩ := atoms_of _ (rest_1_c_eq ▸ (show rest_1_c.before _ s = true from hrest))
  obtain ⟨u0, eu, hu⟩ := isR_v (Cond.before_iff.mp (hsets _ (List.mem_of_getElem? (i := 7) rfl)))
  obtain ⟨sn, en, hn'⟩ := isR_v (Cond.before_iff.mp (hsets _ (List.mem_of_getElem? (i := 12) rfl)))
  have S_u := Sta.start eu (Or.inl (hsets _ (List.mem_of_getElem? (i := 6) rfl)))
  have S_n := Sta.start en (Or.inl (hsets _ (List.mem_of_getElem? (i := 11) rfl)))
  obtain ⟨n, o, h1, h2, h3, _, L, rfl, ⟨rfl, N⟩, hq⟩ := rm0 l s _ hw tables_1 (own_flags hfl) i0 i1 i2 i3 u0 sn s.heap s.heap.size (Nat.le_refl _) S_u S_n ThS.start hu hn' p e ha hc hk s m _ below hf ((Spec.applies_iff_loose hf).mp happ).1 ⟨rfl, State.Warmed39.refl s, rfl⟩ ⟨Jvm.MethodsKnown_of_tablesKnown htk, Jvm.FramesKnown_of_framesKnown hfk hf⟩
  refine ⟨n, _, h1, h2, h3, hpost _ _ _ _ _ _ ⟨Cond.after_iff.mpr rfl, Cond.after_iff.mpr (eq_i res_at (Term.int_eval (1)) rfl), trivial⟩ ⟨hq.1, hq.2.1, hq.2.2.1, (hq.2.2.2.sift fun y hy => Or.inr (N y hy)).mono (by decide) (by decide)⟩⟩
theorem main_1_1 : Claimed_1_1 := comes_1 fun _ _ _ _ _ _ h hF => ⟨h.1, hF⟩
theorem main_1_2 : Claimed_1_2 := comes_1 fun _ _ _ _ _ _ h hF => ⟨h.2.1, hF⟩
end Jvm.Pilot.@@N@@
namespace Jvm.Pilot.@@N@@
open Jvm Jvm.ClassFile Sem Op Lib Jvm.Free Jvm.Stand Jvm.Pilot.@@N@@.Jvm.D
/-! MADE BY PROGRAM (witnessworld.py) out of the Statement's table words and the real class files: 30 classes; the members and pool entries that the words name. The judged class is class 1, her method 1. -/
namespace start1
open Jvm.ClassFile
def u (s : String) : CpInfo := .utf8 (stringToUtf16 s)
/-- a pool by its gaps: so many unusable entries, then the entry; so many at the end -/
def gap : Nat → List CpInfo → List CpInfo
  | 0, r => r
  | n + 1, r => .unusable :: gap n r
def poolList (es : List (Nat × CpInfo)) (last : Nat) : List CpInfo := es.foldr (fun e r => gap e.1 (e.2 :: r)) (gap last [])
def pool (es : List (Nat × CpInfo)) (last : Nat) : Array CpInfo := ⟨poolList es last⟩
def fileOf (pool : Array CpInfo) (this : Nat) (attrs : Array Attribute := #[]) (ms : Array MethodInfo := #[]) (fl : Nat := 33) (sup : Nat := 0) (ifs : Array Nat := #[]) (fds : Array FieldInfo := #[]) : ClassFile where
  minorVersion := 0
  majorVersion := 65
  constantPool := pool
  accessFlags := fl
  thisClass := this
  superClass := sup
  interfaces := ifs
  fields := fds
  methods := ms
  attributes := attrs
def plain (name : String) (sup : Option ClassId) : Class where
  name := name
  kind := .ordinary
  loader := none
  accessFlags := 33
  super := sup
  interfaces := #[]
  cf := none
  fields := #[]
  methods := #[]
  instanceTypes := #[]
  staticTypes := #[]
  resolved := #[]
  callSites := []
  init := .initialized
  statics := none
  mirror := none

def pool0 : Array CpInfo := pool [(5, u "<init>"), (0, u "()V"), (1, .class_ 10), (1, u "java/lang/Object")] 113

def k0c0 : Code := { maxStack := 0, maxLocals := 1, code := object_method_1_code, exceptionTable := #[], attributes := #[] }
def k0m0 : Method := { name := "<init>", desc := "()V", sig := { parameters := [], returnType := none }, accessFlags := 1, code := some k0c0 }
/-- java/lang/Object -/
def k0 : Class := { plain "java/lang/Object" none with
  accessFlags := 33
  interfaces := #[]
  cf := some (fileOf pool0 8 #[] #[{ accessFlags := 1, nameIndex := 5, descriptorIndex := 6, attributes := #[] }] 33 0 #[] #[])
  fields := #[]
  methods := #[k0m0]
  instanceTypes := #[]
  staticTypes := #[]
  resolved := Array.replicate 124 none
  statics := none }

def pool1 : Array CpInfo := pool [(2, .class_ 4), (1, u "java/lang/Object"), (0, u "<init>"), (0, u "()V"), (0, .class_ 8), (0, u "com/example/lull/lull/runtime/ScriptError"), (0, .string 10), (0, u "boom"), (0, .methodref 7 12), (0, .nameAndType 5 13), (0, u "(Ljava/lang/String;)V"), (0, .methodref 7 15), (0, .nameAndType 16 17), (0, u "line"), (0, u "()I"), (0, .methodref 7 19), (0, .nameAndType 20 21), (0, u "atLine"), (0, u "(I)Lcom/example/lull/lull/runtime/ScriptError;"), (0, .class_ 23), (0, u "com/example/lull/lull/runtime/ScriptErrorAtLinePinLaw"), (2, u "law"), (0, u "(IIII)Z")] 3

def k1m0 : Method := { name := "<init>", desc := "()V", sig := { parameters := [], returnType := none }, accessFlags := 2, code := none }
def k1c1 : Code := { maxStack := 3, maxLocals := 12, code := code, exceptionTable := #[], attributes := #[] }
def k1m1 : Method := { name := "law", desc := "(IIII)Z", sig := { parameters := [.int, .int, .int, .int], returnType := some .boolean }, accessFlags := 9, code := some k1c1 }
/-- com/example/lull/lull/runtime/ScriptErrorAtLinePinLaw -/
def k1 : Class := { plain "com/example/lull/lull/runtime/ScriptErrorAtLinePinLaw" (some 0) with
  accessFlags := 49
  interfaces := #[]
  cf := some (fileOf pool1 22 #[] #[{ accessFlags := 2, nameIndex := 5, descriptorIndex := 6, attributes := #[] }, { accessFlags := 9, nameIndex := 26, descriptorIndex := 27, attributes := #[] }] 49 2 #[] #[])
  fields := #[]
  methods := #[k1m0, k1m1]
  instanceTypes := #[]
  staticTypes := #[]
  resolved := Array.replicate 31 none
  statics := none }

def pool2 : Array CpInfo := pool [(1, .class_ 2), (0, u "java/io/Serializable"), (0, .class_ 4), (0, u "java/lang/Object")] 2

/-- java/io/Serializable -/
def k2 : Class := { plain "java/io/Serializable" (some 0) with
  accessFlags := 1537
  interfaces := #[]
  cf := some (fileOf pool2 1 #[] #[] 1537 3 #[] #[])
  fields := #[]
  methods := #[]
  instanceTypes := #[]
  staticTypes := #[]
  resolved := Array.replicate 7 none
  statics := none }

def pool3 : Array CpInfo := pool [(1, .methodref 2 3), (0, .class_ 4), (0, .nameAndType 5 6), (0, u "java/lang/Object"), (0, u "<init>"), (0, u "()V"), (0, .fieldref 8 9), (0, .class_ 10), (0, .nameAndType 11 12), (0, u "java/lang/Throwable"), (0, u "cause"), (0, u "Ljava/lang/Throwable;"), (0, .fieldref 8 14), (0, .nameAndType 15 16), (0, u "UNASSIGNED_STACK"), (0, u "[Ljava/lang/StackTraceElement;"), (0, .fieldref 8 18), (0, .nameAndType 19 16), (0, u "stackTrace"), (0, .fieldref 8 21), (0, .nameAndType 22 23), (0, u "SUPPRESSED_SENTINEL"), (0, u "Ljava/util/List;"), (0, .fieldref 8 25), (0, .nameAndType 26 23), (0, u "suppressedExceptions"), (0, .methodref 8 28), (0, .nameAndType 29 30), (0, u "fillInStackTrace"), (0, u "()Ljava/lang/Throwable;"), (0, .fieldref 8 32), (0, .nameAndType 33 34), (0, u "detailMessage"), (0, u "Ljava/lang/String;"), (58, .class_ 94), (0, u "java/lang/Throwable$WrappedPrintStream"), (6, .class_ 103), (1, u "java/lang/Throwable$PrintStreamOrWriter"), (61, u "$assertionsDisabled"), (0, u "Z"), (26, .class_ 194), (0, u "java/lang/Throwable$WrappedPrintWriter"), (3, .fieldref 8 199), (0, .nameAndType 200 201), (0, u "backtrace"), (0, u "Ljava/lang/Object;"), (0, .methodref 8 203), (0, .nameAndType 29 204), (0, u "(I)Ljava/lang/Throwable;"), (6, u "depth"), (0, u "I"), (10, u "(Ljava/lang/String;)V"), (45, .class_ 271), (1, u "java/lang/Throwable$SentinelHolder"), (32, u "EMPTY_THROWABLE_ARRAY"), (0, u "[Ljava/lang/Throwable;"), (12, .class_ 319), (0, u "java/io/Serializable"), (0, u "serialVersionUID"), (0, u "J"), (5, u "NULL_CAUSE_MESSAGE"), (0, u "SELF_SUPPRESSION_MESSAGE"), (0, u "CAUSE_CAPTION"), (0, u "SUPPRESSED_CAPTION")] 73

def k3c0 : Code := { maxStack := 2, maxLocals := 1, code := jdk_78_method_1_code, exceptionTable := #[], attributes := #[] }
def k3m0 : Method := { name := "<init>", desc := "()V", sig := { parameters := [], returnType := none }, accessFlags := 1, code := some k3c0 }
def k3c1 : Code := { maxStack := 2, maxLocals := 2, code := jdk_78_method_2_code, exceptionTable := #[], attributes := #[] }
def k3m1 : Method := { name := "<init>", desc := "(Ljava/lang/String;)V", sig := { parameters := [(.object "java/lang/String")], returnType := none }, accessFlags := 1, code := some k3c1 }
def k3c2 : Code := { maxStack := 2, maxLocals := 1, code := jdk_78_method_18_code, exceptionTable := #[], attributes := #[] }
def k3m2 : Method := { name := "fillInStackTrace", desc := "()Ljava/lang/Throwable;", sig := { parameters := [], returnType := some (.object "java/lang/Throwable") }, accessFlags := 33, code := some k3c2 }
def k3m3 : Method := { name := "fillInStackTrace", desc := "(I)Ljava/lang/Throwable;", sig := { parameters := [.int], returnType := some (.object "java/lang/Throwable") }, accessFlags := 258, code := none }
/-- java/lang/Throwable -/
def k3 : Class := { plain "java/lang/Throwable" (some 0) with
  accessFlags := 33
  interfaces := #[2]
  cf := some (fileOf pool3 8 #[.nestMembers #[193, 93, 101, 269]] #[{ accessFlags := 1, nameIndex := 5, descriptorIndex := 6, attributes := #[] }, { accessFlags := 1, nameIndex := 5, descriptorIndex := 223, attributes := #[] }, { accessFlags := 33, nameIndex := 29, descriptorIndex := 30, attributes := #[] }, { accessFlags := 258, nameIndex := 29, descriptorIndex := 204, attributes := #[] }] 33 2 #[318] #[{ accessFlags := 26, nameIndex := 320, descriptorIndex := 321, attributes := #[] }, { accessFlags := 130, nameIndex := 200, descriptorIndex := 201, attributes := #[] }, { accessFlags := 2, nameIndex := 33, descriptorIndex := 34, attributes := #[] }, { accessFlags := 26, nameIndex := 15, descriptorIndex := 16, attributes := #[] }, { accessFlags := 2, nameIndex := 11, descriptorIndex := 12, attributes := #[] }, { accessFlags := 2, nameIndex := 19, descriptorIndex := 16, attributes := #[] }, { accessFlags := 130, nameIndex := 211, descriptorIndex := 212, attributes := #[] }, { accessFlags := 26, nameIndex := 22, descriptorIndex := 23, attributes := #[] }, { accessFlags := 2, nameIndex := 26, descriptorIndex := 23, attributes := #[] }, { accessFlags := 26, nameIndex := 327, descriptorIndex := 34, attributes := #[] }, { accessFlags := 26, nameIndex := 328, descriptorIndex := 34, attributes := #[] }, { accessFlags := 26, nameIndex := 329, descriptorIndex := 34, attributes := #[] }, { accessFlags := 26, nameIndex := 330, descriptorIndex := 34, attributes := #[] }, { accessFlags := 26, nameIndex := 304, descriptorIndex := 305, attributes := #[] }, { accessFlags := 4120, nameIndex := 165, descriptorIndex := 166, attributes := #[] }])
  fields := #[{ name := "serialVersionUID", type := .long, accessFlags := 26, slot := 0, constantValue := 0 }, { name := "backtrace", type := (.object "java/lang/Object"), accessFlags := 130, slot := 0, constantValue := 0 }, { name := "detailMessage", type := (.object "java/lang/String"), accessFlags := 2, slot := 1, constantValue := 0 }, { name := "UNASSIGNED_STACK", type := (.array (.object "java/lang/StackTraceElement")), accessFlags := 26, slot := 1, constantValue := 0 }, { name := "cause", type := (.object "java/lang/Throwable"), accessFlags := 2, slot := 2, constantValue := 0 }, { name := "stackTrace", type := (.array (.object "java/lang/StackTraceElement")), accessFlags := 2, slot := 3, constantValue := 0 }, { name := "depth", type := .int, accessFlags := 130, slot := 4, constantValue := 0 }, { name := "SUPPRESSED_SENTINEL", type := (.object "java/util/List"), accessFlags := 26, slot := 2, constantValue := 0 }, { name := "suppressedExceptions", type := (.object "java/util/List"), accessFlags := 2, slot := 5, constantValue := 0 }, { name := "NULL_CAUSE_MESSAGE", type := (.object "java/lang/String"), accessFlags := 26, slot := 3, constantValue := 0 }, { name := "SELF_SUPPRESSION_MESSAGE", type := (.object "java/lang/String"), accessFlags := 26, slot := 4, constantValue := 0 }, { name := "CAUSE_CAPTION", type := (.object "java/lang/String"), accessFlags := 26, slot := 5, constantValue := 0 }, { name := "SUPPRESSED_CAPTION", type := (.object "java/lang/String"), accessFlags := 26, slot := 6, constantValue := 0 }, { name := "EMPTY_THROWABLE_ARRAY", type := (.array (.object "java/lang/Throwable")), accessFlags := 26, slot := 7, constantValue := 0 }, { name := "$assertionsDisabled", type := .boolean, accessFlags := 4120, slot := 8, constantValue := 0 }]
  methods := #[k3m0, k3m1, k3m2, k3m3]
  instanceTypes := #[(.object "java/lang/Object"), (.object "java/lang/String"), (.object "java/lang/Throwable"), (.array (.object "java/lang/StackTraceElement")), .int, (.object "java/util/List")]
  staticTypes := #[.long, (.array (.object "java/lang/StackTraceElement")), (.object "java/util/List"), (.object "java/lang/String"), (.object "java/lang/String"), (.object "java/lang/String"), (.object "java/lang/String"), (.array (.object "java/lang/Throwable")), .boolean]
  resolved := Array.replicate 404 none
  statics := some 0 }

def pool4 : Array CpInfo := pool [(2, .class_ 4), (1, u "java/lang/Throwable"), (0, u "<init>"), (0, u "()V"), (0, .methodref 2 8), (0, .nameAndType 5 9), (0, u "(Ljava/lang/String;)V"), (9, .class_ 20), (0, u "java/lang/Exception"), (0, u "serialVersionUID"), (0, u "J")] 17

def k4m0 : Method := { name := "<init>", desc := "()V", sig := { parameters := [], returnType := none }, accessFlags := 1, code := none }
def k4c1 : Code := { maxStack := 2, maxLocals := 2, code := jdk_59_method_2_code, exceptionTable := #[], attributes := #[] }
def k4m1 : Method := { name := "<init>", desc := "(Ljava/lang/String;)V", sig := { parameters := [(.object "java/lang/String")], returnType := none }, accessFlags := 1, code := some k4c1 }
/-- java/lang/Exception -/
def k4 : Class := { plain "java/lang/Exception" (some 3) with
  accessFlags := 33
  interfaces := #[]
  cf := some (fileOf pool4 19 #[] #[{ accessFlags := 1, nameIndex := 5, descriptorIndex := 6, attributes := #[] }, { accessFlags := 1, nameIndex := 5, descriptorIndex := 9, attributes := #[] }] 33 2 #[] #[{ accessFlags := 24, nameIndex := 21, descriptorIndex := 22, attributes := #[] }])
  fields := #[{ name := "serialVersionUID", type := .long, accessFlags := 24, slot := 0, constantValue := 0 }]
  methods := #[k4m0, k4m1]
  instanceTypes := #[(.object "java/lang/Object"), (.object "java/lang/String"), (.object "java/lang/Throwable"), (.array (.object "java/lang/StackTraceElement")), .int, (.object "java/util/List")]
  staticTypes := #[.long]
  resolved := Array.replicate 40 none
  statics := none }

def pool5 : Array CpInfo := pool [(2, .class_ 4), (1, u "java/lang/Exception"), (0, u "<init>"), (0, u "()V"), (0, .methodref 2 8), (0, .nameAndType 5 9), (0, u "(Ljava/lang/String;)V"), (9, .class_ 20), (0, u "java/lang/RuntimeException"), (0, u "serialVersionUID"), (0, u "J")] 17

def k5m0 : Method := { name := "<init>", desc := "()V", sig := { parameters := [], returnType := none }, accessFlags := 1, code := none }
def k5c1 : Code := { maxStack := 2, maxLocals := 2, code := jdk_58_method_2_code, exceptionTable := #[], attributes := #[] }
def k5m1 : Method := { name := "<init>", desc := "(Ljava/lang/String;)V", sig := { parameters := [(.object "java/lang/String")], returnType := none }, accessFlags := 1, code := some k5c1 }
/-- java/lang/RuntimeException -/
def k5 : Class := { plain "java/lang/RuntimeException" (some 4) with
  accessFlags := 33
  interfaces := #[]
  cf := some (fileOf pool5 19 #[] #[{ accessFlags := 1, nameIndex := 5, descriptorIndex := 6, attributes := #[] }, { accessFlags := 1, nameIndex := 5, descriptorIndex := 9, attributes := #[] }] 33 2 #[] #[{ accessFlags := 24, nameIndex := 21, descriptorIndex := 22, attributes := #[] }])
  fields := #[{ name := "serialVersionUID", type := .long, accessFlags := 24, slot := 0, constantValue := 0 }]
  methods := #[k5m0, k5m1]
  instanceTypes := #[(.object "java/lang/Object"), (.object "java/lang/String"), (.object "java/lang/Throwable"), (.array (.object "java/lang/StackTraceElement")), .int, (.object "java/util/List")]
  staticTypes := #[.long]
  resolved := Array.replicate 40 none
  statics := none }

def pool6 : Array CpInfo := pool [(1, .methodref 2 3), (0, .class_ 4), (0, .nameAndType 5 6), (0, u "java/lang/RuntimeException"), (0, u "<init>"), (0, u "(Ljava/lang/String;)V"), (0, .class_ 8), (0, u "com/example/lull/lull/runtime/ScriptError"), (8, .fieldref 7 18), (0, .nameAndType 19 20), (0, u "line"), (0, u "I"), (0, u "serialVersionUID"), (0, u "J"), (7, u "()I"), (0, u "atLine"), (0, u "(I)Lcom/example/lull/lull/runtime/ScriptError;")] 18

def k6c0 : Code := { maxStack := 2, maxLocals := 2, code := prog_97_method_1_code, exceptionTable := #[], attributes := #[] }
def k6m0 : Method := { name := "<init>", desc := "(Ljava/lang/String;)V", sig := { parameters := [(.object "java/lang/String")], returnType := none }, accessFlags := 1, code := some k6c0 }
def k6c1 : Code := { maxStack := 1, maxLocals := 1, code := prog_97_method_4_code, exceptionTable := #[], attributes := #[] }
def k6m1 : Method := { name := "line", desc := "()I", sig := { parameters := [], returnType := some .int }, accessFlags := 1, code := some k6c1 }
def k6c2 : Code := { maxStack := 2, maxLocals := 2, code := prog_97_method_5_code, exceptionTable := #[], attributes := #[] }
def k6m2 : Method := { name := "atLine", desc := "(I)Lcom/example/lull/lull/runtime/ScriptError;", sig := { parameters := [.int], returnType := some (.object "com/example/lull/lull/runtime/ScriptError") }, accessFlags := 1, code := some k6c2 }
/-- com/example/lull/lull/runtime/ScriptError -/
def k6 : Class := { plain "com/example/lull/lull/runtime/ScriptError" (some 5) with
  accessFlags := 49
  interfaces := #[]
  cf := some (fileOf pool6 7 #[] #[{ accessFlags := 1, nameIndex := 5, descriptorIndex := 6, attributes := #[] }, { accessFlags := 1, nameIndex := 19, descriptorIndex := 30, attributes := #[] }, { accessFlags := 1, nameIndex := 31, descriptorIndex := 32, attributes := #[] }] 49 2 #[] #[{ accessFlags := 26, nameIndex := 21, descriptorIndex := 22, attributes := #[] }, { accessFlags := 2, nameIndex := 19, descriptorIndex := 20, attributes := #[] }])
  fields := #[{ name := "serialVersionUID", type := .long, accessFlags := 26, slot := 0, constantValue := 0 }, { name := "line", type := .int, accessFlags := 2, slot := 6, constantValue := 0 }]
  methods := #[k6m0, k6m1, k6m2]
  instanceTypes := #[(.object "java/lang/Object"), (.object "java/lang/String"), (.object "java/lang/Throwable"), (.array (.object "java/lang/StackTraceElement")), .int, (.object "java/util/List"), .int]
  staticTypes := #[.long]
  resolved := Array.replicate 51 none
  statics := none }

def pool7 : Array CpInfo := pool [(1, .class_ 2), (0, u "java/lang/Comparable"), (0, .class_ 4), (0, u "java/lang/Object")] 7

/-- java/lang/Comparable -/
def k7 : Class := { plain "java/lang/Comparable" (some 0) with
  accessFlags := 1537
  interfaces := #[]
  cf := some (fileOf pool7 1 #[] #[] 1537 3 #[] #[])
  fields := #[]
  methods := #[]
  instanceTypes := #[]
  staticTypes := #[]
  resolved := Array.replicate 12 none
  statics := none }

def pool8 : Array CpInfo := pool [(2, .class_ 4), (1, u "java/lang/CharSequence"), (42, .class_ 48), (0, u "java/lang/CharSequence$1CodePointIterator"), (10, .class_ 60), (0, u "java/lang/CharSequence$1CharIterator"), (5, .class_ 67), (0, u "java/lang/Object")] 63

/-- java/lang/CharSequence -/
def k8 : Class := { plain "java/lang/CharSequence" (some 0) with
  accessFlags := 1537
  interfaces := #[]
  cf := some (fileOf pool8 2 #[.nestMembers #[47, 59]] #[] 1537 66 #[] #[])
  fields := #[]
  methods := #[]
  instanceTypes := #[]
  staticTypes := #[]
  resolved := Array.replicate 131 none
  statics := none }

def pool9 : Array CpInfo := pool [(1, .class_ 2), (0, u "java/lang/constant/Constable"), (0, .class_ 4), (0, u "java/lang/Object")] 6

/-- java/lang/constant/Constable -/
def k9 : Class := { plain "java/lang/constant/Constable" (some 0) with
  accessFlags := 1537
  interfaces := #[]
  cf := some (fileOf pool9 1 #[] #[] 1537 3 #[] #[])
  fields := #[]
  methods := #[]
  instanceTypes := #[]
  staticTypes := #[]
  resolved := Array.replicate 11 none
  statics := none }

def pool10 : Array CpInfo := pool [(1, .class_ 2), (0, u "java/lang/constant/ConstantDesc"), (0, .class_ 4), (0, u "java/lang/Object")] 32

/-- java/lang/constant/ConstantDesc -/
def k10 : Class := { plain "java/lang/constant/ConstantDesc" (some 0) with
  accessFlags := 1537
  interfaces := #[]
  cf := some (fileOf pool10 1 #[] #[] 1537 3 #[] #[])
  fields := #[]
  methods := #[]
  instanceTypes := #[]
  staticTypes := #[]
  resolved := Array.replicate 37 none
  statics := none }

def pool11 : Array CpInfo := pool [(2, .class_ 4), (1, u "java/lang/Object"), (0, u "<init>"), (0, u "()V"), (3, .class_ 12), (1, u "java/lang/String"), (0, u "value"), (0, u "[B"), (2, u "coder"), (0, u "B"), (2, u "hash"), (0, u "I"), (2, u "hashIsZero"), (0, u "Z"), (13, u "COMPACT_STRINGS"), (534, .class_ 576), (0, u "java/lang/CharSequence"), (22, u "CASE_INSENSITIVE_ORDER"), (0, u "Ljava/util/Comparator;"), (500, u "serialPersistentFields"), (0, u "[Ljava/io/ObjectStreamField;"), (0, .class_ 1104), (0, u "java/lang/String$CaseInsensitiveComparator"), (1, .class_ 1107), (0, u "java/io/Serializable"), (0, .class_ 1109), (0, u "java/lang/Comparable"), (0, .class_ 1111), (0, u "java/lang/constant/Constable"), (0, .class_ 1113), (0, u "java/lang/constant/ConstantDesc"), (2, u "serialVersionUID"), (0, u "J"), (3, u "REPL"), (0, u "C"), (2, u "LATIN1"), (1, u "UTF16")] 323

def k11m0 : Method := { name := "<init>", desc := "()V", sig := { parameters := [], returnType := none }, accessFlags := 1, code := none }
/-- java/lang/String -/
def k11 : Class := { plain "java/lang/String" (some 0) with
  accessFlags := 49
  interfaces := #[2, 7, 8, 9, 10]
  cf := some (fileOf pool11 10 #[.nestMembers #[1103]] #[{ accessFlags := 1, nameIndex := 5, descriptorIndex := 6, attributes := #[] }] 49 2 #[1106, 1108, 575, 1110, 1112] #[{ accessFlags := 18, nameIndex := 13, descriptorIndex := 14, attributes := #[] }, { accessFlags := 18, nameIndex := 17, descriptorIndex := 18, attributes := #[] }, { accessFlags := 2, nameIndex := 21, descriptorIndex := 22, attributes := #[] }, { accessFlags := 2, nameIndex := 25, descriptorIndex := 26, attributes := #[] }, { accessFlags := 26, nameIndex := 1116, descriptorIndex := 1117, attributes := #[] }, { accessFlags := 24, nameIndex := 40, descriptorIndex := 26, attributes := #[] }, { accessFlags := 26, nameIndex := 1101, descriptorIndex := 1102, attributes := #[] }, { accessFlags := 26, nameIndex := 1121, descriptorIndex := 1122, attributes := #[] }, { accessFlags := 25, nameIndex := 599, descriptorIndex := 600, attributes := #[] }, { accessFlags := 24, nameIndex := 1125, descriptorIndex := 18, attributes := #[] }, { accessFlags := 24, nameIndex := 1127, descriptorIndex := 18, attributes := #[] }])
  fields := #[{ name := "value", type := (.array .byte), accessFlags := 18, slot := 0, constantValue := 0 }, { name := "coder", type := .byte, accessFlags := 18, slot := 1, constantValue := 0 }, { name := "hash", type := .int, accessFlags := 2, slot := 2, constantValue := 0 }, { name := "hashIsZero", type := .boolean, accessFlags := 2, slot := 3, constantValue := 0 }, { name := "serialVersionUID", type := .long, accessFlags := 26, slot := 0, constantValue := 0 }, { name := "COMPACT_STRINGS", type := .boolean, accessFlags := 24, slot := 1, constantValue := 0 }, { name := "serialPersistentFields", type := (.array (.object "java/io/ObjectStreamField")), accessFlags := 26, slot := 2, constantValue := 0 }, { name := "REPL", type := .char, accessFlags := 26, slot := 3, constantValue := 0 }, { name := "CASE_INSENSITIVE_ORDER", type := (.object "java/util/Comparator"), accessFlags := 25, slot := 4, constantValue := 0 }, { name := "LATIN1", type := .byte, accessFlags := 24, slot := 5, constantValue := 0 }, { name := "UTF16", type := .byte, accessFlags := 24, slot := 6, constantValue := 0 }]
  methods := #[k11m0]
  instanceTypes := #[(.array .byte), .byte, .int, .boolean]
  staticTypes := #[.long, .boolean, (.array (.object "java/io/ObjectStreamField")), .char, (.object "java/util/Comparator"), .byte, .byte]
  resolved := Array.replicate 1451 none
  statics := none }

def pool12 : Array CpInfo := pool [(2, .class_ 4), (1, u "java/lang/Object"), (0, u "<init>"), (0, u "()V"), (12, .class_ 20), (0, u "java/util/Collections"), (63, u "r"), (0, u "Ljava/util/Random;"), (80, .class_ 167), (0, u "java/util/Collections$UnmodifiableCollection"), (6, .class_ 175), (0, u "java/util/Collections$UnmodifiableSequencedCollection"), (6, .class_ 183), (0, u "java/util/Collections$UnmodifiableSet"), (6, .class_ 191), (0, u "java/util/Collections$UnmodifiableSequencedSet"), (6, .class_ 199), (0, u "java/util/Collections$UnmodifiableSortedSet"), (6, .class_ 207), (0, u "java/util/Collections$UnmodifiableNavigableSet"), (4, .class_ 213), (0, u "java/util/Collections$UnmodifiableList"), (1, .class_ 216), (0, u "java/util/Collections$UnmodifiableRandomAccessList"), (6, .class_ 224), (0, u "java/util/Collections$UnmodifiableMap"), (6, .class_ 232), (0, u "java/util/Collections$UnmodifiableSequencedMap"), (4, .class_ 238), (0, u "java/util/Collections$UnmodifiableSortedMap"), (6, .class_ 246), (0, u "java/util/Collections$UnmodifiableNavigableMap"), (3, .class_ 251), (0, u "java/util/Collections$SynchronizedCollection"), (4, .class_ 257), (0, u "java/util/Collections$SynchronizedSet"), (4, .class_ 263), (0, u "java/util/Collections$SynchronizedSortedSet"), (1, .class_ 266), (0, u "java/util/Collections$SynchronizedNavigableSet"), (1, .class_ 269), (0, u "java/util/Collections$SynchronizedRandomAccessList"), (1, .class_ 272), (0, u "java/util/Collections$SynchronizedList"), (5, .class_ 279), (0, u "java/util/Collections$SynchronizedMap"), (1, .class_ 282), (0, u "java/util/Collections$SynchronizedSortedMap"), (1, .class_ 285), (0, u "java/util/Collections$SynchronizedNavigableMap"), (1, .class_ 288), (0, u "java/util/Collections$CheckedCollection"), (11, .class_ 301), (0, u "java/util/Collections$CheckedQueue"), (3, .class_ 306), (0, u "java/util/Collections$CheckedSet"), (3, .class_ 311), (0, u "java/util/Collections$CheckedSortedSet"), (3, .class_ 316), (0, u "java/util/Collections$CheckedNavigableSet"), (3, .class_ 321), (0, u "java/util/Collections$CheckedRandomAccessList"), (3, .class_ 326), (0, u "java/util/Collections$CheckedList"), (1, .class_ 329), (0, u "java/util/Collections$CheckedMap"), (3, .class_ 334), (0, u "java/util/Collections$CheckedSortedMap"), (3, .class_ 339), (0, u "java/util/Collections$CheckedNavigableMap"), (4, .class_ 346), (1, u "java/util/Collections$EmptyIterator"), (3, .class_ 352), (1, u "java/util/Collections$EmptyListIterator"), (2, .class_ 357), (1, u "java/util/Collections$EmptyEnumeration"), (4, u "EMPTY_SET"), (0, u "Ljava/util/Set;"), (6, u "EMPTY_LIST"), (0, u "Ljava/util/List;"), (2, u "EMPTY_MAP"), (0, u "Ljava/util/Map;"), (4, .class_ 381), (0, u "java/util/Collections$SingletonSet"), (2, .class_ 385), (0, u "java/util/Collections$1"), (1, .class_ 388), (0, u "java/util/Collections$2"), (1, .class_ 391), (0, u "java/util/Collections$SingletonList"), (1, .class_ 394), (0, u "java/util/Collections$SingletonMap"), (22, .class_ 418), (0, u "java/util/Collections$CopiesList"), (4, .class_ 425), (1, u "java/util/Collections$ReverseComparator"), (8, .class_ 435), (0, u "java/util/Collections$ReverseComparator2"), (6, .class_ 443), (0, u "java/util/Collections$3"), (25, .class_ 470), (0, u "java/util/Collections$SetFromMap"), (2, .class_ 474), (0, u "java/util/Collections$SequencedSetFromMap"), (3, .class_ 479), (0, u "java/util/Collections$AsLIFOQueue"), (11, .class_ 492), (0, u "java/util/Collections$EmptySet"), (1, .class_ 495), (0, u "java/util/Collections$EmptyList"), (1, .class_ 498), (0, u "java/util/Collections$EmptyMap"), (1, u "BINARYSEARCH_THRESHOLD"), (0, u "I"), (2, u "REVERSE_THRESHOLD"), (1, u "SHUFFLE_THRESHOLD"), (1, u "FILL_THRESHOLD"), (1, u "ROTATE_THRESHOLD"), (1, u "COPY_THRESHOLD"), (1, u "REPLACEALL_THRESHOLD"), (1, u "INDEXOFSUBLIST_THRESHOLD"), (333, .class_ 851), (0, u "java/util/Collections$CheckedMap$CheckedEntrySet"), (0, .class_ 853), (0, u "java/util/Collections$CheckedMap$CheckedEntrySet$CheckedEntry"), (0, .class_ 855), (0, u "java/util/Collections$CheckedMap$CheckedEntrySet$1"), (0, .class_ 857), (0, u "java/util/Collections$CheckedList$1"), (0, .class_ 859), (0, u "java/util/Collections$CheckedCollection$1"), (0, .class_ 861), (0, u "java/util/Collections$UnmodifiableNavigableMap$EmptyNavigableMap"), (0, .class_ 863), (0, u "java/util/Collections$UnmodifiableMap$UnmodifiableEntrySet"), (0, .class_ 865), (0, u "java/util/Collections$UnmodifiableMap$UnmodifiableEntrySet$UnmodifiableEntry"), (0, .class_ 867), (0, u "java/util/Collections$UnmodifiableMap$UnmodifiableEntrySet$UnmodifiableEntrySetSpliterator"), (0, .class_ 869), (0, u "java/util/Collections$UnmodifiableMap$UnmodifiableEntrySet$1"), (0, .class_ 871), (0, u "java/util/Collections$UnmodifiableList$1"), (0, .class_ 873), (0, u "java/util/Collections$UnmodifiableNavigableSet$EmptyNavigableSet"), (0, .class_ 875), (0, u "java/util/Collections$UnmodifiableCollection$1")] 57

def k12m0 : Method := { name := "<init>", desc := "()V", sig := { parameters := [], returnType := none }, accessFlags := 2, code := none }
/-- java/util/Collections -/
def k12 : Class := { plain "java/util/Collections" (some 0) with
  accessFlags := 33
  interfaces := #[]
  cf := some (fileOf pool12 19 #[.nestMembers #[478, 473, 469, 434, 423, 417, 393, 390, 380, 497, 494, 491, 355, 350, 344, 338, 333, 328, 850, 852, 854, 320, 325, 856, 315, 310, 305, 300, 287, 858, 284, 281, 278, 268, 271, 265, 262, 256, 250, 245, 860, 237, 231, 223, 862, 864, 866, 868, 215, 212, 870, 206, 872, 198, 190, 182, 174, 166, 874, 442, 387, 384]] #[{ accessFlags := 2, nameIndex := 5, descriptorIndex := 6, attributes := #[] }] 33 2 #[] #[{ accessFlags := 26, nameIndex := 500, descriptorIndex := 501, attributes := #[] }, { accessFlags := 26, nameIndex := 504, descriptorIndex := 501, attributes := #[] }, { accessFlags := 26, nameIndex := 506, descriptorIndex := 501, attributes := #[] }, { accessFlags := 26, nameIndex := 508, descriptorIndex := 501, attributes := #[] }, { accessFlags := 26, nameIndex := 510, descriptorIndex := 501, attributes := #[] }, { accessFlags := 26, nameIndex := 512, descriptorIndex := 501, attributes := #[] }, { accessFlags := 26, nameIndex := 514, descriptorIndex := 501, attributes := #[] }, { accessFlags := 26, nameIndex := 516, descriptorIndex := 501, attributes := #[] }, { accessFlags := 10, nameIndex := 84, descriptorIndex := 85, attributes := #[] }, { accessFlags := 25, nameIndex := 362, descriptorIndex := 363, attributes := #[] }, { accessFlags := 25, nameIndex := 370, descriptorIndex := 371, attributes := #[] }, { accessFlags := 25, nameIndex := 374, descriptorIndex := 375, attributes := #[] }])
  fields := #[{ name := "BINARYSEARCH_THRESHOLD", type := .int, accessFlags := 26, slot := 0, constantValue := 0 }, { name := "REVERSE_THRESHOLD", type := .int, accessFlags := 26, slot := 1, constantValue := 0 }, { name := "SHUFFLE_THRESHOLD", type := .int, accessFlags := 26, slot := 2, constantValue := 0 }, { name := "FILL_THRESHOLD", type := .int, accessFlags := 26, slot := 3, constantValue := 0 }, { name := "ROTATE_THRESHOLD", type := .int, accessFlags := 26, slot := 4, constantValue := 0 }, { name := "COPY_THRESHOLD", type := .int, accessFlags := 26, slot := 5, constantValue := 0 }, { name := "REPLACEALL_THRESHOLD", type := .int, accessFlags := 26, slot := 6, constantValue := 0 }, { name := "INDEXOFSUBLIST_THRESHOLD", type := .int, accessFlags := 26, slot := 7, constantValue := 0 }, { name := "r", type := (.object "java/util/Random"), accessFlags := 10, slot := 8, constantValue := 0 }, { name := "EMPTY_SET", type := (.object "java/util/Set"), accessFlags := 25, slot := 9, constantValue := 0 }, { name := "EMPTY_LIST", type := (.object "java/util/List"), accessFlags := 25, slot := 10, constantValue := 0 }, { name := "EMPTY_MAP", type := (.object "java/util/Map"), accessFlags := 25, slot := 11, constantValue := 0 }]
  methods := #[k12m0]
  instanceTypes := #[]
  staticTypes := #[.int, .int, .int, .int, .int, .int, .int, .int, (.object "java/util/Random"), (.object "java/util/Set"), (.object "java/util/List"), (.object "java/util/Map")]
  resolved := Array.replicate 933 none
  statics := some 1 }

def pool13 : Array CpInfo := pool [(8, .class_ 10), (1, u "java/lang/Iterable"), (24, .class_ 36), (0, u "java/lang/Object")] 25

/-- java/lang/Iterable -/
def k13 : Class := { plain "java/lang/Iterable" (some 0) with
  accessFlags := 1537
  interfaces := #[]
  cf := some (fileOf pool13 8 #[] #[] 1537 35 #[] #[])
  fields := #[]
  methods := #[]
  instanceTypes := #[]
  staticTypes := #[]
  resolved := Array.replicate 62 none
  statics := none }

def pool14 : Array CpInfo := pool [(10, .class_ 12), (1, u "java/util/Collection"), (47, .class_ 61), (0, u "java/lang/Object"), (0, .class_ 63), (0, u "java/lang/Iterable")] 51

/-- java/util/Collection -/
def k14 : Class := { plain "java/util/Collection" (some 0) with
  accessFlags := 1537
  interfaces := #[13]
  cf := some (fileOf pool14 10 #[] #[] 1537 60 #[62] #[])
  fields := #[]
  methods := #[]
  instanceTypes := #[]
  staticTypes := #[]
  resolved := Array.replicate 115 none
  statics := none }

def pool15 : Array CpInfo := pool [(2, .class_ 4), (1, u "java/lang/Object"), (0, u "<init>"), (0, u "()V"), (1, .class_ 10), (1, u "java/util/AbstractCollection"), (66, .class_ 78), (0, u "java/util/Collection")] 81

def k15m0 : Method := { name := "<init>", desc := "()V", sig := { parameters := [], returnType := none }, accessFlags := 4, code := none }
/-- java/util/AbstractCollection -/
def k15 : Class := { plain "java/util/AbstractCollection" (some 0) with
  accessFlags := 1057
  interfaces := #[14]
  cf := some (fileOf pool15 8 #[] #[{ accessFlags := 4, nameIndex := 5, descriptorIndex := 6, attributes := #[] }] 1057 2 #[77] #[])
  fields := #[]
  methods := #[k15m0]
  instanceTypes := #[]
  staticTypes := #[]
  resolved := Array.replicate 160 none
  statics := none }

def pool16 : Array CpInfo := pool [(8, .class_ 10), (1, u "java/util/SequencedCollection"), (15, .class_ 27), (0, u "java/lang/Object"), (0, .class_ 29), (0, u "java/util/Collection")] 27

/-- java/util/SequencedCollection -/
def k16 : Class := { plain "java/util/SequencedCollection" (some 0) with
  accessFlags := 1537
  interfaces := #[14]
  cf := some (fileOf pool16 8 #[] #[] 1537 26 #[28] #[])
  fields := #[]
  methods := #[]
  instanceTypes := #[]
  staticTypes := #[]
  resolved := Array.replicate 57 none
  statics := none }

def pool17 : Array CpInfo := pool [(8, .class_ 10), (1, u "java/util/List"), (92, .class_ 104), (0, u "java/lang/Object"), (15, .class_ 121), (0, u "java/util/SequencedCollection")] 129

/-- java/util/List -/
def k17 : Class := { plain "java/util/List" (some 0) with
  accessFlags := 1537
  interfaces := #[16]
  cf := some (fileOf pool17 8 #[] #[] 1537 103 #[120] #[])
  fields := #[]
  methods := #[]
  instanceTypes := #[]
  staticTypes := #[]
  resolved := Array.replicate 251 none
  statics := none }

def pool18 : Array CpInfo := pool [(2, .class_ 4), (1, u "java/util/AbstractCollection"), (0, u "<init>"), (0, u "()V"), (1, .class_ 10), (1, u "java/util/AbstractList"), (0, u "modCount"), (0, u "I"), (64, .class_ 78), (0, u "java/util/AbstractList$Itr"), (3, .class_ 83), (0, u "java/util/AbstractList$ListItr"), (9, .class_ 94), (0, u "java/util/AbstractList$RandomAccessSubList"), (3, .class_ 99), (0, u "java/util/AbstractList$SubList"), (33, .class_ 134), (0, u "java/util/List"), (73, .class_ 209), (0, u "java/util/AbstractList$SubList$1"), (0, .class_ 211), (0, u "java/util/AbstractList$RandomAccessSpliterator")] 6

def k18m0 : Method := { name := "<init>", desc := "()V", sig := { parameters := [], returnType := none }, accessFlags := 4, code := none }
/-- java/util/AbstractList -/
def k18 : Class := { plain "java/util/AbstractList" (some 15) with
  accessFlags := 1057
  interfaces := #[17]
  cf := some (fileOf pool18 8 #[.nestMembers #[93, 98, 208, 210, 82, 77]] #[{ accessFlags := 4, nameIndex := 5, descriptorIndex := 6, attributes := #[] }] 1057 2 #[133] #[{ accessFlags := 132, nameIndex := 11, descriptorIndex := 12, attributes := #[] }])
  fields := #[{ name := "modCount", type := .int, accessFlags := 132, slot := 0, constantValue := 0 }]
  methods := #[k18m0]
  instanceTypes := #[.int]
  staticTypes := #[]
  resolved := Array.replicate 218 none
  statics := none }

def pool19 : Array CpInfo := pool [(1, .class_ 2), (0, u "java/util/RandomAccess"), (0, .class_ 4), (0, u "java/lang/Object")] 2

/-- java/util/RandomAccess -/
def k19 : Class := { plain "java/util/RandomAccess" (some 0) with
  accessFlags := 1537
  interfaces := #[]
  cf := some (fileOf pool19 1 #[] #[] 1537 3 #[] #[])
  fields := #[]
  methods := #[]
  instanceTypes := #[]
  staticTypes := #[]
  resolved := Array.replicate 7 none
  statics := none }

def pool20 : Array CpInfo := pool [(2, .class_ 4), (1, u "java/util/AbstractList"), (0, u "<init>"), (0, u "()V"), (1, .class_ 10), (1, u "java/util/Collections"), (54, .class_ 66), (0, u "java/util/Collections$EmptyList"), (0, .class_ 68), (0, u "java/util/RandomAccess"), (0, .class_ 70), (0, u "java/io/Serializable"), (0, u "serialVersionUID"), (0, u "J")] 77

def k20m0 : Method := { name := "<init>", desc := "()V", sig := { parameters := [], returnType := none }, accessFlags := 2, code := none }
/-- java/util/Collections$EmptyList -/
def k20 : Class := { plain "java/util/Collections$EmptyList" (some 18) with
  accessFlags := 32
  interfaces := #[19, 2]
  cf := some (fileOf pool20 65 #[.nestHost 8] #[{ accessFlags := 2, nameIndex := 5, descriptorIndex := 6, attributes := #[] }] 32 2 #[67, 69] #[{ accessFlags := 26, nameIndex := 71, descriptorIndex := 72, attributes := #[] }])
  fields := #[{ name := "serialVersionUID", type := .long, accessFlags := 26, slot := 0, constantValue := 0 }]
  methods := #[k20m0]
  instanceTypes := #[.int]
  staticTypes := #[.long]
  resolved := Array.replicate 150 none
  statics := none }

def pool21 : Array CpInfo := pool [(2, .class_ 4), (1, u "java/lang/StackTraceElement"), (0, u "<init>"), (2, .class_ 10), (1, u "java/lang/Object"), (0, u "()V"), (2, u "format"), (0, u "B"), (2, u "classLoaderName"), (0, u "Ljava/lang/String;"), (2, u "moduleName"), (2, u "moduleVersion"), (12, u "declaringClass"), (4, u "methodName"), (2, u "fileName"), (2, u "lineNumber"), (0, u "I"), (65, u "declaringClassObject"), (0, u "Ljava/lang/Class;"), (33, .class_ 153), (1, u "java/lang/StackTraceElement$HashedModules"), (17, .class_ 172), (0, u "java/io/Serializable"), (0, u "NATIVE_METHOD"), (1, u "UNKNOWN_SOURCE"), (2, u "BUILTIN_CLASS_LOADER"), (1, u "JDK_NON_UPGRADEABLE_MODULE"), (1, u "serialVersionUID"), (0, u "J")] 51

def k21m0 : Method := { name := "<init>", desc := "()V", sig := { parameters := [], returnType := none }, accessFlags := 2, code := none }
/-- java/lang/StackTraceElement -/
def k21 : Class := { plain "java/lang/StackTraceElement" (some 0) with
  accessFlags := 49
  interfaces := #[2]
  cf := some (fileOf pool21 2 #[.nestMembers #[151]] #[{ accessFlags := 2, nameIndex := 5, descriptorIndex := 11, attributes := #[] }] 49 8 #[171] #[{ accessFlags := 26, nameIndex := 173, descriptorIndex := 19, attributes := #[] }, { accessFlags := 26, nameIndex := 175, descriptorIndex := 19, attributes := #[] }, { accessFlags := 130, nameIndex := 116, descriptorIndex := 117, attributes := #[] }, { accessFlags := 2, nameIndex := 18, descriptorIndex := 19, attributes := #[] }, { accessFlags := 2, nameIndex := 22, descriptorIndex := 19, attributes := #[] }, { accessFlags := 2, nameIndex := 25, descriptorIndex := 19, attributes := #[] }, { accessFlags := 2, nameIndex := 38, descriptorIndex := 19, attributes := #[] }, { accessFlags := 2, nameIndex := 43, descriptorIndex := 19, attributes := #[] }, { accessFlags := 2, nameIndex := 46, descriptorIndex := 19, attributes := #[] }, { accessFlags := 2, nameIndex := 49, descriptorIndex := 50, attributes := #[] }, { accessFlags := 2, nameIndex := 14, descriptorIndex := 15, attributes := #[] }, { accessFlags := 26, nameIndex := 178, descriptorIndex := 15, attributes := #[] }, { accessFlags := 26, nameIndex := 180, descriptorIndex := 15, attributes := #[] }, { accessFlags := 26, nameIndex := 182, descriptorIndex := 183, attributes := #[] }])
  fields := #[{ name := "NATIVE_METHOD", type := (.object "java/lang/String"), accessFlags := 26, slot := 0, constantValue := 0 }, { name := "UNKNOWN_SOURCE", type := (.object "java/lang/String"), accessFlags := 26, slot := 1, constantValue := 0 }, { name := "declaringClassObject", type := (.object "java/lang/Class"), accessFlags := 130, slot := 0, constantValue := 0 }, { name := "classLoaderName", type := (.object "java/lang/String"), accessFlags := 2, slot := 1, constantValue := 0 }, { name := "moduleName", type := (.object "java/lang/String"), accessFlags := 2, slot := 2, constantValue := 0 }, { name := "moduleVersion", type := (.object "java/lang/String"), accessFlags := 2, slot := 3, constantValue := 0 }, { name := "declaringClass", type := (.object "java/lang/String"), accessFlags := 2, slot := 4, constantValue := 0 }, { name := "methodName", type := (.object "java/lang/String"), accessFlags := 2, slot := 5, constantValue := 0 }, { name := "fileName", type := (.object "java/lang/String"), accessFlags := 2, slot := 6, constantValue := 0 }, { name := "lineNumber", type := .int, accessFlags := 2, slot := 7, constantValue := 0 }, { name := "format", type := .byte, accessFlags := 2, slot := 8, constantValue := 0 }, { name := "BUILTIN_CLASS_LOADER", type := .byte, accessFlags := 26, slot := 2, constantValue := 0 }, { name := "JDK_NON_UPGRADEABLE_MODULE", type := .byte, accessFlags := 26, slot := 3, constantValue := 0 }, { name := "serialVersionUID", type := .long, accessFlags := 26, slot := 4, constantValue := 0 }]
  methods := #[k21m0]
  instanceTypes := #[(.object "java/lang/Class"), (.object "java/lang/String"), (.object "java/lang/String"), (.object "java/lang/String"), (.object "java/lang/String"), (.object "java/lang/String"), (.object "java/lang/String"), .int, .byte]
  staticTypes := #[(.object "java/lang/String"), (.object "java/lang/String"), .byte, .byte, .long]
  resolved := Array.replicate 235 none
  statics := none }

def pool22 : Array CpInfo := pool [(1, u "java/lang/Cloneable"), (0, .class_ 1), (0, u "java/lang/Object"), (0, .class_ 3)] 3

/-- java/lang/Cloneable -/
def k22 : Class := { plain "java/lang/Cloneable" (some 0) with
  accessFlags := 1537
  interfaces := #[]
  cf := some (fileOf pool22 2 #[] #[] 1537 4 #[] #[])
  fields := #[]
  methods := #[]
  instanceTypes := #[]
  staticTypes := #[]
  resolved := Array.replicate 8 none
  statics := none }

/-- the primitive byte -/
def k23 : Class := { plain "byte" none with kind := .primitive 'B', accessFlags := 0x411 }
/-- [B -/
def k24 : Class := { plain "[B" (some 0) with kind := .array 23 .byte, interfaces := #[22, 2], accessFlags := 1041 }

/-- the primitive int -/
def k25 : Class := { plain "int" none with kind := .primitive 'I', accessFlags := 0x411 }
/-- [I -/
def k26 : Class := { plain "[I" (some 0) with kind := .array 25 .int, interfaces := #[22, 2], accessFlags := 1041 }

/-- [Ljava/lang/Object; -/
def k27 : Class := { plain "[Ljava/lang/Object;" (some 0) with kind := .array 0 (.object "java/lang/Object"), interfaces := #[22, 2], accessFlags := 1041 }

/-- [Ljava/lang/StackTraceElement; -/
def k28 : Class := { plain "[Ljava/lang/StackTraceElement;" (some 0) with kind := .array 21 (.object "java/lang/StackTraceElement"), interfaces := #[22, 2], accessFlags := 1041 }

/-- [Ljava/lang/Throwable; -/
def k29 : Class := { plain "[Ljava/lang/Throwable;" (some 0) with kind := .array 3 (.object "java/lang/Throwable"), interfaces := #[22, 2], accessFlags := 1041 }

def heap : Heap := #[{ cls := 3, slots := #[.long 0, .ref 2, .ref 3, .null, .null, .null, .null, .ref 4, .int 1], vm := .statics 3 },
  { cls := 12, slots := #[.int 0, .int 0, .int 0, .int 0, .int 0, .int 0, .int 0, .int 0, .null, .null, .ref 3, .null], vm := .statics 12 },
  { cls := 28, slots := #[], vm := .none },
  { cls := 20, slots := #[.int 0], vm := .none },
  { cls := 29, slots := #[], vm := .none }]
def classes : Array Class := #[k0, k1, k2, k3, k4, k5, k6, k7, k8, k9, k10, k11, k12, k13, k14, k15, k16, k17, k18, k19, k20, k21, k22, k23, k24, k25, k26, k27, k28, k29]
def interned : List (Array UInt16 × Addr) := []
def slotsUsed : Nat := 22
def theMethod : MethodId := ⟨1, 1⟩
def args0 : Array Value := #[.int 3, .int 4, .int 5, .int 1]
def aboutOver (below : List Frame) : State where
  vm := { classes := classes, interned := interned.toArray }
  heap := heap
  slotsUsed := slotsUsed
  threads := #[{ frames := .invoking theMethod args0 :: below }]
def below0 : List Frame := [.native { method := ⟨0, 0⟩, args := #[] }]
def about1 : State := aboutOver below0
def p0 : Program := .bare "" "" ""
def e0 : Env := launch0.env 0 0 0
theorem w_frames : about1.frames = Frame.invoking theMethod args0 :: below0 := rfl
set_option maxRecDepth 65536 in
theorem w_args : argsFit about1.vm theMethod args0 = true := by decide +kernel
set_option maxRecDepth 65536 in
theorem w_heap : heapFits about1 = true := by decide +kernel
set_option maxRecDepth 65536 in
theorem w_runnable : about1.curStatus? = some .runnable := by decide +kernel
set_option maxRecDepth 65536 in
theorem w_alone : about1.alone = true := by decide +kernel
set_option maxRecDepth 65536 in
theorem w_named : about1.methodNamed? x = some theMethod := by decide +kernel
set_option maxRecDepth 65536 in
theorem w_hears : about1.hears theMethod below0 = true := by decide +kernel
set_option maxRecDepth 65536 in
theorem w_ripe : about1.ripe theMethod args0 below0 = true := by decide +kernel
theorem w_running : about1.status = .running := rfl
set_option maxRecDepth 65536 in
theorem w_room : about1.hasRoom e0.platform room_1 = true :=
  launch0.hasRoom_least _ room_1 (by decide +kernel) (by decide +kernel) (by decide +kernel) (by decide +kernel) (by decide +kernel) (by decide +kernel)
theorem allAtoms_all (ts : List Jvm.Cond) (a : Array Jvm.Value) (st : Jvm.State) : (allAtoms ts).before a st = ts.all (fun c => c.before a st) := by
  induction ts with
  | nil => rfl
  | cons c t ih =>
    show (Jvm.Cond.and c (allAtoms t)).before a st = _
    rw [Jvm.Cond.before_and, ih, List.all_cons]
def words1 : List Jvm.Cond := Jvm.Cond.code x code maxLocals ret :: tables_1
/-- a 'code' word, met by the world's own term for the bytes: nothing is compared byte by byte -/
theorem code_word {y : MethodName} {bytes : ByteArray} {mx : Nat} {rt : Option FieldType} {a : Array Value} {s : State} {m : MethodId} {meth : Method} {c : Code} (h1 : s.methodNamed? y = some m) (h2 : s.vm.method? m = some meth) (h3 : meth.code = some c) (h4 : c.code = bytes)
    (h5 : (c.maxLocals == mx && c.exceptionTable.isEmpty && decide (c.maxStack ≤ mostOperands) && decide (meth.sig.returnType = rt) && !meth.locks && decide (parseMethodDescriptor y.desc = some meth.sig)) = true) : (Jvm.Cond.code y bytes mx rt).before a s = true := by
  simp only [Bool.and_eq_true, beq_iff_eq, Bool.not_eq_true', decide_eq_true_eq] at h5
  obtain ⟨⟨⟨⟨⟨g1, g2⟩, g3⟩, g4⟩, g5⟩, g6⟩ := h5
  simp [Cond.before, Cond.holds, Cond.value, h1, h2, h3, h4, g1, g2, g3, g4, g5, g6]
def isCode : Jvm.Cond → Bool
  | .code _ _ _ _ => true
  | _ => false
theorem all_split {L : List Jvm.Cond} {P : Jvm.Cond → Bool} (h1 : L.all (fun c => isCode c || P c) = true) (h2 : ∀ c ∈ L.filter isCode, P c = true) : L.all P = true := by
  refine List.all_eq_true.mpr fun c hc => ?_
  have h := List.all_eq_true.mp h1 c hc
  rcases Bool.eq_false_or_eq_true (isCode c) with hi | hi
  · exact h2 c (List.mem_filter.mpr ⟨hc, hi⟩)
  · simpa [hi] using h
set_option maxRecDepth 65536 in
theorem w_c0 : (Jvm.Cond.code x code maxLocals ret).before args0 about1 = true := code_word (m := ⟨1, 1⟩) (meth := k1m1) (c := k1c1) (by decide +kernel) rfl rfl rfl (by decide +kernel)
set_option maxRecDepth 65536 in
theorem w_c1 : (Jvm.Cond.code ({ cls := "com/example/lull/lull/runtime/ScriptError", name := "<init>", desc := "(Ljava/lang/String;)V" } : Jvm.MethodName) prog_97_method_1_code (2 : Nat) (Option.none : Option Jvm.ClassFile.FieldType)).before args0 about1 = true := code_word (m := ⟨6, 0⟩) (meth := k6m0) (c := k6c0) (by decide +kernel) rfl rfl rfl (by decide +kernel)
set_option maxRecDepth 65536 in
theorem w_c2 : (Jvm.Cond.code ({ cls := "java/lang/RuntimeException", name := "<init>", desc := "(Ljava/lang/String;)V" } : Jvm.MethodName) jdk_58_method_2_code (2 : Nat) (Option.none : Option Jvm.ClassFile.FieldType)).before args0 about1 = true := code_word (m := ⟨5, 1⟩) (meth := k5m1) (c := k5c1) (by decide +kernel) rfl rfl rfl (by decide +kernel)
set_option maxRecDepth 65536 in
theorem w_c3 : (Jvm.Cond.code ({ cls := "java/lang/Exception", name := "<init>", desc := "(Ljava/lang/String;)V" } : Jvm.MethodName) jdk_59_method_2_code (2 : Nat) (Option.none : Option Jvm.ClassFile.FieldType)).before args0 about1 = true := code_word (m := ⟨4, 1⟩) (meth := k4m1) (c := k4c1) (by decide +kernel) rfl rfl rfl (by decide +kernel)
set_option maxRecDepth 65536 in
theorem w_c4 : (Jvm.Cond.code ({ cls := "java/lang/Throwable", name := "<init>", desc := "(Ljava/lang/String;)V" } : Jvm.MethodName) jdk_78_method_2_code (2 : Nat) (Option.none : Option Jvm.ClassFile.FieldType)).before args0 about1 = true := code_word (m := ⟨3, 1⟩) (meth := k3m1) (c := k3c1) (by decide +kernel) rfl rfl rfl (by decide +kernel)
set_option maxRecDepth 65536 in
theorem w_c5 : (Jvm.Cond.code ({ cls := "java/lang/Object", name := "<init>", desc := "()V" } : Jvm.MethodName) object_method_1_code (1 : Nat) (Option.none : Option Jvm.ClassFile.FieldType)).before args0 about1 = true := code_word (m := ⟨0, 0⟩) (meth := k0m0) (c := k0c0) (by decide +kernel) rfl rfl rfl (by decide +kernel)
set_option maxRecDepth 65536 in
theorem w_c6 : (Jvm.Cond.code ({ cls := "java/lang/Throwable", name := "<init>", desc := "()V" } : Jvm.MethodName) jdk_78_method_1_code (1 : Nat) (Option.none : Option Jvm.ClassFile.FieldType)).before args0 about1 = true := code_word (m := ⟨3, 0⟩) (meth := k3m0) (c := k3c0) (by decide +kernel) rfl rfl rfl (by decide +kernel)
set_option maxRecDepth 65536 in
theorem w_c7 : (Jvm.Cond.code ({ cls := "com/example/lull/lull/runtime/ScriptError", name := "line", desc := "()I" } : Jvm.MethodName) prog_97_method_4_code (1 : Nat) (Option.some Jvm.ClassFile.FieldType.int)).before args0 about1 = true := code_word (m := ⟨6, 1⟩) (meth := k6m1) (c := k6c1) (by decide +kernel) rfl rfl rfl (by decide +kernel)
set_option maxRecDepth 65536 in
theorem w_c8 : (Jvm.Cond.code ({ cls := "com/example/lull/lull/runtime/ScriptError", name := "atLine", desc := "(I)Lcom/example/lull/lull/runtime/ScriptError;" } : Jvm.MethodName) prog_97_method_5_code (2 : Nat) (Option.some (Jvm.ClassFile.FieldType.object "com/example/lull/lull/runtime/ScriptError"))).before args0 about1 = true := code_word (m := ⟨6, 2⟩) (meth := k6m2) (c := k6c2) (by decide +kernel) rfl rfl rfl (by decide +kernel)
def codes1 : List Jvm.Cond := [Jvm.Cond.code x code maxLocals ret, Jvm.Cond.code ({ cls := "com/example/lull/lull/runtime/ScriptError", name := "<init>", desc := "(Ljava/lang/String;)V" } : Jvm.MethodName) prog_97_method_1_code (2 : Nat) (Option.none : Option Jvm.ClassFile.FieldType), Jvm.Cond.code ({ cls := "java/lang/RuntimeException", name := "<init>", desc := "(Ljava/lang/String;)V" } : Jvm.MethodName) jdk_58_method_2_code (2 : Nat) (Option.none : Option Jvm.ClassFile.FieldType), Jvm.Cond.code ({ cls := "java/lang/Exception", name := "<init>", desc := "(Ljava/lang/String;)V" } : Jvm.MethodName) jdk_59_method_2_code (2 : Nat) (Option.none : Option Jvm.ClassFile.FieldType), Jvm.Cond.code ({ cls := "java/lang/Throwable", name := "<init>", desc := "(Ljava/lang/String;)V" } : Jvm.MethodName) jdk_78_method_2_code (2 : Nat) (Option.none : Option Jvm.ClassFile.FieldType), Jvm.Cond.code ({ cls := "java/lang/Object", name := "<init>", desc := "()V" } : Jvm.MethodName) object_method_1_code (1 : Nat) (Option.none : Option Jvm.ClassFile.FieldType), Jvm.Cond.code ({ cls := "java/lang/Throwable", name := "<init>", desc := "()V" } : Jvm.MethodName) jdk_78_method_1_code (1 : Nat) (Option.none : Option Jvm.ClassFile.FieldType), Jvm.Cond.code ({ cls := "com/example/lull/lull/runtime/ScriptError", name := "line", desc := "()I" } : Jvm.MethodName) prog_97_method_4_code (1 : Nat) (Option.some Jvm.ClassFile.FieldType.int), Jvm.Cond.code ({ cls := "com/example/lull/lull/runtime/ScriptError", name := "atLine", desc := "(I)Lcom/example/lull/lull/runtime/ScriptError;" } : Jvm.MethodName) prog_97_method_5_code (2 : Nat) (Option.some (Jvm.ClassFile.FieldType.object "com/example/lull/lull/runtime/ScriptError"))]
set_option maxRecDepth 65536 in
theorem codes_eq : words1.filter isCode = codes1 := rfl
theorem w_codes : ∀ c ∈ words1.filter isCode, c.before args0 about1 = true := by
  rw [codes_eq]
  intro c hc
  simp only [codes1, List.mem_cons, List.not_mem_nil, or_false] at hc
  rcases hc with rfl | rfl | rfl | rfl | rfl | rfl | rfl | rfl | rfl
  · exact w_c0
  · exact w_c1
  · exact w_c2
  · exact w_c3
  · exact w_c4
  · exact w_c5
  · exact w_c6
  · exact w_c7
  · exact w_c8
set_option maxRecDepth 65536 in
theorem w_t1 : (words1.take 24).all (fun c => isCode c || c.before args0 about1) = true := by decide +kernel
set_option maxRecDepth 65536 in
theorem w_t2 : ((words1.drop 24).take 24).all (fun c => isCode c || c.before args0 about1) = true := by decide +kernel
set_option maxRecDepth 65536 in
theorem w_t3 : (((words1.drop 24).drop 24).take 24).all (fun c => isCode c || c.before args0 about1) = true := by decide +kernel
set_option maxRecDepth 65536 in
theorem w_t4 : (((words1.drop 24).drop 24).drop 24).all (fun c => isCode c || c.before args0 about1) = true := by decide +kernel
theorem w_tables : (allAtoms (Jvm.Cond.code x code maxLocals ret :: tables_1)).before args0 about1 = true := by
  rw [allAtoms_all]
  show words1.all (fun c => c.before args0 about1) = true
  refine all_split ?_ w_codes
  rw [← List.take_append_drop 24 words1, List.all_append, w_t1, ← List.take_append_drop 24 (words1.drop 24), List.all_append, w_t2, ← List.take_append_drop 24 ((words1.drop 24).drop 24), List.all_append, w_t3, w_t4]
  rfl
set_option maxRecDepth 65536 in
theorem w_rest : rest_1_c.before args0 about1 = true := by decide +kernel
set_option maxRecDepth 65536 in
theorem w_case : (Jvm.Cond.and given_1 narrow_1).before args0 about1 = true := by decide +kernel
theorem w_applies : (headSpec (Jvm.Cond.code x code maxLocals ret :: tables_1) room_1).applies x e0.platform about1 = true :=
  (Spec.applies_iff w_frames).mpr ⟨w_running, w_runnable, w_alone, w_named, w_hears, w_ripe, w_room, w_tables⟩
theorem atStart : AtStart classFile x code maxLocals ret World_1 tables_1 room_1 Calls_1 rest_1 Pre_1 launch0 p0 e0 about1 theMethod args0 below0 :=
  ⟨lists_1, trivial, launch0.admits_env _ _ _, launch0.least_env, fairChoices_fair.cas, fairChoices_fair.clock, w_frames, w_args, w_heap, w_applies, ⟨(by decide +kernel : framesKnown about1 = true), ⟨(by decide +kernel : tablesKnown about1 = true), trivial⟩⟩, w_rest, w_case⟩
end start1
theorem witness_1 : WitnessClaimed_1 := ⟨start1.p0, start1.e0, start1.about1, start1.theMethod, start1.args0, start1.below0, start1.atStart⟩
end Jvm.Pilot.@@N@@
