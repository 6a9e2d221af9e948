import JvmDerived
import JvmDerived.Pilot.@@N@@Statement
import JvmDerived.Pilot.@@N@@Code
set_option linter.unusedVariables false
set_option linter.unusedSimpArgs false
namespace Jvm.RoadKit
open Sem ClassFile Op Lib Jvm.Stand Jvm.Free Jvm.LawKit
section New
variable {p : Program} {l : Launch} {e : Env} {R : Room} {s : State} {m : MethodId} {args : Array Value} {below : List Frame} {meth : Method} {c : Code} {T : State} {locs : List Loc} {cells slots : Nat}
theorem retI (X : Stand p l e R s m args below meth c T locs cells slots) (hx : p.tables.exec = Jvm.exec) {pc : Nat} {Ls : Array Slot} {z : Int32} {rest : List Value} (hret : meth.sig.returnType = some .int) (hd : decode c.code pc = .ok (.ireturn, 1)) {fs : List Frame}
    (hl : ∀ (f : JFrame) (acts : List Action), f.method = m → f.locked = none → f.entered = [] → (doReturn e (T.setTop f) acts (some (.int z))).1 = T.setFrames fs) : Steps p.tables e below (T.setTop (mkF m pc Ls (.int z :: rest))) (T.setFrames fs) := by
  have hm' : T.vm.method? m = some meth := X.method'
  have hn : narrow .int (.int z) = .int z := rfl
  show Steps p.tables e below (T.setTop { method := m, pc := pc, locals := Ls, stack := _ :: rest, locked := none }) _
  jvm_step X.here [X.here.top, hx, hd, hm', hret, hn]
  first | (intro acts; rw [hl _ acts rfl rfl rfl]) | rw [hl _ _ rfl rfl rfl]
  exact Steps.refl _
end New
end Jvm.RoadKit
namespace Jvm.Pilot.@@N@@
open Jvm Jvm.ClassFile Sem Op Lib Jvm.Free Jvm.Stand Jvm.LawKit Jvm.RoadKit Bundle Jvm.Pilot.@@N@@.Jvm.D

/-- the run that stands at the frame f over T ends as Q says -/
def own_Go (p : Program) (e : Env) (below : List Frame) (s : State) (Q : Option Value → Heap → List Loc → Prop) (rc rs : Nat) (T : State) (f : JFrame) : Prop :=
  ∃ s₂ o, Steps p.tables e below (T.setTop f) s₂ ∧ s₂.status = .running ∧ Ended s₂ below o ∧ ∃ v L, o = .returned v ∧ Q v s₂.heap L ∧ FrameEnd s o s₂ L rc rs
theorem own_by {p : Program} {e : Env} {below : List Frame} {s : State} {Q : Option Value → Heap → List Loc → Prop} {rc rs : Nat} {T T' : State} {f f' : JFrame} (k : ∀ t, Steps p.tables e below (T'.setTop f') t → Steps p.tables e below (T.setTop f) t) (h : own_Go p e below s Q rc rs T' f') : own_Go p e below s Q rc rs T f := by
  obtain ⟨s₂, o, st, r⟩ := h
  exact ⟨s₂, o, k _ st, r⟩
theorem own_mk {p : Program} {e : Env} {below : List Frame} {s : State} {Q : Option Value → Heap → List Loc → Prop} {rc rs : Nat} {T : State} {f : JFrame} (h : ∃ s₂ o, Steps p.tables e below (T.setTop f) s₂ ∧ s₂.status = .running ∧ Ended s₂ below o ∧ ∃ v L, o = .returned v ∧ Q v s₂.heap L ∧ FrameEnd s o s₂ L rc rs) : own_Go p e below s Q rc rs T f := h
theorem own_open {p : Program} {e : Env} {below : List Frame} {s : State} {Q : Option Value → Heap → List Loc → Prop} {rc rs : Nat} {T : State} {f f0 : JFrame} (k : ∀ t, Steps p.tables e below (T.setTop f) t → Steps p.tables e below (T.setTop f0) t) (h : own_Go p e below s Q rc rs T f) : ∃ s₂ o, Steps p.tables e below (T.setTop f0) s₂ ∧ s₂.status = .running ∧ Ended s₂ below o ∧ ∃ v L, o = .returned v ∧ Q v s₂.heap L ∧ FrameEnd s o s₂ L rc rs := by
  obtain ⟨s₂, o, st, r⟩ := h
  exact ⟨s₂, o, k _ st, r⟩
theorem own_eqI {args : Array Value} {s : State} {a : Term} {k : Int32} (h : (Cond.eq a (.int k)).value args s none s [] = some true) : a.eval args s none [] s = some (.int k) := by
  obtain ⟨x, y, h1, h2, -, K⟩ := cmp_v (Or.inl h)
  have e : y = .int k := (Option.some.inj h2).symm
  subst e
  obtain ⟨z, rfl⟩ := K
  have q : z = k := by simpa [Cond.value, h1, h2] using h
  rw [h1, q]
theorem own_extt {h h' h'' : Heap} (E : Ext h h') (E' : Ext h' h'') : Ext h h'' := ⟨Nat.le_trans E.1 E'.1, fun a c q => E'.2 a c (E.2 a c q)⟩
theorem own_extw {h h' h'' : Heap} {a : Addr} {sl : Nat} {v : Value} (E : Ext h h') (W : Wr h' h'' a sl v) (g : h.size ≤ a) : Ext h h'' := by
  refine ⟨Nat.le_trans E.1 (Nat.le_of_eq W.size.symm), fun b c q => ?_⟩
  have ne : b ≠ a := Nat.ne_of_lt (Nat.lt_of_lt_of_le (Array.getElem?_eq_some_iff.mp q).1 g)
  obtain ⟨cell, -, -, -, rfl⟩ := W
  rw [Array.getElem?_setIfInBounds_ne (Ne.symm ne)]
  exact E.2 b c q
theorem own_eqL {args : Array Value} {s : State} {a : Term} {k : Int64} (h : (Cond.eq a (.long k)).value args s none s [] = some true) : a.eval args s none [] s = some (.long k) := by
  obtain ⟨x, y, h1, h2, -, K⟩ := cmp_v (Or.inl h)
  have e : y = .long k := (Option.some.inj h2).symm
  subst e
  obtain ⟨z, rfl⟩ := K
  have q : z = k := by simpa [Cond.value, h1, h2] using h
  rw [h1, q]
theorem own_eqR {args : Array Value} {s : State} {a b : Term} {r : Addr} (h : (Cond.eq a b).value args s none s [] = some true) (hb : b.eval args s none [] s = some (.ref r)) : a.eval args s none [] s = some (.ref r) := by
  obtain ⟨x, y, h1, h2, -, K⟩ := cmp_v (Or.inl h)
  cases hb.symm.trans h2
  rcases ref_cases K.2 with rfl | ⟨q, rfl⟩
  · simp [Cond.value, h1, h2] at h
  · have e : q = r := by simpa [Cond.value, h1, h2] using h
    rw [h1, e]
theorem own_cmp0 {x y : Int64} (h : x = y) : XT.cmpL x y = 0 := by subst h; unfold XT.cmpL; rw [if_neg (by simp), if_pos rfl]
theorem own_cmp1 {x y : Int64} (h : ¬ x = y) : ¬ XT.cmpL x y = 0 := by
  unfold XT.cmpL
  by_cases q : y < x
  · rw [if_pos q]; decide
  · rw [if_neg q, if_neg h]; decide
theorem own_fldL {args : Array Value} {s : State} {t : Term} {C n d : String} {x : Addr} {k : Int64} (ev : t.eval args s none [] s = some (.ref x)) (h : (Cond.eq (.field t C n d) (.long k)).value args s none s [] = some true) : Fld s s.heap x C n d (.long k) := Fld.start ((fld_at ev).symm.trans (own_eqL h))
theorem own_fld {args : Array Value} {s : State} {t : Term} {C n d : String} {x : Addr} {k : Int32} (ev : t.eval args s none [] s = some (.ref x)) (h : (Cond.eq (.field t C n d) (.int k)).value args s none s [] = some true) : Fld s s.heap x C n d (.int k) := Fld.start ((fld_at ev).symm.trans (own_eqI h))

theorem own_mod (x y : Int32) (d : Int) (hy : y.toInt = d) (hd : 0 < d) : 0 ≤ ((x &&& 2147483647) % y).toInt ∧ ((x &&& 2147483647) % y).toInt < d := by
  have h0 : 0 ≤ (x &&& 2147483647).toInt := (c_andS x 2147483647).2.2 (by decide)
  rw [(c_irem _ y d hy).1 h0]
  exact ⟨Int.emod_nonneg _ (by omega), Int.emod_lt_of_pos _ hd⟩
theorem own_k (x : Int32) : (x &&& 2147483647) % 14 = 0 ∨ (x &&& 2147483647) % 14 = 1 ∨ (x &&& 2147483647) % 14 = 2 ∨ (x &&& 2147483647) % 14 = 3 ∨ (x &&& 2147483647) % 14 = 4 ∨ (x &&& 2147483647) % 14 = 5 ∨ (x &&& 2147483647) % 14 = 6 ∨ (x &&& 2147483647) % 14 = 7 ∨ (x &&& 2147483647) % 14 = 8 ∨ (x &&& 2147483647) % 14 = 9 ∨ (x &&& 2147483647) % 14 = 10 ∨ (x &&& 2147483647) % 14 = 11 ∨ (x &&& 2147483647) % 14 = 12 ∨ (x &&& 2147483647) % 14 = 13 := by
  obtain ⟨h1, h2⟩ := own_mod x 14 14 rfl (by decide)
  generalize (x &&& 2147483647) % 14 = k at h1 h2 ⊢
  simp only [← Int32.toInt_inj, Int32.reduceToInt]
  omega
theorem own_xor {k y : Nat} (h : y < 2 ^ k) : 2 ^ k ^^^ y = 2 ^ k + y := by
  have q := Nat.two_pow_add_eq_or_of_lt h 1
  rw [Nat.mul_one] at q
  rw [q]
  apply Nat.eq_of_testBit_eq
  intro i
  rw [Nat.testBit_xor, Nat.testBit_or, Nat.testBit_two_pow]
  by_cases e : k = i
  · subst e; simp [Nat.testBit_lt_two_pow h]
  · simp [e]
theorem own_xor2 {k y : Nat} (h : y < 2 ^ k) : (2 ^ k + y) ^^^ 2 ^ k = y := by
  rw [← own_xor h, Nat.xor_comm, ← Nat.xor_assoc, Nat.xor_self, Nat.zero_xor]
theorem own_xr {k r : Nat} (h : r < 2 ^ (k + 1)) : r ^^^ 2 ^ k = if r < 2 ^ k then 2 ^ k + r else r - 2 ^ k := by
  split
  · rename_i q; rw [Nat.xor_comm]; exact own_xor q
  · rename_i q
    have e : 2 ^ k + (r - 2 ^ k) = r := by omega
    have l : r - 2 ^ k < 2 ^ k := by rw [Nat.pow_succ] at h; omega
    have w := own_xor2 l
    rw [e] at w
    exact w
theorem own_toInt (x : Int32) : x.toInt = if x.toBitVec.toNat < 2147483648 then (x.toBitVec.toNat : Int) else (x.toBitVec.toNat : Int) - 4294967296 := by
  show x.toBitVec.toInt = _
  rw [BitVec.toInt_eq_toNat_cond]
  split <;> split <;> omega
theorem own_b (x : Int32) : (x).toInt8.toInt32 = ((x &&& 255) ^^^ 128) - 128 := by
  apply Int32.toInt_inj.mp
  rw [Int8.toInt_toInt32, Int32.toInt_toInt8]
  have hy : (x &&& 255).toBitVec.toNat = x.toBitVec.toNat % 256 := by
    rw [Int32.toBitVec_and, BitVec.toNat_and]; exact Nat.and_two_pow_sub_one_eq_mod _ 8
  have hq : ((x &&& 255) ^^^ 128).toBitVec.toNat = (x.toBitVec.toNat % 256) ^^^ 2 ^ 7 := by
    rw [Int32.toBitVec_xor, BitVec.toNat_xor, hy]; rfl
  rw [own_xr (k := 7) (Nat.mod_lt _ (by decide))] at hq
  have e1 := own_toInt x
  have e2 := own_toInt ((x &&& 255) ^^^ 128)
  have e3 := c_isub ((x &&& 255) ^^^ 128) 128
  have e4 : (128 : Int32).toInt = 128 := rfl
  have e5 := rng32 (((x &&& 255) ^^^ 128) - 128)
  have e6 := x.toBitVec.isLt
  rw [Int.bmod_def]
  split at e1 <;> split at e2 <;> split at hq <;> split <;> omega
theorem own_s (x : Int32) : (x).toInt16.toInt32 = ((x &&& 65535) ^^^ 32768) - 32768 := by
  apply Int32.toInt_inj.mp
  rw [Int16.toInt_toInt32, Int32.toInt_toInt16]
  have hy : (x &&& 65535).toBitVec.toNat = x.toBitVec.toNat % 65536 := by
    rw [Int32.toBitVec_and, BitVec.toNat_and]; exact Nat.and_two_pow_sub_one_eq_mod _ 16
  have hq : ((x &&& 65535) ^^^ 32768).toBitVec.toNat = (x.toBitVec.toNat % 65536) ^^^ 2 ^ 15 := by
    rw [Int32.toBitVec_xor, BitVec.toNat_xor, hy]; rfl
  rw [own_xr (k := 15) (Nat.mod_lt _ (by decide))] at hq
  have e1 := own_toInt x
  have e2 := own_toInt ((x &&& 65535) ^^^ 32768)
  have e3 := c_isub ((x &&& 65535) ^^^ 32768) 32768
  have e4 : (32768 : Int32).toInt = 32768 := rfl
  have e5 := rng32 (((x &&& 65535) ^^^ 32768) - 32768)
  have e6 := x.toBitVec.isLt
  rw [Int.bmod_def]
  split at e1 <;> split at e2 <;> split at hq <;> split <;> omega
theorem own_c (x : Int32) : (x).toUInt32.toUInt16.toUInt32.toInt32 = x &&& 65535 := by
  apply Int32.toBitVec_inj.mp
  apply BitVec.eq_of_toNat_eq
  rw [Int32.toBitVec_and, BitVec.toNat_and]
  refine Eq.trans ?_ (Nat.and_two_pow_sub_one_eq_mod x.toBitVec.toNat 16).symm
  show x.toUInt32.toUInt16.toUInt32.toNat = _
  simp
  rfl

theorem d1_0 : decode prog_193_method_5_code 0 = .ok (.aload_n 0, 1) := by decide +kernel
theorem d1_1 : decode prog_193_method_5_code 1 = .ok (.getstatic 3, 3) := by decide +kernel
theorem d1_4 : decode prog_193_method_5_code 4 = .ok (.if_acmp .ne 9, 3) := by decide +kernel
theorem d1_7 : decode prog_193_method_5_code 7 = .ok (.iload_n 1, 1) := by decide +kernel
theorem d1_8 : decode prog_193_method_5_code 8 = .ok (.i2b, 1) := by decide +kernel
theorem d1_9 : decode prog_193_method_5_code 9 = .ok (.istore_n 2, 1) := by decide +kernel
theorem d1_10 : decode prog_193_method_5_code 10 = .ok (.goto 31, 3) := by decide +kernel
theorem d1_13 : decode prog_193_method_5_code 13 = .ok (.aload_n 0, 1) := by decide +kernel
theorem d1_14 : decode prog_193_method_5_code 14 = .ok (.getstatic 7, 3) := by decide +kernel
theorem d1_17 : decode prog_193_method_5_code 17 = .ok (.if_acmp .ne 9, 3) := by decide +kernel
theorem d1_20 : decode prog_193_method_5_code 20 = .ok (.iload_n 1, 1) := by decide +kernel
theorem d1_21 : decode prog_193_method_5_code 21 = .ok (.i2s, 1) := by decide +kernel
theorem d1_22 : decode prog_193_method_5_code 22 = .ok (.istore_n 2, 1) := by decide +kernel
theorem d1_23 : decode prog_193_method_5_code 23 = .ok (.goto 18, 3) := by decide +kernel
theorem d1_26 : decode prog_193_method_5_code 26 = .ok (.aload_n 0, 1) := by decide +kernel
theorem d1_27 : decode prog_193_method_5_code 27 = .ok (.getstatic 10, 3) := by decide +kernel
theorem d1_30 : decode prog_193_method_5_code 30 = .ok (.if_acmp .ne 9, 3) := by decide +kernel
theorem d1_33 : decode prog_193_method_5_code 33 = .ok (.iload_n 1, 1) := by decide +kernel
theorem d1_34 : decode prog_193_method_5_code 34 = .ok (.i2c, 1) := by decide +kernel
theorem d1_35 : decode prog_193_method_5_code 35 = .ok (.istore_n 2, 1) := by decide +kernel
theorem d1_36 : decode prog_193_method_5_code 36 = .ok (.goto 5, 3) := by decide +kernel
theorem d1_39 : decode prog_193_method_5_code 39 = .ok (.iload_n 1, 1) := by decide +kernel
theorem d1_40 : decode prog_193_method_5_code 40 = .ok (.istore_n 2, 1) := by decide +kernel
theorem d1_41 : decode prog_193_method_5_code 41 = .ok (.iload_n 2, 1) := by decide +kernel
theorem d1_42 : decode prog_193_method_5_code 42 = .ok (.ireturn, 1) := by decide +kernel
theorem own_pn1 : plainName "com/example/subscript/subscript/Type$Kind" = true := by first | (simp [plainName, overriddenIn]; done) | decide +kernel
theorem own_ef1 (m : MethodId) (x0 : Addr) (x1 : Int32) : entryFrame m #[(.ref x0), (.int x1)] 3 = mkF m 0 #[.val (.ref x0), .val (.int x1), .unset] [] := by first | (simp [entryFrame, mkF, argsToLocals, Value.category, maxLocals]; done) | rfl
theorem own_pd1 : parseMethodDescriptor "(I)I" = some ⟨[.int], some .int⟩ := by decide +kernel
def Q1 (a1 : Addr) (p2 : Int32) (w_BYTE w_SHORT w_CHAR : Addr) (h0 : Heap) (n0 : Nat) (v : Option Value) (h : Heap) (L : List Loc) : Prop := v = some (.int (if a1 = w_BYTE then (p2).toInt8.toInt32 else if a1 = w_SHORT then (p2).toInt16.toInt32 else if a1 = w_CHAR then (p2).toUInt32.toUInt16.toUInt32.toInt32 else p2)) ∧ Fr n0 L ∧ h = h0
set_option maxRecDepth 65536 in
set_option maxHeartbeats 40000000 in
theorem rm1 (l : Launch) (Z : State) (a0 : Array Value) (hw : ∀ d ∈ tables_1, d.before a0 Z = true) (ws : List Jvm.Cond) (a1 : Addr) (p2 : Int32) (w_BYTE w_SHORT w_CHAR : Addr) (h0 : Heap) (n0 : Nat) (Z0 : n0 ≤ h0.size) (S_BYTE : Sta Z h0 "com/example/subscript/subscript/Type$Kind" "BYTE" "Lcom/example/subscript/subscript/Type$Kind;" (.ref w_BYTE)) (S_SHORT : Sta Z h0 "com/example/subscript/subscript/Type$Kind" "SHORT" "Lcom/example/subscript/subscript/Type$Kind;" (.ref w_SHORT)) (S_CHAR : Sta Z h0 "com/example/subscript/subscript/Type$Kind" "CHAR" "Lcom/example/subscript/subscript/Type$Kind;" (.ref w_CHAR)) :
    MetFree l (⟨"com/example/subscript/subscript/Type$Kind", "narrow", "(I)I"⟩ : MethodName) (head1 (Jvm.Cond.code (⟨"com/example/subscript/subscript/Type$Kind", "narrow", "(I)I"⟩ : MethodName) prog_193_method_5_code 3 (Option.some Jvm.ClassFile.FieldType.int) :: ws) ({ frames := 0, cells := 0, slots := 0, locals := 0 } : Room)) (fun a U => a = #[(.ref a1), (.int p2)] ∧ Z.Warmed39 U.vm ∧ U.heap = h0) (fun _ _ _ _ _ => True) (fun _ U o U' => ∃ v L, o = .returned v ∧ Q1 a1 p2 w_BYTE w_SHORT w_CHAR h0 n0 v U'.heap L ∧ FrameEnd U o U' L ({ frames := 0, cells := 0, slots := 0, locals := 0 } : Room).cells ({ frames := 0, cells := 0, slots := 0, locals := 0 } : Room).slots) := by
  refine MetFree.of_bodySF (plainFor_of_name own_pn1) hisR ?_
  intro p e s m args below meth c s₁ Bd hml0 hP hK
  obtain ⟨rfl, hZ, hh⟩ := hP
  have hx := Bd.exec
  have hby := Bd.bytes
  have hml : c.maxLocals = 3 := hml0
  have hown : s.vm.findClass "com/example/subscript/subscript/Type$Kind" = some m.cls := findClass_of_methodNamed Bd.named
  have hnm := (name_of_methodNamed Bd.named Bd.method).1
  have X0 : Stand p l e ({ frames := 0, cells := 0, slots := 0, locals := 0 } : Room) s m #[(.ref a1), (.int p2)] below meth c s₁ [] 0 0 := Stand.of_body Bd
  have e0 : s₁.heap = h0 := by rw [← hh, Bd.state]; rfl
  have N0 := Fr.nil n0
  refine own_open (f := (mkF m 0 #[.val (.ref a1), .val (.int p2), .unset] [])) (fun t k => castTop (own_ef1 m a1 p2) k) ?_
  refine own_by (f' := (mkF m 1 #[.val (.ref a1), .val (.int p2), .unset] [(.ref a1)])) (fun t h => XS.aloadN X0.here hx rfl (hb hby d1_0) rfl rfl h) ?_
  obtain ⟨T1, X1, e1, st1⟩ := getS2 X0 hx hZ hown (host := "") (Or.inl (hw _ (List.mem_of_getElem? (i := 38) rfl))) Via.refl e0 S_BYTE (g := (mkF m 1 #[.val (.ref a1), .val (.int p2), .unset] [(.ref a1)])) rfl (hb hby d1_1)
  refine own_by (f' := (mkF m 4 #[.val (.ref a1), .val (.int p2), .unset] [(.ref w_BYTE), (.ref a1)])) st1 ?_
  by_cases hc4_2 : a1 = w_BYTE
  · refine own_by (f' := (mkF m 7 #[.val (.ref a1), .val (.int p2), .unset] [])) (fun t h => Jvm.RoadKit.acmp (g := (mkF m 4 #[.val (.ref a1), .val (.int p2), .unset] [(.ref w_BYTE), (.ref a1)])) X1 hx rfl rfl rfl (pc0 := 4) (pc' := 7) (same := true) rfl (hb hby d1_4) rfl (decide_eq_true (congrArg Value.ref hc4_2)) (by decide) (by decide) h) ?_
    refine own_by (f' := (mkF m 8 #[.val (.ref a1), .val (.int p2), .unset] [(.int p2)])) (fun t h => XS.iloadN X1.here hx rfl (hb hby d1_7) rfl h) ?_
    refine own_by (f' := (mkF m 9 #[.val (.ref a1), .val (.int p2), .unset] [(.int (p2).toInt8.toInt32)])) (fun t h => XT.i2b X1.here hx rfl (hb hby d1_8) rfl h) ?_
    refine own_by (f' := (mkF m 10 #[.val (.ref a1), .val (.int p2), .val (.int (p2).toInt8.toInt32)] [])) (fun t h => XS.istoreN X1.here hx rfl (hb hby d1_9) rfl (l' := #[.val (.ref a1), .val (.int p2), .val (.int (p2).toInt8.toInt32)]) rfl h) ?_
    refine own_by (f' := (mkF m 41 #[.val (.ref a1), .val (.int p2), .val (.int (p2).toInt8.toInt32)] [])) (fun t h => XS.goto X1.here hx rfl (pc0 := 10) (pc' := 41) rfl (hb hby d1_10) (by decide) (by decide) h) ?_
    refine own_by (f' := (mkF m 42 #[.val (.ref a1), .val (.int p2), .val (.int (p2).toInt8.toInt32)] [(.int (p2).toInt8.toInt32)])) (fun t h => XS.iloadN X1.here hx rfl (hb hby d1_41) rfl h) ?_
    obtain ⟨fs, hr, hrun, hended, hW, hsame⟩ := X1.leave (v := some (.int (p2).toInt8.toInt32)) (fun h => by rw [Bd.returns] at h; cases h)
    refine own_mk ⟨_, _, retI X1 hx Bd.returns (hb hby d1_42) hr, hrun, hended, _, _, rfl, ?_, ⟨_, rfl⟩, hW, hsame.mono (by decide) (by decide)⟩
    show Q1 a1 p2 w_BYTE w_SHORT w_CHAR h0 n0 _ T1.heap _
    rw [e1]
    exact ⟨(congrArg (fun z => some (Value.int z)) (if_pos hc4_2)).symm, N0, rfl⟩
  · refine own_by (f' := (mkF m 13 #[.val (.ref a1), .val (.int p2), .unset] [])) (fun t h => Jvm.RoadKit.acmp (g := (mkF m 4 #[.val (.ref a1), .val (.int p2), .unset] [(.ref w_BYTE), (.ref a1)])) X1 hx rfl rfl rfl (pc0 := 4) (pc' := 13) (same := false) rfl (hb hby d1_4) rfl (decide_eq_false fun q => hc4_2 (Value.ref.inj q)) (by decide) (by decide) h) ?_
    refine own_by (f' := (mkF m 14 #[.val (.ref a1), .val (.int p2), .unset] [(.ref a1)])) (fun t h => XS.aloadN X1.here hx rfl (hb hby d1_13) rfl rfl h) ?_
    obtain ⟨T3, X3, e3, st3⟩ := getS2 X1 hx hZ hown (host := "") (Or.inl (hw _ (List.mem_of_getElem? (i := 39) rfl))) Via.refl e1 S_SHORT (g := (mkF m 14 #[.val (.ref a1), .val (.int p2), .unset] [(.ref a1)])) rfl (hb hby d1_14)
    refine own_by (f' := (mkF m 17 #[.val (.ref a1), .val (.int p2), .unset] [(.ref w_SHORT), (.ref a1)])) st3 ?_
    by_cases hc17_4 : a1 = w_SHORT
    · refine own_by (f' := (mkF m 20 #[.val (.ref a1), .val (.int p2), .unset] [])) (fun t h => Jvm.RoadKit.acmp (g := (mkF m 17 #[.val (.ref a1), .val (.int p2), .unset] [(.ref w_SHORT), (.ref a1)])) X3 hx rfl rfl rfl (pc0 := 17) (pc' := 20) (same := true) rfl (hb hby d1_17) rfl (decide_eq_true (congrArg Value.ref hc17_4)) (by decide) (by decide) h) ?_
      refine own_by (f' := (mkF m 21 #[.val (.ref a1), .val (.int p2), .unset] [(.int p2)])) (fun t h => XS.iloadN X3.here hx rfl (hb hby d1_20) rfl h) ?_
      refine own_by (f' := (mkF m 22 #[.val (.ref a1), .val (.int p2), .unset] [(.int (p2).toInt16.toInt32)])) (fun t h => XT.i2s X3.here hx rfl (hb hby d1_21) rfl h) ?_
      refine own_by (f' := (mkF m 23 #[.val (.ref a1), .val (.int p2), .val (.int (p2).toInt16.toInt32)] [])) (fun t h => XS.istoreN X3.here hx rfl (hb hby d1_22) rfl (l' := #[.val (.ref a1), .val (.int p2), .val (.int (p2).toInt16.toInt32)]) rfl h) ?_
      refine own_by (f' := (mkF m 41 #[.val (.ref a1), .val (.int p2), .val (.int (p2).toInt16.toInt32)] [])) (fun t h => XS.goto X3.here hx rfl (pc0 := 23) (pc' := 41) rfl (hb hby d1_23) (by decide) (by decide) h) ?_
      refine own_by (f' := (mkF m 42 #[.val (.ref a1), .val (.int p2), .val (.int (p2).toInt16.toInt32)] [(.int (p2).toInt16.toInt32)])) (fun t h => XS.iloadN X3.here hx rfl (hb hby d1_41) rfl h) ?_
      obtain ⟨fs, hr, hrun, hended, hW, hsame⟩ := X3.leave (v := some (.int (p2).toInt16.toInt32)) (fun h => by rw [Bd.returns] at h; cases h)
      refine own_mk ⟨_, _, retI X3 hx Bd.returns (hb hby d1_42) hr, hrun, hended, _, _, rfl, ?_, ⟨_, rfl⟩, hW, hsame.mono (by decide) (by decide)⟩
      show Q1 a1 p2 w_BYTE w_SHORT w_CHAR h0 n0 _ T3.heap _
      rw [e3]
      exact ⟨(congrArg (fun z => some (Value.int z)) ((if_neg hc4_2).trans (if_pos hc17_4))).symm, N0, rfl⟩
    · refine own_by (f' := (mkF m 26 #[.val (.ref a1), .val (.int p2), .unset] [])) (fun t h => Jvm.RoadKit.acmp (g := (mkF m 17 #[.val (.ref a1), .val (.int p2), .unset] [(.ref w_SHORT), (.ref a1)])) X3 hx rfl rfl rfl (pc0 := 17) (pc' := 26) (same := false) rfl (hb hby d1_17) rfl (decide_eq_false fun q => hc17_4 (Value.ref.inj q)) (by decide) (by decide) h) ?_
      refine own_by (f' := (mkF m 27 #[.val (.ref a1), .val (.int p2), .unset] [(.ref a1)])) (fun t h => XS.aloadN X3.here hx rfl (hb hby d1_26) rfl rfl h) ?_
      obtain ⟨T5, X5, e5, st5⟩ := getS2 X3 hx hZ hown (host := "") (Or.inl (hw _ (List.mem_of_getElem? (i := 40) rfl))) Via.refl e3 S_CHAR (g := (mkF m 27 #[.val (.ref a1), .val (.int p2), .unset] [(.ref a1)])) rfl (hb hby d1_27)
      refine own_by (f' := (mkF m 30 #[.val (.ref a1), .val (.int p2), .unset] [(.ref w_CHAR), (.ref a1)])) st5 ?_
      by_cases hc30_6 : a1 = w_CHAR
      · refine own_by (f' := (mkF m 33 #[.val (.ref a1), .val (.int p2), .unset] [])) (fun t h => Jvm.RoadKit.acmp (g := (mkF m 30 #[.val (.ref a1), .val (.int p2), .unset] [(.ref w_CHAR), (.ref a1)])) X5 hx rfl rfl rfl (pc0 := 30) (pc' := 33) (same := true) rfl (hb hby d1_30) rfl (decide_eq_true (congrArg Value.ref hc30_6)) (by decide) (by decide) h) ?_
        refine own_by (f' := (mkF m 34 #[.val (.ref a1), .val (.int p2), .unset] [(.int p2)])) (fun t h => XS.iloadN X5.here hx rfl (hb hby d1_33) rfl h) ?_
        refine own_by (f' := (mkF m 35 #[.val (.ref a1), .val (.int p2), .unset] [(.int (p2).toUInt32.toUInt16.toUInt32.toInt32)])) (fun t h => XT.i2c X5.here hx rfl (hb hby d1_34) rfl h) ?_
        refine own_by (f' := (mkF m 36 #[.val (.ref a1), .val (.int p2), .val (.int (p2).toUInt32.toUInt16.toUInt32.toInt32)] [])) (fun t h => XS.istoreN X5.here hx rfl (hb hby d1_35) rfl (l' := #[.val (.ref a1), .val (.int p2), .val (.int (p2).toUInt32.toUInt16.toUInt32.toInt32)]) rfl h) ?_
        refine own_by (f' := (mkF m 41 #[.val (.ref a1), .val (.int p2), .val (.int (p2).toUInt32.toUInt16.toUInt32.toInt32)] [])) (fun t h => XS.goto X5.here hx rfl (pc0 := 36) (pc' := 41) rfl (hb hby d1_36) (by decide) (by decide) h) ?_
        refine own_by (f' := (mkF m 42 #[.val (.ref a1), .val (.int p2), .val (.int (p2).toUInt32.toUInt16.toUInt32.toInt32)] [(.int (p2).toUInt32.toUInt16.toUInt32.toInt32)])) (fun t h => XS.iloadN X5.here hx rfl (hb hby d1_41) rfl h) ?_
        obtain ⟨fs, hr, hrun, hended, hW, hsame⟩ := X5.leave (v := some (.int (p2).toUInt32.toUInt16.toUInt32.toInt32)) (fun h => by rw [Bd.returns] at h; cases h)
        refine own_mk ⟨_, _, retI X5 hx Bd.returns (hb hby d1_42) hr, hrun, hended, _, _, rfl, ?_, ⟨_, rfl⟩, hW, hsame.mono (by decide) (by decide)⟩
        show Q1 a1 p2 w_BYTE w_SHORT w_CHAR h0 n0 _ T5.heap _
        rw [e5]
        exact ⟨(congrArg (fun z => some (Value.int z)) ((if_neg hc4_2).trans ((if_neg hc17_4).trans (if_pos hc30_6)))).symm, N0, rfl⟩
      · refine own_by (f' := (mkF m 39 #[.val (.ref a1), .val (.int p2), .unset] [])) (fun t h => Jvm.RoadKit.acmp (g := (mkF m 30 #[.val (.ref a1), .val (.int p2), .unset] [(.ref w_CHAR), (.ref a1)])) X5 hx rfl rfl rfl (pc0 := 30) (pc' := 39) (same := false) rfl (hb hby d1_30) rfl (decide_eq_false fun q => hc30_6 (Value.ref.inj q)) (by decide) (by decide) h) ?_
        refine own_by (f' := (mkF m 40 #[.val (.ref a1), .val (.int p2), .unset] [(.int p2)])) (fun t h => XS.iloadN X5.here hx rfl (hb hby d1_39) rfl h) ?_
        refine own_by (f' := (mkF m 41 #[.val (.ref a1), .val (.int p2), .val (.int p2)] [])) (fun t h => XS.istoreN X5.here hx rfl (hb hby d1_40) rfl (l' := #[.val (.ref a1), .val (.int p2), .val (.int p2)]) rfl h) ?_
        refine own_by (f' := (mkF m 42 #[.val (.ref a1), .val (.int p2), .val (.int p2)] [(.int p2)])) (fun t h => XS.iloadN X5.here hx rfl (hb hby d1_41) rfl h) ?_
        obtain ⟨fs, hr, hrun, hended, hW, hsame⟩ := X5.leave (v := some (.int p2)) (fun h => by rw [Bd.returns] at h; cases h)
        refine own_mk ⟨_, _, retI X5 hx Bd.returns (hb hby d1_42) hr, hrun, hended, _, _, rfl, ?_, ⟨_, rfl⟩, hW, hsame.mono (by decide) (by decide)⟩
        show Q1 a1 p2 w_BYTE w_SHORT w_CHAR h0 n0 _ T5.heap _
        rw [e5]
        exact ⟨(congrArg (fun z => some (Value.int z)) ((if_neg hc4_2).trans ((if_neg hc17_4).trans (if_neg hc30_6)))).symm, N0, rfl⟩
theorem own_pn0 : plainName "com/example/subscript/subscript/KindNarrowPinLaw" = true := by first | (simp [plainName, overriddenIn]; done) | decide +kernel
theorem own_ef0 (m : MethodId) (x0 : Int32) (x1 : Int32) : entryFrame m #[(.int x0), (.int x1)] maxLocals = mkF m 0 #[.val (.int x0), .val (.int x1), .unset, .unset, .unset, .unset, .unset] [] := by first | (simp [entryFrame, mkF, argsToLocals, Value.category, maxLocals]; done) | rfl
def Q0 (n0 : Nat) (v : Option Value) (h : Heap) (L : List Loc) : Prop := v = some (.int 1) ∧ Fr n0 L
set_option maxRecDepth 65536 in
set_option maxHeartbeats 40000000 in
theorem rm0 (l : Launch) (Z : State) (a0 : Array Value) (hw : ∀ d ∈ tables_1, d.before a0 Z = true) (ws : List Jvm.Cond) (p1 p2 : Int32) (w_BYTE w_SHORT w_CHAR w_INT w_LONG w_FLOAT w_DOUBLE w_BOOLEAN w_VOID w_CLASS w_PROGRAM_CLASS w_ARRAY w_NULL w_ERROR : Addr) (h0 : Heap) (n0 : Nat) (Z0 : n0 ≤ h0.size) (S_BYTE : Sta Z h0 "com/example/subscript/subscript/Type$Kind" "BYTE" "Lcom/example/subscript/subscript/Type$Kind;" (.ref w_BYTE)) (S_SHORT : Sta Z h0 "com/example/subscript/subscript/Type$Kind" "SHORT" "Lcom/example/subscript/subscript/Type$Kind;" (.ref w_SHORT)) (S_CHAR : Sta Z h0 "com/example/subscript/subscript/Type$Kind" "CHAR" "Lcom/example/subscript/subscript/Type$Kind;" (.ref w_CHAR)) (S_INT : Sta Z h0 "com/example/subscript/subscript/Type$Kind" "INT" "Lcom/example/subscript/subscript/Type$Kind;" (.ref w_INT)) (S_LONG : Sta Z h0 "com/example/subscript/subscript/Type$Kind" "LONG" "Lcom/example/subscript/subscript/Type$Kind;" (.ref w_LONG)) (S_FLOAT : Sta Z h0 "com/example/subscript/subscript/Type$Kind" "FLOAT" "Lcom/example/subscript/subscript/Type$Kind;" (.ref w_FLOAT)) (S_DOUBLE : Sta Z h0 "com/example/subscript/subscript/Type$Kind" "DOUBLE" "Lcom/example/subscript/subscript/Type$Kind;" (.ref w_DOUBLE)) (S_BOOLEAN : Sta Z h0 "com/example/subscript/subscript/Type$Kind" "BOOLEAN" "Lcom/example/subscript/subscript/Type$Kind;" (.ref w_BOOLEAN)) (S_VOID : Sta Z h0 "com/example/subscript/subscript/Type$Kind" "VOID" "Lcom/example/subscript/subscript/Type$Kind;" (.ref w_VOID)) (S_CLASS : Sta Z h0 "com/example/subscript/subscript/Type$Kind" "CLASS" "Lcom/example/subscript/subscript/Type$Kind;" (.ref w_CLASS)) (S_PROGRAM_CLASS : Sta Z h0 "com/example/subscript/subscript/Type$Kind" "PROGRAM_CLASS" "Lcom/example/subscript/subscript/Type$Kind;" (.ref w_PROGRAM_CLASS)) (S_ARRAY : Sta Z h0 "com/example/subscript/subscript/Type$Kind" "ARRAY" "Lcom/example/subscript/subscript/Type$Kind;" (.ref w_ARRAY)) (S_NULL : Sta Z h0 "com/example/subscript/subscript/Type$Kind" "NULL" "Lcom/example/subscript/subscript/Type$Kind;" (.ref w_NULL)) (S_ERROR : Sta Z h0 "com/example/subscript/subscript/Type$Kind" "ERROR" "Lcom/example/subscript/subscript/Type$Kind;" (.ref w_ERROR)) (E_BYTE : Exa Z h0 w_BYTE "com/example/subscript/subscript/Type$Kind") (E_SHORT : Exa Z h0 w_SHORT "com/example/subscript/subscript/Type$Kind") (E_CHAR : Exa Z h0 w_CHAR "com/example/subscript/subscript/Type$Kind") (E_INT : Exa Z h0 w_INT "com/example/subscript/subscript/Type$Kind") (E_LONG : Exa Z h0 w_LONG "com/example/subscript/subscript/Type$Kind") (E_FLOAT : Exa Z h0 w_FLOAT "com/example/subscript/subscript/Type$Kind") (E_DOUBLE : Exa Z h0 w_DOUBLE "com/example/subscript/subscript/Type$Kind") (E_BOOLEAN : Exa Z h0 w_BOOLEAN "com/example/subscript/subscript/Type$Kind") (E_VOID : Exa Z h0 w_VOID "com/example/subscript/subscript/Type$Kind") (E_CLASS : Exa Z h0 w_CLASS "com/example/subscript/subscript/Type$Kind") (E_PROGRAM_CLASS : Exa Z h0 w_PROGRAM_CLASS "com/example/subscript/subscript/Type$Kind") (E_ARRAY : Exa Z h0 w_ARRAY "com/example/subscript/subscript/Type$Kind") (E_NULL : Exa Z h0 w_NULL "com/example/subscript/subscript/Type$Kind") (E_ERROR : Exa Z h0 w_ERROR "com/example/subscript/subscript/Type$Kind") (ne_SHORT_BYTE : ¬ (w_SHORT = w_BYTE)) (ne_CHAR_BYTE : ¬ (w_CHAR = w_BYTE)) (ne_CHAR_SHORT : ¬ (w_CHAR = w_SHORT)) (ne_INT_BYTE : ¬ (w_INT = w_BYTE)) (ne_INT_SHORT : ¬ (w_INT = w_SHORT)) (ne_INT_CHAR : ¬ (w_INT = w_CHAR)) (ne_LONG_BYTE : ¬ (w_LONG = w_BYTE)) (ne_LONG_SHORT : ¬ (w_LONG = w_SHORT)) (ne_LONG_CHAR : ¬ (w_LONG = w_CHAR)) (ne_FLOAT_BYTE : ¬ (w_FLOAT = w_BYTE)) (ne_FLOAT_SHORT : ¬ (w_FLOAT = w_SHORT)) (ne_FLOAT_CHAR : ¬ (w_FLOAT = w_CHAR)) (ne_DOUBLE_BYTE : ¬ (w_DOUBLE = w_BYTE)) (ne_DOUBLE_SHORT : ¬ (w_DOUBLE = w_SHORT)) (ne_DOUBLE_CHAR : ¬ (w_DOUBLE = w_CHAR)) (ne_BOOLEAN_BYTE : ¬ (w_BOOLEAN = w_BYTE)) (ne_BOOLEAN_SHORT : ¬ (w_BOOLEAN = w_SHORT)) (ne_BOOLEAN_CHAR : ¬ (w_BOOLEAN = w_CHAR)) (ne_VOID_BYTE : ¬ (w_VOID = w_BYTE)) (ne_VOID_SHORT : ¬ (w_VOID = w_SHORT)) (ne_VOID_CHAR : ¬ (w_VOID = w_CHAR)) (ne_CLASS_BYTE : ¬ (w_CLASS = w_BYTE)) (ne_CLASS_SHORT : ¬ (w_CLASS = w_SHORT)) (ne_CLASS_CHAR : ¬ (w_CLASS = w_CHAR)) (ne_PROGRAM_CLASS_BYTE : ¬ (w_PROGRAM_CLASS = w_BYTE)) (ne_PROGRAM_CLASS_SHORT : ¬ (w_PROGRAM_CLASS = w_SHORT)) (ne_PROGRAM_CLASS_CHAR : ¬ (w_PROGRAM_CLASS = w_CHAR)) (ne_ARRAY_BYTE : ¬ (w_ARRAY = w_BYTE)) (ne_ARRAY_SHORT : ¬ (w_ARRAY = w_SHORT)) (ne_ARRAY_CHAR : ¬ (w_ARRAY = w_CHAR)) (ne_NULL_BYTE : ¬ (w_NULL = w_BYTE)) (ne_NULL_SHORT : ¬ (w_NULL = w_SHORT)) (ne_NULL_CHAR : ¬ (w_NULL = w_CHAR)) (ne_ERROR_BYTE : ¬ (w_ERROR = w_BYTE)) (ne_ERROR_SHORT : ¬ (w_ERROR = w_SHORT)) (ne_ERROR_CHAR : ¬ (w_ERROR = w_CHAR)) :
    MetFree l x (head1 (Jvm.Cond.code x code maxLocals ret :: ws) room_1) (fun a U => a = #[(.int p1), (.int p2)] ∧ Z.Warmed39 U.vm ∧ U.heap = h0) (fun _ _ _ _ _ => True) (fun _ U o U' => ∃ v L, o = .returned v ∧ Q0 n0 v U'.heap L ∧ FrameEnd U o U' L room_1.cells room_1.slots) := by
  refine MetFree.of_bodySF (plainFor_of_name own_pn0) hisR ?_
  intro p e s m args below meth c s₁ Bd hml0 hP hK
  obtain ⟨rfl, hZ, hh⟩ := hP
  have hx := Bd.exec
  have hby := Bd.bytes
  have hml : c.maxLocals = 7 := hml0
  have hown : s.vm.findClass "com/example/subscript/subscript/KindNarrowPinLaw" = some m.cls := findClass_of_methodNamed Bd.named
  have hnm := (name_of_methodNamed Bd.named Bd.method).1
  have X0 : Stand p l e room_1 s m #[(.int p1), (.int p2)] below meth c s₁ [] 0 0 := Stand.of_body Bd
  have e0 : s₁.heap = h0 := by rw [← hh, Bd.state]; rfl
  have N0 := Fr.nil n0
  refine own_open (f := (mkF m 0 #[.val (.int p1), .val (.int p2), .unset, .unset, .unset, .unset, .unset] [])) (fun t k => castTop (own_ef0 m p1 p2) k) ?_
  refine own_by (f' := (mkF m 2 #[.val (.int p1), .val (.int p2), .unset, .unset, .unset, .unset, .unset] [(.int (14 : Int32))])) (fun t h => XT.bipushV X0.here hx rfl (14 : Int32) (hb hby at_0) rfl h) ?_
  obtain ⟨T1, h1, k1, X1, e1, Ex1, A1, O1, st1⟩ := newR X0 hx hZ hown (hw _ (List.mem_of_getElem? (i := 0) rfl)) (hw _ (List.mem_of_getElem? (i := 1) rfl)) e0 (g := (mkF m 2 #[.val (.int p1), .val (.int p2), .unset, .unset, .unset, .unset, .unset] [(.int (14 : Int32))])) rfl (hb hby at_2) rfl (by decide) (cap := 14) (by decide) (by decide) (by decide) (by decide)
  obtain ⟨b1, gb1⟩ : ∃ z, z = h0.size := ⟨_, rfl⟩
  rw [← gb1] at A1 st1
  have sb1 : h0.size ≤ b1 := Nat.le_trans (Nat.le_refl _) (Nat.le_of_eq gb1.symm)
  have V1 : Arv Z h1 b1 k1 (.object "com/example/subscript/subscript/Type$Kind") (14 : Int32) [.null, .null, .null, .null, .null, .null, .null, .null, .null, .null, .null, .null, .null, .null] .null := (Arv.new A1 (by decide)).pad (pad_rep [] .null 14)
  refine own_by (f' := (mkF m 5 #[.val (.int p1), .val (.int p2), .unset, .unset, .unset, .unset, .unset] [(.ref b1)])) st1 ?_
  refine own_by (f' := (mkF m 6 #[.val (.int p1), .val (.int p2), .unset, .unset, .unset, .unset, .unset] [(.ref b1), (.ref b1)])) (fun t h => XS.dup X1.here hx rfl (hb hby at_5) rfl rfl h) ?_
  refine own_by (f' := (mkF m 7 #[.val (.int p1), .val (.int p2), .unset, .unset, .unset, .unset, .unset] [(.int (0 : Int32)), (.ref b1), (.ref b1)])) (fun t h => XS.iconst X1.here hx rfl (hb hby at_6) h) ?_
  obtain ⟨T2, X2, e2, st2⟩ := getS2 X1 hx hZ hown (host := "") (Or.inl (hw _ (List.mem_of_getElem? (i := 2) rfl))) Via.refl e1 (S_BYTE.ext Ex1) (g := (mkF m 7 #[.val (.int p1), .val (.int p2), .unset, .unset, .unset, .unset, .unset] [(.int (0 : Int32)), (.ref b1), (.ref b1)])) rfl (hb hby at_7)
  refine own_by (f' := (mkF m 10 #[.val (.int p1), .val (.int p2), .unset, .unset, .unset, .unset, .unset] [(.ref w_BYTE), (.int (0 : Int32)), (.ref b1), (.ref b1)])) st2 ?_
  obtain ⟨cl3, Ar3, q3, S3, P3, H3, G3⟩ := V1
  obtain ⟨T3, h3, X3, e3, W3, st3⟩ := stR X2 hx hZ e2 Ar3 (j := (0 : Int32)) (by rw [S3]; decide) rfl (Sto.ofV Ar3 q3 O1 (Ins.self (E_BYTE.ext Ex1))) (g := (mkF m 10 #[.val (.int p1), .val (.int p2), .unset, .unset, .unset, .unset, .unset] [(.ref w_BYTE), (.int (0 : Int32)), (.ref b1), (.ref b1)])) rfl rfl (hb hby at_10)
  have N3 := Fr.snoc X3 N0 (Nat.le_trans Z0 sb1)
  have V3 : Arv Z h3 b1 k1 (.object "com/example/subscript/subscript/Type$Kind") (14 : Int32) [(.ref w_BYTE), .null, .null, .null, .null, .null, .null, .null, .null, .null, .null, .null, .null, .null] .null := Arv.set Ar3 q3 S3 P3 H3 G3 rfl W3 0 rfl (Nat.le_of_ble_eq_true rfl)
  have Ex3 := own_extw Ex1 W3 sb1
  refine own_by (f' := (mkF m 11 #[.val (.int p1), .val (.int p2), .unset, .unset, .unset, .unset, .unset] [(.ref b1)])) st3 ?_
  refine own_by (f' := (mkF m 12 #[.val (.int p1), .val (.int p2), .unset, .unset, .unset, .unset, .unset] [(.ref b1), (.ref b1)])) (fun t h => XS.dup X3.here hx rfl (hb hby at_11) rfl rfl h) ?_
  refine own_by (f' := (mkF m 13 #[.val (.int p1), .val (.int p2), .unset, .unset, .unset, .unset, .unset] [(.int (1 : Int32)), (.ref b1), (.ref b1)])) (fun t h => XS.iconst X3.here hx rfl (hb hby at_12) h) ?_
  obtain ⟨T4, X4, e4, st4⟩ := getS2 X3 hx hZ hown (host := "") (Or.inl (hw _ (List.mem_of_getElem? (i := 6) rfl))) Via.refl e3 (S_SHORT.ext Ex3) (g := (mkF m 13 #[.val (.int p1), .val (.int p2), .unset, .unset, .unset, .unset, .unset] [(.int (1 : Int32)), (.ref b1), (.ref b1)])) rfl (hb hby at_13)
  refine own_by (f' := (mkF m 16 #[.val (.int p1), .val (.int p2), .unset, .unset, .unset, .unset, .unset] [(.ref w_SHORT), (.int (1 : Int32)), (.ref b1), (.ref b1)])) st4 ?_
  obtain ⟨cl5, Ar5, q5, S5, P5, H5, G5⟩ := V3
  obtain ⟨T5, h5, X5, e5, W5, st5⟩ := stR X4 hx hZ e4 Ar5 (j := (1 : Int32)) (by rw [S5]; decide) rfl (Sto.ofV Ar5 q5 O1 (Ins.self (E_SHORT.ext Ex3))) (g := (mkF m 16 #[.val (.int p1), .val (.int p2), .unset, .unset, .unset, .unset, .unset] [(.ref w_SHORT), (.int (1 : Int32)), (.ref b1), (.ref b1)])) rfl rfl (hb hby at_16)
  have N5 := Fr.snoc X5 N3 (Nat.le_trans Z0 sb1)
  have V5 : Arv Z h5 b1 k1 (.object "com/example/subscript/subscript/Type$Kind") (14 : Int32) [(.ref w_BYTE), (.ref w_SHORT), .null, .null, .null, .null, .null, .null, .null, .null, .null, .null, .null, .null] .null := Arv.set Ar5 q5 S5 P5 H5 G5 rfl W5 1 rfl (Nat.le_of_ble_eq_true rfl)
  have Ex5 := own_extw Ex3 W5 sb1
  refine own_by (f' := (mkF m 17 #[.val (.int p1), .val (.int p2), .unset, .unset, .unset, .unset, .unset] [(.ref b1)])) st5 ?_
  refine own_by (f' := (mkF m 18 #[.val (.int p1), .val (.int p2), .unset, .unset, .unset, .unset, .unset] [(.ref b1), (.ref b1)])) (fun t h => XS.dup X5.here hx rfl (hb hby at_17) rfl rfl h) ?_
  refine own_by (f' := (mkF m 19 #[.val (.int p1), .val (.int p2), .unset, .unset, .unset, .unset, .unset] [(.int (2 : Int32)), (.ref b1), (.ref b1)])) (fun t h => XS.iconst X5.here hx rfl (hb hby at_18) h) ?_
  obtain ⟨T6, X6, e6, st6⟩ := getS2 X5 hx hZ hown (host := "") (Or.inl (hw _ (List.mem_of_getElem? (i := 8) rfl))) Via.refl e5 (S_CHAR.ext Ex5) (g := (mkF m 19 #[.val (.int p1), .val (.int p2), .unset, .unset, .unset, .unset, .unset] [(.int (2 : Int32)), (.ref b1), (.ref b1)])) rfl (hb hby at_19)
  refine own_by (f' := (mkF m 22 #[.val (.int p1), .val (.int p2), .unset, .unset, .unset, .unset, .unset] [(.ref w_CHAR), (.int (2 : Int32)), (.ref b1), (.ref b1)])) st6 ?_
  obtain ⟨cl7, Ar7, q7, S7, P7, H7, G7⟩ := V5
  obtain ⟨T7, h7, X7, e7, W7, st7⟩ := stR X6 hx hZ e6 Ar7 (j := (2 : Int32)) (by rw [S7]; decide) rfl (Sto.ofV Ar7 q7 O1 (Ins.self (E_CHAR.ext Ex5))) (g := (mkF m 22 #[.val (.int p1), .val (.int p2), .unset, .unset, .unset, .unset, .unset] [(.ref w_CHAR), (.int (2 : Int32)), (.ref b1), (.ref b1)])) rfl rfl (hb hby at_22)
  have N7 := Fr.snoc X7 N5 (Nat.le_trans Z0 sb1)
  have V7 : Arv Z h7 b1 k1 (.object "com/example/subscript/subscript/Type$Kind") (14 : Int32) [(.ref w_BYTE), (.ref w_SHORT), (.ref w_CHAR), .null, .null, .null, .null, .null, .null, .null, .null, .null, .null, .null] .null := Arv.set Ar7 q7 S7 P7 H7 G7 rfl W7 2 rfl (Nat.le_of_ble_eq_true rfl)
  have Ex7 := own_extw Ex5 W7 sb1
  refine own_by (f' := (mkF m 23 #[.val (.int p1), .val (.int p2), .unset, .unset, .unset, .unset, .unset] [(.ref b1)])) st7 ?_
  refine own_by (f' := (mkF m 24 #[.val (.int p1), .val (.int p2), .unset, .unset, .unset, .unset, .unset] [(.ref b1), (.ref b1)])) (fun t h => XS.dup X7.here hx rfl (hb hby at_23) rfl rfl h) ?_
  refine own_by (f' := (mkF m 25 #[.val (.int p1), .val (.int p2), .unset, .unset, .unset, .unset, .unset] [(.int (3 : Int32)), (.ref b1), (.ref b1)])) (fun t h => XS.iconst X7.here hx rfl (hb hby at_24) h) ?_
  obtain ⟨T8, X8, e8, st8⟩ := getS2 X7 hx hZ hown (host := "") (Or.inl (hw _ (List.mem_of_getElem? (i := 10) rfl))) Via.refl e7 (S_INT.ext Ex7) (g := (mkF m 25 #[.val (.int p1), .val (.int p2), .unset, .unset, .unset, .unset, .unset] [(.int (3 : Int32)), (.ref b1), (.ref b1)])) rfl (hb hby at_25)
  refine own_by (f' := (mkF m 28 #[.val (.int p1), .val (.int p2), .unset, .unset, .unset, .unset, .unset] [(.ref w_INT), (.int (3 : Int32)), (.ref b1), (.ref b1)])) st8 ?_
  obtain ⟨cl9, Ar9, q9, S9, P9, H9, G9⟩ := V7
  obtain ⟨T9, h9, X9, e9, W9, st9⟩ := stR X8 hx hZ e8 Ar9 (j := (3 : Int32)) (by rw [S9]; decide) rfl (Sto.ofV Ar9 q9 O1 (Ins.self (E_INT.ext Ex7))) (g := (mkF m 28 #[.val (.int p1), .val (.int p2), .unset, .unset, .unset, .unset, .unset] [(.ref w_INT), (.int (3 : Int32)), (.ref b1), (.ref b1)])) rfl rfl (hb hby at_28)
  have N9 := Fr.snoc X9 N7 (Nat.le_trans Z0 sb1)
  have V9 : Arv Z h9 b1 k1 (.object "com/example/subscript/subscript/Type$Kind") (14 : Int32) [(.ref w_BYTE), (.ref w_SHORT), (.ref w_CHAR), (.ref w_INT), .null, .null, .null, .null, .null, .null, .null, .null, .null, .null] .null := Arv.set Ar9 q9 S9 P9 H9 G9 rfl W9 3 rfl (Nat.le_of_ble_eq_true rfl)
  have Ex9 := own_extw Ex7 W9 sb1
  refine own_by (f' := (mkF m 29 #[.val (.int p1), .val (.int p2), .unset, .unset, .unset, .unset, .unset] [(.ref b1)])) st9 ?_
  refine own_by (f' := (mkF m 30 #[.val (.int p1), .val (.int p2), .unset, .unset, .unset, .unset, .unset] [(.ref b1), (.ref b1)])) (fun t h => XS.dup X9.here hx rfl (hb hby at_29) rfl rfl h) ?_
  refine own_by (f' := (mkF m 31 #[.val (.int p1), .val (.int p2), .unset, .unset, .unset, .unset, .unset] [(.int (4 : Int32)), (.ref b1), (.ref b1)])) (fun t h => XS.iconst X9.here hx rfl (hb hby at_30) h) ?_
  obtain ⟨T10, X10, e10, st10⟩ := getS2 X9 hx hZ hown (host := "") (Or.inl (hw _ (List.mem_of_getElem? (i := 12) rfl))) Via.refl e9 (S_LONG.ext Ex9) (g := (mkF m 31 #[.val (.int p1), .val (.int p2), .unset, .unset, .unset, .unset, .unset] [(.int (4 : Int32)), (.ref b1), (.ref b1)])) rfl (hb hby at_31)
  refine own_by (f' := (mkF m 34 #[.val (.int p1), .val (.int p2), .unset, .unset, .unset, .unset, .unset] [(.ref w_LONG), (.int (4 : Int32)), (.ref b1), (.ref b1)])) st10 ?_
  obtain ⟨cl11, Ar11, q11, S11, P11, H11, G11⟩ := V9
  obtain ⟨T11, h11, X11, e11, W11, st11⟩ := stR X10 hx hZ e10 Ar11 (j := (4 : Int32)) (by rw [S11]; decide) rfl (Sto.ofV Ar11 q11 O1 (Ins.self (E_LONG.ext Ex9))) (g := (mkF m 34 #[.val (.int p1), .val (.int p2), .unset, .unset, .unset, .unset, .unset] [(.ref w_LONG), (.int (4 : Int32)), (.ref b1), (.ref b1)])) rfl rfl (hb hby at_34)
  have N11 := Fr.snoc X11 N9 (Nat.le_trans Z0 sb1)
  have V11 : Arv Z h11 b1 k1 (.object "com/example/subscript/subscript/Type$Kind") (14 : Int32) [(.ref w_BYTE), (.ref w_SHORT), (.ref w_CHAR), (.ref w_INT), (.ref w_LONG), .null, .null, .null, .null, .null, .null, .null, .null, .null] .null := Arv.set Ar11 q11 S11 P11 H11 G11 rfl W11 4 rfl (Nat.le_of_ble_eq_true rfl)
  have Ex11 := own_extw Ex9 W11 sb1
  refine own_by (f' := (mkF m 35 #[.val (.int p1), .val (.int p2), .unset, .unset, .unset, .unset, .unset] [(.ref b1)])) st11 ?_
  refine own_by (f' := (mkF m 36 #[.val (.int p1), .val (.int p2), .unset, .unset, .unset, .unset, .unset] [(.ref b1), (.ref b1)])) (fun t h => XS.dup X11.here hx rfl (hb hby at_35) rfl rfl h) ?_
  refine own_by (f' := (mkF m 37 #[.val (.int p1), .val (.int p2), .unset, .unset, .unset, .unset, .unset] [(.int (5 : Int32)), (.ref b1), (.ref b1)])) (fun t h => XS.iconst X11.here hx rfl (hb hby at_36) h) ?_
  obtain ⟨T12, X12, e12, st12⟩ := getS2 X11 hx hZ hown (host := "") (Or.inl (hw _ (List.mem_of_getElem? (i := 14) rfl))) Via.refl e11 (S_FLOAT.ext Ex11) (g := (mkF m 37 #[.val (.int p1), .val (.int p2), .unset, .unset, .unset, .unset, .unset] [(.int (5 : Int32)), (.ref b1), (.ref b1)])) rfl (hb hby at_37)
  refine own_by (f' := (mkF m 40 #[.val (.int p1), .val (.int p2), .unset, .unset, .unset, .unset, .unset] [(.ref w_FLOAT), (.int (5 : Int32)), (.ref b1), (.ref b1)])) st12 ?_
  obtain ⟨cl13, Ar13, q13, S13, P13, H13, G13⟩ := V11
  obtain ⟨T13, h13, X13, e13, W13, st13⟩ := stR X12 hx hZ e12 Ar13 (j := (5 : Int32)) (by rw [S13]; decide) rfl (Sto.ofV Ar13 q13 O1 (Ins.self (E_FLOAT.ext Ex11))) (g := (mkF m 40 #[.val (.int p1), .val (.int p2), .unset, .unset, .unset, .unset, .unset] [(.ref w_FLOAT), (.int (5 : Int32)), (.ref b1), (.ref b1)])) rfl rfl (hb hby at_40)
  have N13 := Fr.snoc X13 N11 (Nat.le_trans Z0 sb1)
  have V13 : Arv Z h13 b1 k1 (.object "com/example/subscript/subscript/Type$Kind") (14 : Int32) [(.ref w_BYTE), (.ref w_SHORT), (.ref w_CHAR), (.ref w_INT), (.ref w_LONG), (.ref w_FLOAT), .null, .null, .null, .null, .null, .null, .null, .null] .null := Arv.set Ar13 q13 S13 P13 H13 G13 rfl W13 5 rfl (Nat.le_of_ble_eq_true rfl)
  have Ex13 := own_extw Ex11 W13 sb1
  refine own_by (f' := (mkF m 41 #[.val (.int p1), .val (.int p2), .unset, .unset, .unset, .unset, .unset] [(.ref b1)])) st13 ?_
  refine own_by (f' := (mkF m 42 #[.val (.int p1), .val (.int p2), .unset, .unset, .unset, .unset, .unset] [(.ref b1), (.ref b1)])) (fun t h => XS.dup X13.here hx rfl (hb hby at_41) rfl rfl h) ?_
  refine own_by (f' := (mkF m 44 #[.val (.int p1), .val (.int p2), .unset, .unset, .unset, .unset, .unset] [(.int (6 : Int32)), (.ref b1), (.ref b1)])) (fun t h => XT.bipushV X13.here hx rfl (6 : Int32) (hb hby at_42) rfl h) ?_
  obtain ⟨T14, X14, e14, st14⟩ := getS2 X13 hx hZ hown (host := "") (Or.inl (hw _ (List.mem_of_getElem? (i := 16) rfl))) Via.refl e13 (S_DOUBLE.ext Ex13) (g := (mkF m 44 #[.val (.int p1), .val (.int p2), .unset, .unset, .unset, .unset, .unset] [(.int (6 : Int32)), (.ref b1), (.ref b1)])) rfl (hb hby at_44)
  refine own_by (f' := (mkF m 47 #[.val (.int p1), .val (.int p2), .unset, .unset, .unset, .unset, .unset] [(.ref w_DOUBLE), (.int (6 : Int32)), (.ref b1), (.ref b1)])) st14 ?_
  obtain ⟨cl15, Ar15, q15, S15, P15, H15, G15⟩ := V13
  obtain ⟨T15, h15, X15, e15, W15, st15⟩ := stR X14 hx hZ e14 Ar15 (j := (6 : Int32)) (by rw [S15]; decide) rfl (Sto.ofV Ar15 q15 O1 (Ins.self (E_DOUBLE.ext Ex13))) (g := (mkF m 47 #[.val (.int p1), .val (.int p2), .unset, .unset, .unset, .unset, .unset] [(.ref w_DOUBLE), (.int (6 : Int32)), (.ref b1), (.ref b1)])) rfl rfl (hb hby at_47)
  have N15 := Fr.snoc X15 N13 (Nat.le_trans Z0 sb1)
  have V15 : Arv Z h15 b1 k1 (.object "com/example/subscript/subscript/Type$Kind") (14 : Int32) [(.ref w_BYTE), (.ref w_SHORT), (.ref w_CHAR), (.ref w_INT), (.ref w_LONG), (.ref w_FLOAT), (.ref w_DOUBLE), .null, .null, .null, .null, .null, .null, .null] .null := Arv.set Ar15 q15 S15 P15 H15 G15 rfl W15 6 rfl (Nat.le_of_ble_eq_true rfl)
  have Ex15 := own_extw Ex13 W15 sb1
  refine own_by (f' := (mkF m 48 #[.val (.int p1), .val (.int p2), .unset, .unset, .unset, .unset, .unset] [(.ref b1)])) st15 ?_
  refine own_by (f' := (mkF m 49 #[.val (.int p1), .val (.int p2), .unset, .unset, .unset, .unset, .unset] [(.ref b1), (.ref b1)])) (fun t h => XS.dup X15.here hx rfl (hb hby at_48) rfl rfl h) ?_
  refine own_by (f' := (mkF m 51 #[.val (.int p1), .val (.int p2), .unset, .unset, .unset, .unset, .unset] [(.int (7 : Int32)), (.ref b1), (.ref b1)])) (fun t h => XT.bipushV X15.here hx rfl (7 : Int32) (hb hby at_49) rfl h) ?_
  obtain ⟨T16, X16, e16, st16⟩ := getS2 X15 hx hZ hown (host := "") (Or.inl (hw _ (List.mem_of_getElem? (i := 18) rfl))) Via.refl e15 (S_BOOLEAN.ext Ex15) (g := (mkF m 51 #[.val (.int p1), .val (.int p2), .unset, .unset, .unset, .unset, .unset] [(.int (7 : Int32)), (.ref b1), (.ref b1)])) rfl (hb hby at_51)
  refine own_by (f' := (mkF m 54 #[.val (.int p1), .val (.int p2), .unset, .unset, .unset, .unset, .unset] [(.ref w_BOOLEAN), (.int (7 : Int32)), (.ref b1), (.ref b1)])) st16 ?_
  obtain ⟨cl17, Ar17, q17, S17, P17, H17, G17⟩ := V15
  obtain ⟨T17, h17, X17, e17, W17, st17⟩ := stR X16 hx hZ e16 Ar17 (j := (7 : Int32)) (by rw [S17]; decide) rfl (Sto.ofV Ar17 q17 O1 (Ins.self (E_BOOLEAN.ext Ex15))) (g := (mkF m 54 #[.val (.int p1), .val (.int p2), .unset, .unset, .unset, .unset, .unset] [(.ref w_BOOLEAN), (.int (7 : Int32)), (.ref b1), (.ref b1)])) rfl rfl (hb hby at_54)
  have N17 := Fr.snoc X17 N15 (Nat.le_trans Z0 sb1)
  have V17 : Arv Z h17 b1 k1 (.object "com/example/subscript/subscript/Type$Kind") (14 : Int32) [(.ref w_BYTE), (.ref w_SHORT), (.ref w_CHAR), (.ref w_INT), (.ref w_LONG), (.ref w_FLOAT), (.ref w_DOUBLE), (.ref w_BOOLEAN), .null, .null, .null, .null, .null, .null] .null := Arv.set Ar17 q17 S17 P17 H17 G17 rfl W17 7 rfl (Nat.le_of_ble_eq_true rfl)
  have Ex17 := own_extw Ex15 W17 sb1
  refine own_by (f' := (mkF m 55 #[.val (.int p1), .val (.int p2), .unset, .unset, .unset, .unset, .unset] [(.ref b1)])) st17 ?_
  refine own_by (f' := (mkF m 56 #[.val (.int p1), .val (.int p2), .unset, .unset, .unset, .unset, .unset] [(.ref b1), (.ref b1)])) (fun t h => XS.dup X17.here hx rfl (hb hby at_55) rfl rfl h) ?_
  refine own_by (f' := (mkF m 58 #[.val (.int p1), .val (.int p2), .unset, .unset, .unset, .unset, .unset] [(.int (8 : Int32)), (.ref b1), (.ref b1)])) (fun t h => XT.bipushV X17.here hx rfl (8 : Int32) (hb hby at_56) rfl h) ?_
  obtain ⟨T18, X18, e18, st18⟩ := getS2 X17 hx hZ hown (host := "") (Or.inl (hw _ (List.mem_of_getElem? (i := 20) rfl))) Via.refl e17 (S_VOID.ext Ex17) (g := (mkF m 58 #[.val (.int p1), .val (.int p2), .unset, .unset, .unset, .unset, .unset] [(.int (8 : Int32)), (.ref b1), (.ref b1)])) rfl (hb hby at_58)
  refine own_by (f' := (mkF m 61 #[.val (.int p1), .val (.int p2), .unset, .unset, .unset, .unset, .unset] [(.ref w_VOID), (.int (8 : Int32)), (.ref b1), (.ref b1)])) st18 ?_
  obtain ⟨cl19, Ar19, q19, S19, P19, H19, G19⟩ := V17
  obtain ⟨T19, h19, X19, e19, W19, st19⟩ := stR X18 hx hZ e18 Ar19 (j := (8 : Int32)) (by rw [S19]; decide) rfl (Sto.ofV Ar19 q19 O1 (Ins.self (E_VOID.ext Ex17))) (g := (mkF m 61 #[.val (.int p1), .val (.int p2), .unset, .unset, .unset, .unset, .unset] [(.ref w_VOID), (.int (8 : Int32)), (.ref b1), (.ref b1)])) rfl rfl (hb hby at_61)
  have N19 := Fr.snoc X19 N17 (Nat.le_trans Z0 sb1)
  have V19 : Arv Z h19 b1 k1 (.object "com/example/subscript/subscript/Type$Kind") (14 : Int32) [(.ref w_BYTE), (.ref w_SHORT), (.ref w_CHAR), (.ref w_INT), (.ref w_LONG), (.ref w_FLOAT), (.ref w_DOUBLE), (.ref w_BOOLEAN), (.ref w_VOID), .null, .null, .null, .null, .null] .null := Arv.set Ar19 q19 S19 P19 H19 G19 rfl W19 8 rfl (Nat.le_of_ble_eq_true rfl)
  have Ex19 := own_extw Ex17 W19 sb1
  refine own_by (f' := (mkF m 62 #[.val (.int p1), .val (.int p2), .unset, .unset, .unset, .unset, .unset] [(.ref b1)])) st19 ?_
  refine own_by (f' := (mkF m 63 #[.val (.int p1), .val (.int p2), .unset, .unset, .unset, .unset, .unset] [(.ref b1), (.ref b1)])) (fun t h => XS.dup X19.here hx rfl (hb hby at_62) rfl rfl h) ?_
  refine own_by (f' := (mkF m 65 #[.val (.int p1), .val (.int p2), .unset, .unset, .unset, .unset, .unset] [(.int (9 : Int32)), (.ref b1), (.ref b1)])) (fun t h => XT.bipushV X19.here hx rfl (9 : Int32) (hb hby at_63) rfl h) ?_
  obtain ⟨T20, X20, e20, st20⟩ := getS2 X19 hx hZ hown (host := "") (Or.inl (hw _ (List.mem_of_getElem? (i := 22) rfl))) Via.refl e19 (S_CLASS.ext Ex19) (g := (mkF m 65 #[.val (.int p1), .val (.int p2), .unset, .unset, .unset, .unset, .unset] [(.int (9 : Int32)), (.ref b1), (.ref b1)])) rfl (hb hby at_65)
  refine own_by (f' := (mkF m 68 #[.val (.int p1), .val (.int p2), .unset, .unset, .unset, .unset, .unset] [(.ref w_CLASS), (.int (9 : Int32)), (.ref b1), (.ref b1)])) st20 ?_
  obtain ⟨cl21, Ar21, q21, S21, P21, H21, G21⟩ := V19
  obtain ⟨T21, h21, X21, e21, W21, st21⟩ := stR X20 hx hZ e20 Ar21 (j := (9 : Int32)) (by rw [S21]; decide) rfl (Sto.ofV Ar21 q21 O1 (Ins.self (E_CLASS.ext Ex19))) (g := (mkF m 68 #[.val (.int p1), .val (.int p2), .unset, .unset, .unset, .unset, .unset] [(.ref w_CLASS), (.int (9 : Int32)), (.ref b1), (.ref b1)])) rfl rfl (hb hby at_68)
  have N21 := Fr.snoc X21 N19 (Nat.le_trans Z0 sb1)
  have V21 : Arv Z h21 b1 k1 (.object "com/example/subscript/subscript/Type$Kind") (14 : Int32) [(.ref w_BYTE), (.ref w_SHORT), (.ref w_CHAR), (.ref w_INT), (.ref w_LONG), (.ref w_FLOAT), (.ref w_DOUBLE), (.ref w_BOOLEAN), (.ref w_VOID), (.ref w_CLASS), .null, .null, .null, .null] .null := Arv.set Ar21 q21 S21 P21 H21 G21 rfl W21 9 rfl (Nat.le_of_ble_eq_true rfl)
  have Ex21 := own_extw Ex19 W21 sb1
  refine own_by (f' := (mkF m 69 #[.val (.int p1), .val (.int p2), .unset, .unset, .unset, .unset, .unset] [(.ref b1)])) st21 ?_
  refine own_by (f' := (mkF m 70 #[.val (.int p1), .val (.int p2), .unset, .unset, .unset, .unset, .unset] [(.ref b1), (.ref b1)])) (fun t h => XS.dup X21.here hx rfl (hb hby at_69) rfl rfl h) ?_
  refine own_by (f' := (mkF m 72 #[.val (.int p1), .val (.int p2), .unset, .unset, .unset, .unset, .unset] [(.int (10 : Int32)), (.ref b1), (.ref b1)])) (fun t h => XT.bipushV X21.here hx rfl (10 : Int32) (hb hby at_70) rfl h) ?_
  obtain ⟨T22, X22, e22, st22⟩ := getS2 X21 hx hZ hown (host := "") (Or.inl (hw _ (List.mem_of_getElem? (i := 24) rfl))) Via.refl e21 (S_PROGRAM_CLASS.ext Ex21) (g := (mkF m 72 #[.val (.int p1), .val (.int p2), .unset, .unset, .unset, .unset, .unset] [(.int (10 : Int32)), (.ref b1), (.ref b1)])) rfl (hb hby at_72)
  refine own_by (f' := (mkF m 75 #[.val (.int p1), .val (.int p2), .unset, .unset, .unset, .unset, .unset] [(.ref w_PROGRAM_CLASS), (.int (10 : Int32)), (.ref b1), (.ref b1)])) st22 ?_
  obtain ⟨cl23, Ar23, q23, S23, P23, H23, G23⟩ := V21
  obtain ⟨T23, h23, X23, e23, W23, st23⟩ := stR X22 hx hZ e22 Ar23 (j := (10 : Int32)) (by rw [S23]; decide) rfl (Sto.ofV Ar23 q23 O1 (Ins.self (E_PROGRAM_CLASS.ext Ex21))) (g := (mkF m 75 #[.val (.int p1), .val (.int p2), .unset, .unset, .unset, .unset, .unset] [(.ref w_PROGRAM_CLASS), (.int (10 : Int32)), (.ref b1), (.ref b1)])) rfl rfl (hb hby at_75)
  have N23 := Fr.snoc X23 N21 (Nat.le_trans Z0 sb1)
  have V23 : Arv Z h23 b1 k1 (.object "com/example/subscript/subscript/Type$Kind") (14 : Int32) [(.ref w_BYTE), (.ref w_SHORT), (.ref w_CHAR), (.ref w_INT), (.ref w_LONG), (.ref w_FLOAT), (.ref w_DOUBLE), (.ref w_BOOLEAN), (.ref w_VOID), (.ref w_CLASS), (.ref w_PROGRAM_CLASS), .null, .null, .null] .null := Arv.set Ar23 q23 S23 P23 H23 G23 rfl W23 10 rfl (Nat.le_of_ble_eq_true rfl)
  have Ex23 := own_extw Ex21 W23 sb1
  refine own_by (f' := (mkF m 76 #[.val (.int p1), .val (.int p2), .unset, .unset, .unset, .unset, .unset] [(.ref b1)])) st23 ?_
  refine own_by (f' := (mkF m 77 #[.val (.int p1), .val (.int p2), .unset, .unset, .unset, .unset, .unset] [(.ref b1), (.ref b1)])) (fun t h => XS.dup X23.here hx rfl (hb hby at_76) rfl rfl h) ?_
  refine own_by (f' := (mkF m 79 #[.val (.int p1), .val (.int p2), .unset, .unset, .unset, .unset, .unset] [(.int (11 : Int32)), (.ref b1), (.ref b1)])) (fun t h => XT.bipushV X23.here hx rfl (11 : Int32) (hb hby at_77) rfl h) ?_
  obtain ⟨T24, X24, e24, st24⟩ := getS2 X23 hx hZ hown (host := "") (Or.inl (hw _ (List.mem_of_getElem? (i := 26) rfl))) Via.refl e23 (S_ARRAY.ext Ex23) (g := (mkF m 79 #[.val (.int p1), .val (.int p2), .unset, .unset, .unset, .unset, .unset] [(.int (11 : Int32)), (.ref b1), (.ref b1)])) rfl (hb hby at_79)
  refine own_by (f' := (mkF m 82 #[.val (.int p1), .val (.int p2), .unset, .unset, .unset, .unset, .unset] [(.ref w_ARRAY), (.int (11 : Int32)), (.ref b1), (.ref b1)])) st24 ?_
  obtain ⟨cl25, Ar25, q25, S25, P25, H25, G25⟩ := V23
  obtain ⟨T25, h25, X25, e25, W25, st25⟩ := stR X24 hx hZ e24 Ar25 (j := (11 : Int32)) (by rw [S25]; decide) rfl (Sto.ofV Ar25 q25 O1 (Ins.self (E_ARRAY.ext Ex23))) (g := (mkF m 82 #[.val (.int p1), .val (.int p2), .unset, .unset, .unset, .unset, .unset] [(.ref w_ARRAY), (.int (11 : Int32)), (.ref b1), (.ref b1)])) rfl rfl (hb hby at_82)
  have N25 := Fr.snoc X25 N23 (Nat.le_trans Z0 sb1)
  have V25 : Arv Z h25 b1 k1 (.object "com/example/subscript/subscript/Type$Kind") (14 : Int32) [(.ref w_BYTE), (.ref w_SHORT), (.ref w_CHAR), (.ref w_INT), (.ref w_LONG), (.ref w_FLOAT), (.ref w_DOUBLE), (.ref w_BOOLEAN), (.ref w_VOID), (.ref w_CLASS), (.ref w_PROGRAM_CLASS), (.ref w_ARRAY), .null, .null] .null := Arv.set Ar25 q25 S25 P25 H25 G25 rfl W25 11 rfl (Nat.le_of_ble_eq_true rfl)
  have Ex25 := own_extw Ex23 W25 sb1
  refine own_by (f' := (mkF m 83 #[.val (.int p1), .val (.int p2), .unset, .unset, .unset, .unset, .unset] [(.ref b1)])) st25 ?_
  refine own_by (f' := (mkF m 84 #[.val (.int p1), .val (.int p2), .unset, .unset, .unset, .unset, .unset] [(.ref b1), (.ref b1)])) (fun t h => XS.dup X25.here hx rfl (hb hby at_83) rfl rfl h) ?_
  refine own_by (f' := (mkF m 86 #[.val (.int p1), .val (.int p2), .unset, .unset, .unset, .unset, .unset] [(.int (12 : Int32)), (.ref b1), (.ref b1)])) (fun t h => XT.bipushV X25.here hx rfl (12 : Int32) (hb hby at_84) rfl h) ?_
  obtain ⟨T26, X26, e26, st26⟩ := getS2 X25 hx hZ hown (host := "") (Or.inl (hw _ (List.mem_of_getElem? (i := 28) rfl))) Via.refl e25 (S_NULL.ext Ex25) (g := (mkF m 86 #[.val (.int p1), .val (.int p2), .unset, .unset, .unset, .unset, .unset] [(.int (12 : Int32)), (.ref b1), (.ref b1)])) rfl (hb hby at_86)
  refine own_by (f' := (mkF m 89 #[.val (.int p1), .val (.int p2), .unset, .unset, .unset, .unset, .unset] [(.ref w_NULL), (.int (12 : Int32)), (.ref b1), (.ref b1)])) st26 ?_
  obtain ⟨cl27, Ar27, q27, S27, P27, H27, G27⟩ := V25
  obtain ⟨T27, h27, X27, e27, W27, st27⟩ := stR X26 hx hZ e26 Ar27 (j := (12 : Int32)) (by rw [S27]; decide) rfl (Sto.ofV Ar27 q27 O1 (Ins.self (E_NULL.ext Ex25))) (g := (mkF m 89 #[.val (.int p1), .val (.int p2), .unset, .unset, .unset, .unset, .unset] [(.ref w_NULL), (.int (12 : Int32)), (.ref b1), (.ref b1)])) rfl rfl (hb hby at_89)
  have N27 := Fr.snoc X27 N25 (Nat.le_trans Z0 sb1)
  have V27 : Arv Z h27 b1 k1 (.object "com/example/subscript/subscript/Type$Kind") (14 : Int32) [(.ref w_BYTE), (.ref w_SHORT), (.ref w_CHAR), (.ref w_INT), (.ref w_LONG), (.ref w_FLOAT), (.ref w_DOUBLE), (.ref w_BOOLEAN), (.ref w_VOID), (.ref w_CLASS), (.ref w_PROGRAM_CLASS), (.ref w_ARRAY), (.ref w_NULL), .null] .null := Arv.set Ar27 q27 S27 P27 H27 G27 rfl W27 12 rfl (Nat.le_of_ble_eq_true rfl)
  have Ex27 := own_extw Ex25 W27 sb1
  refine own_by (f' := (mkF m 90 #[.val (.int p1), .val (.int p2), .unset, .unset, .unset, .unset, .unset] [(.ref b1)])) st27 ?_
  refine own_by (f' := (mkF m 91 #[.val (.int p1), .val (.int p2), .unset, .unset, .unset, .unset, .unset] [(.ref b1), (.ref b1)])) (fun t h => XS.dup X27.here hx rfl (hb hby at_90) rfl rfl h) ?_
  refine own_by (f' := (mkF m 93 #[.val (.int p1), .val (.int p2), .unset, .unset, .unset, .unset, .unset] [(.int (13 : Int32)), (.ref b1), (.ref b1)])) (fun t h => XT.bipushV X27.here hx rfl (13 : Int32) (hb hby at_91) rfl h) ?_
  obtain ⟨T28, X28, e28, st28⟩ := getS2 X27 hx hZ hown (host := "") (Or.inl (hw _ (List.mem_of_getElem? (i := 30) rfl))) Via.refl e27 (S_ERROR.ext Ex27) (g := (mkF m 93 #[.val (.int p1), .val (.int p2), .unset, .unset, .unset, .unset, .unset] [(.int (13 : Int32)), (.ref b1), (.ref b1)])) rfl (hb hby at_93)
  refine own_by (f' := (mkF m 96 #[.val (.int p1), .val (.int p2), .unset, .unset, .unset, .unset, .unset] [(.ref w_ERROR), (.int (13 : Int32)), (.ref b1), (.ref b1)])) st28 ?_
  obtain ⟨cl29, Ar29, q29, S29, P29, H29, G29⟩ := V27
  obtain ⟨T29, h29, X29, e29, W29, st29⟩ := stR X28 hx hZ e28 Ar29 (j := (13 : Int32)) (by rw [S29]; decide) rfl (Sto.ofV Ar29 q29 O1 (Ins.self (E_ERROR.ext Ex27))) (g := (mkF m 96 #[.val (.int p1), .val (.int p2), .unset, .unset, .unset, .unset, .unset] [(.ref w_ERROR), (.int (13 : Int32)), (.ref b1), (.ref b1)])) rfl rfl (hb hby at_96)
  have N29 := Fr.snoc X29 N27 (Nat.le_trans Z0 sb1)
  have V29 : Arv Z h29 b1 k1 (.object "com/example/subscript/subscript/Type$Kind") (14 : Int32) [(.ref w_BYTE), (.ref w_SHORT), (.ref w_CHAR), (.ref w_INT), (.ref w_LONG), (.ref w_FLOAT), (.ref w_DOUBLE), (.ref w_BOOLEAN), (.ref w_VOID), (.ref w_CLASS), (.ref w_PROGRAM_CLASS), (.ref w_ARRAY), (.ref w_NULL), (.ref w_ERROR)] .null := Arv.set Ar29 q29 S29 P29 H29 G29 rfl W29 13 rfl (Nat.le_of_ble_eq_true rfl)
  have Ex29 := own_extw Ex27 W29 sb1
  refine own_by (f' := (mkF m 97 #[.val (.int p1), .val (.int p2), .unset, .unset, .unset, .unset, .unset] [(.ref b1)])) st29 ?_
  refine own_by (f' := (mkF m 98 #[.val (.int p1), .val (.int p2), .val (.ref b1), .unset, .unset, .unset, .unset] [])) (fun t h => XS.astoreN X29.here hx rfl (hb hby at_97) rfl rfl (l' := #[.val (.int p1), .val (.int p2), .val (.ref b1), .unset, .unset, .unset, .unset]) rfl h) ?_
  refine own_by (f' := (mkF m 99 #[.val (.int p1), .val (.int p2), .val (.ref b1), .unset, .unset, .unset, .unset] [(.int p1)])) (fun t h => XS.iloadN X29.here hx rfl (hb hby at_98) rfl h) ?_
  refine own_by (f' := (mkF m 101 #[.val (.int p1), .val (.int p2), .val (.ref b1), .unset, .unset, .unset, .unset] [(.int (2147483647 : Int32)), (.int p1)])) (fun t h => X29.ldcI hx hown (mvT hZ (hw _ (List.mem_of_getElem? (i := 32) rfl))) rfl (hb hby at_99) h) ?_
  refine own_by (f' := (mkF m 102 #[.val (.int p1), .val (.int p2), .val (.ref b1), .unset, .unset, .unset, .unset] [(.int (p1 &&& (2147483647 : Int32)))])) (fun t h => XS.iand X29.here hx rfl (hb hby at_101) rfl h) ?_
  refine own_by (f' := (mkF m 104 #[.val (.int p1), .val (.int p2), .val (.ref b1), .unset, .unset, .unset, .unset] [(.int (14 : Int32)), (.int (p1 &&& (2147483647 : Int32)))])) (fun t h => XT.bipushV X29.here hx rfl (14 : Int32) (hb hby at_102) rfl h) ?_
  refine own_by (f' := (mkF m 105 #[.val (.int p1), .val (.int p2), .val (.ref b1), .unset, .unset, .unset, .unset] [(.int ((p1 &&& (2147483647 : Int32)) % (14 : Int32)))])) (fun t h => iremM X29 hx rfl (hb hby at_104) rfl (by decide) h) ?_
  refine own_by (f' := (mkF m 106 #[.val (.int p1), .val (.int p2), .val (.ref b1), .val (.int ((p1 &&& (2147483647 : Int32)) % (14 : Int32))), .unset, .unset, .unset] [])) (fun t h => XS.istoreN X29.here hx rfl (hb hby at_105) rfl (l' := #[.val (.int p1), .val (.int p2), .val (.ref b1), .val (.int ((p1 &&& (2147483647 : Int32)) % (14 : Int32))), .unset, .unset, .unset]) rfl h) ?_
  have hk := own_k p1
  generalize ((p1 &&& (2147483647 : Int32)) % (14 : Int32)) = k at hk ⊢
  rcases hk with rfl | rfl | rfl | rfl | rfl | rfl | rfl | rfl | rfl | rfl | rfl | rfl | rfl | rfl
  · refine own_by (f' := (mkF m 107 #[.val (.int p1), .val (.int p2), .val (.ref b1), .val (.int (0 : Int32)), .unset, .unset, .unset] [(.ref b1)])) (fun t h => XS.aloadN X29.here hx rfl (hb hby at_106) rfl rfl h) ?_
    refine own_by (f' := (mkF m 108 #[.val (.int p1), .val (.int p2), .val (.ref b1), .val (.int (0 : Int32)), .unset, .unset, .unset] [(.int (0 : Int32)), (.ref b1)])) (fun t h => XS.iloadN X29.here hx rfl (hb hby at_107) rfl h) ?_
    obtain ⟨cl30, Ar30, q30, S30, P30, H30, G30⟩ := V29
    refine own_by (f' := (mkF m 109 #[.val (.int p1), .val (.int p2), .val (.ref b1), .val (.int (0 : Int32)), .unset, .unset, .unset] [(.ref w_BYTE)])) (fun t h => X29.aaload hx (j := (0 : Int32)) (v := (.ref w_BYTE)) (by rw [e29]; exact Ar30.1) (State.isArrayOf_alike hZ.alike Ar30.2.1) rfl Ar30.2.2 (by rw [S30]; decide) (Has.at H30 (by rw [S30]; decide) rfl) (g := (mkF m 108 #[.val (.int p1), .val (.int p2), .val (.ref b1), .val (.int (0 : Int32)), .unset, .unset, .unset] [(.int (0 : Int32)), (.ref b1)])) rfl rfl (hb hby at_108) t h) ?_
    refine own_by (f' := (mkF m 111 #[.val (.int p1), .val (.int p2), .val (.ref b1), .val (.int (0 : Int32)), .val (.ref w_BYTE), .unset, .unset] [])) (fun t h => XS.astore X29.here hx rfl (hb hby at_109) rfl rfl (l' := #[.val (.int p1), .val (.int p2), .val (.ref b1), .val (.int (0 : Int32)), .val (.ref w_BYTE), .unset, .unset]) rfl h) ?_
    refine own_by (f' := (mkF m 113 #[.val (.int p1), .val (.int p2), .val (.ref b1), .val (.int (0 : Int32)), .val (.ref w_BYTE), .unset, .unset] [(.ref w_BYTE)])) (fun t h => XS.aload X29.here hx rfl (hb hby at_111) rfl rfl h) ?_
    refine own_by (f' := (mkF m 114 #[.val (.int p1), .val (.int p2), .val (.ref b1), .val (.int (0 : Int32)), .val (.ref w_BYTE), .unset, .unset] [(.int p2), (.ref w_BYTE)])) (fun t h => XS.iloadN X29.here hx rfl (hb hby at_113) rfl h) ?_
    obtain ⟨cq31, kq31, q31a, q31b, q31c⟩ := isOf hZ e29 (E_BYTE.ext Ex29)
    obtain ⟨v31, _, ⟨T31, L31, k31, n31⟩, -, X31, ⟨Lc31, hQ31, l31, y31, z31⟩, st31⟩ := X29.virtualBack hx (y := (⟨"com/example/subscript/subscript/Type$Kind", "narrow", "(I)I"⟩ : MethodName)) (z := (⟨"com/example/subscript/subscript/Type$Kind", "narrow", "(I)I"⟩ : MethodName)) hown (mvT hZ (hw _ (List.mem_of_getElem? (i := 33) rfl))) (mvT hZ (hw _ (List.mem_of_getElem? (i := 34) rfl))) (notFace_of_selects (args := #[]) (mvT hZ (hw _ (List.mem_of_getElem? (i := 36) rfl)))) (mvT hZ (hw _ (List.mem_of_getElem? (i := 36) rfl))) (mvT hZ (hw _ (List.mem_of_getElem? (i := 35) rfl))) (by decide) (backOf (W := 0) (rm1 l Z a0 hw [] w_BYTE p2 w_BYTE w_SHORT w_CHAR h29 n0 (Nat.le_trans Z0 Ex29.1) (S_BYTE.ext Ex29) (S_SHORT.ext Ex29) (S_CHAR.ext Ex29)) hZ (hw _ (List.mem_of_getElem? (i := 37) rfl)) (hw _ (List.mem_of_getElem? (i := 3) rfl)) (by decide) (by decide)) q31a q31c (g := (mkF m 114 #[.val (.int p1), .val (.int p2), .val (.ref b1), .val (.int (0 : Int32)), .val (.ref w_BYTE), .unset, .unset] [(.int p2), (.ref w_BYTE)])) rfl (by rw [hml]; rfl) (Steps.refl _) (argsL := [(.int p2)]) (rest := []) (lenOf own_pd1 rfl) rfl (by show 2 * 0 + _ ≤ _; exact Nat.le_of_eq rfl) (hb hby at_114) (fun _ _ => ⟨rfl, e29, (by decide : 1 + 0 ≤ _), (by decide : 14 + 0 ≤ _)⟩)
    dsimp only [Pt.U, Pt.locs, Pt.cells, Pt.slots] at X31 l31 y31 z31 st31 hQ31
    subst l31 y31 z31
    obtain ⟨hv31, Nc31, e31⟩ := hQ31
    have N31 := Fr.app N29 Nc31
    obtain rfl : v31 = some (.int (p2).toInt8.toInt32) := hv31.trans (congrArg (fun z => some (Value.int z)) (if_pos rfl))
    refine own_by (f' := (mkF m 117 #[.val (.int p1), .val (.int p2), .val (.ref b1), .val (.int (0 : Int32)), .val (.ref w_BYTE), .unset, .unset] [(.int (p2).toInt8.toInt32)])) (fun t h => st31.trans h) ?_
    refine own_by (f' := (mkF m 119 #[.val (.int p1), .val (.int p2), .val (.ref b1), .val (.int (0 : Int32)), .val (.ref w_BYTE), .val (.int (p2).toInt8.toInt32), .unset] [])) (fun t h => XS.istore X31.here hx rfl (hb hby at_117) rfl (l' := #[.val (.int p1), .val (.int p2), .val (.ref b1), .val (.int (0 : Int32)), .val (.ref w_BYTE), .val (.int (p2).toInt8.toInt32), .unset]) rfl h) ?_
    refine own_by (f' := (mkF m 120 #[.val (.int p1), .val (.int p2), .val (.ref b1), .val (.int (0 : Int32)), .val (.ref w_BYTE), .val (.int (p2).toInt8.toInt32), .unset] [(.int (0 : Int32))])) (fun t h => XS.iloadN X31.here hx rfl (hb hby at_119) rfl h) ?_
    refine own_by (f' := (mkF m 123 #[.val (.int p1), .val (.int p2), .val (.ref b1), .val (.int (0 : Int32)), .val (.ref w_BYTE), .val (.int (p2).toInt8.toInt32), .unset] [])) (fun t h => XS.ifNo X31.here hx rfl (hb hby at_120) rfl (by decide) h) ?_
    refine own_by (f' := (mkF m 124 #[.val (.int p1), .val (.int p2), .val (.ref b1), .val (.int (0 : Int32)), .val (.ref w_BYTE), .val (.int (p2).toInt8.toInt32), .unset] [(.int p2)])) (fun t h => XS.iloadN X31.here hx rfl (hb hby at_123) rfl h) ?_
    refine own_by (f' := (mkF m 127 #[.val (.int p1), .val (.int p2), .val (.ref b1), .val (.int (0 : Int32)), .val (.ref w_BYTE), .val (.int (p2).toInt8.toInt32), .unset] [(.int (255 : Int32)), (.int p2)])) (fun t h => XT.sipushV X31.here hx rfl (255 : Int32) (hb hby at_124) rfl h) ?_
    refine own_by (f' := (mkF m 128 #[.val (.int p1), .val (.int p2), .val (.ref b1), .val (.int (0 : Int32)), .val (.ref w_BYTE), .val (.int (p2).toInt8.toInt32), .unset] [(.int (p2 &&& (255 : Int32)))])) (fun t h => XS.iand X31.here hx rfl (hb hby at_127) rfl h) ?_
    refine own_by (f' := (mkF m 131 #[.val (.int p1), .val (.int p2), .val (.ref b1), .val (.int (0 : Int32)), .val (.ref w_BYTE), .val (.int (p2).toInt8.toInt32), .unset] [(.int (128 : Int32)), (.int (p2 &&& (255 : Int32)))])) (fun t h => XT.sipushV X31.here hx rfl (128 : Int32) (hb hby at_128) rfl h) ?_
    refine own_by (f' := (mkF m 132 #[.val (.int p1), .val (.int p2), .val (.ref b1), .val (.int (0 : Int32)), .val (.ref w_BYTE), .val (.int (p2).toInt8.toInt32), .unset] [(.int ((p2 &&& (255 : Int32)) ^^^ (128 : Int32)))])) (fun t h => XT.ixor X31.here hx rfl (hb hby at_131) rfl h) ?_
    refine own_by (f' := (mkF m 135 #[.val (.int p1), .val (.int p2), .val (.ref b1), .val (.int (0 : Int32)), .val (.ref w_BYTE), .val (.int (p2).toInt8.toInt32), .unset] [(.int (128 : Int32)), (.int ((p2 &&& (255 : Int32)) ^^^ (128 : Int32)))])) (fun t h => XT.sipushV X31.here hx rfl (128 : Int32) (hb hby at_132) rfl h) ?_
    refine own_by (f' := (mkF m 136 #[.val (.int p1), .val (.int p2), .val (.ref b1), .val (.int (0 : Int32)), .val (.ref w_BYTE), .val (.int (p2).toInt8.toInt32), .unset] [(.int (((p2 &&& (255 : Int32)) ^^^ (128 : Int32)) - (128 : Int32)))])) (fun t h => XS.isub X31.here hx rfl (hb hby at_135) rfl h) ?_
    refine own_by (f' := (mkF m 138 #[.val (.int p1), .val (.int p2), .val (.ref b1), .val (.int (0 : Int32)), .val (.ref w_BYTE), .val (.int (p2).toInt8.toInt32), .val (.int (((p2 &&& (255 : Int32)) ^^^ (128 : Int32)) - (128 : Int32)))] [])) (fun t h => XS.istore X31.here hx rfl (hb hby at_136) rfl (l' := #[.val (.int p1), .val (.int p2), .val (.ref b1), .val (.int (0 : Int32)), .val (.ref w_BYTE), .val (.int (p2).toInt8.toInt32), .val (.int (((p2 &&& (255 : Int32)) ^^^ (128 : Int32)) - (128 : Int32)))]) rfl h) ?_
    refine own_by (f' := (mkF m 178 #[.val (.int p1), .val (.int p2), .val (.ref b1), .val (.int (0 : Int32)), .val (.ref w_BYTE), .val (.int (p2).toInt8.toInt32), .val (.int (((p2 &&& (255 : Int32)) ^^^ (128 : Int32)) - (128 : Int32)))] [])) (fun t h => XS.goto X31.here hx rfl (pc0 := 138) (pc' := 178) rfl (hb hby at_138) (by decide) (by decide) h) ?_
    refine own_by (f' := (mkF m 180 #[.val (.int p1), .val (.int p2), .val (.ref b1), .val (.int (0 : Int32)), .val (.ref w_BYTE), .val (.int (p2).toInt8.toInt32), .val (.int (((p2 &&& (255 : Int32)) ^^^ (128 : Int32)) - (128 : Int32)))] [(.int (p2).toInt8.toInt32)])) (fun t h => XS.iload X31.here hx rfl (hb hby at_178) rfl h) ?_
    refine own_by (f' := (mkF m 182 #[.val (.int p1), .val (.int p2), .val (.ref b1), .val (.int (0 : Int32)), .val (.ref w_BYTE), .val (.int (p2).toInt8.toInt32), .val (.int (((p2 &&& (255 : Int32)) ^^^ (128 : Int32)) - (128 : Int32)))] [(.int (((p2 &&& (255 : Int32)) ^^^ (128 : Int32)) - (128 : Int32))), (.int (p2).toInt8.toInt32)])) (fun t h => XS.iload X31.here hx rfl (hb hby at_180) rfl h) ?_
    refine own_by (f' := (mkF m 185 #[.val (.int p1), .val (.int p2), .val (.ref b1), .val (.int (0 : Int32)), .val (.ref w_BYTE), .val (.int (p2).toInt8.toInt32), .val (.int (((p2 &&& (255 : Int32)) ^^^ (128 : Int32)) - (128 : Int32)))] [])) (fun t h => XS.icmpNo X31.here hx rfl (hb hby at_182) rfl (teq (own_b p2)).2 h) ?_
    refine own_by (f' := (mkF m 186 #[.val (.int p1), .val (.int p2), .val (.ref b1), .val (.int (0 : Int32)), .val (.ref w_BYTE), .val (.int (p2).toInt8.toInt32), .val (.int (((p2 &&& (255 : Int32)) ^^^ (128 : Int32)) - (128 : Int32)))] [(.int (1 : Int32))])) (fun t h => XS.iconst X31.here hx rfl (hb hby at_185) h) ?_
    refine own_by (f' := (mkF m 190 #[.val (.int p1), .val (.int p2), .val (.ref b1), .val (.int (0 : Int32)), .val (.ref w_BYTE), .val (.int (p2).toInt8.toInt32), .val (.int (((p2 &&& (255 : Int32)) ^^^ (128 : Int32)) - (128 : Int32)))] [(.int (1 : Int32))])) (fun t h => XS.goto X31.here hx rfl (pc0 := 186) (pc' := 190) rfl (hb hby at_186) (by decide) (by decide) h) ?_
    obtain ⟨fs, hr, hrun, hended, hW, hsame⟩ := X31.leave (v := some (.int (1 : Int32))) (fun h => by rw [Bd.returns] at h; cases h)
    refine own_mk ⟨_, _, retN X31 hx (t := .boolean) Bd.returns (by simp) (hb hby at_190) hr, hrun, hended, _, _, rfl, ?_, ⟨_, rfl⟩, hW, hsame.mono (by decide) (by decide)⟩
    show Q0 n0 _ T31.heap _
    rw [e31]
    exact ⟨rfl, N31⟩
  · refine own_by (f' := (mkF m 107 #[.val (.int p1), .val (.int p2), .val (.ref b1), .val (.int (1 : Int32)), .unset, .unset, .unset] [(.ref b1)])) (fun t h => XS.aloadN X29.here hx rfl (hb hby at_106) rfl rfl h) ?_
    refine own_by (f' := (mkF m 108 #[.val (.int p1), .val (.int p2), .val (.ref b1), .val (.int (1 : Int32)), .unset, .unset, .unset] [(.int (1 : Int32)), (.ref b1)])) (fun t h => XS.iloadN X29.here hx rfl (hb hby at_107) rfl h) ?_
    obtain ⟨cl32, Ar32, q32, S32, P32, H32, G32⟩ := V29
    refine own_by (f' := (mkF m 109 #[.val (.int p1), .val (.int p2), .val (.ref b1), .val (.int (1 : Int32)), .unset, .unset, .unset] [(.ref w_SHORT)])) (fun t h => X29.aaload hx (j := (1 : Int32)) (v := (.ref w_SHORT)) (by rw [e29]; exact Ar32.1) (State.isArrayOf_alike hZ.alike Ar32.2.1) rfl Ar32.2.2 (by rw [S32]; decide) (Has.at H32 (by rw [S32]; decide) rfl) (g := (mkF m 108 #[.val (.int p1), .val (.int p2), .val (.ref b1), .val (.int (1 : Int32)), .unset, .unset, .unset] [(.int (1 : Int32)), (.ref b1)])) rfl rfl (hb hby at_108) t h) ?_
    refine own_by (f' := (mkF m 111 #[.val (.int p1), .val (.int p2), .val (.ref b1), .val (.int (1 : Int32)), .val (.ref w_SHORT), .unset, .unset] [])) (fun t h => XS.astore X29.here hx rfl (hb hby at_109) rfl rfl (l' := #[.val (.int p1), .val (.int p2), .val (.ref b1), .val (.int (1 : Int32)), .val (.ref w_SHORT), .unset, .unset]) rfl h) ?_
    refine own_by (f' := (mkF m 113 #[.val (.int p1), .val (.int p2), .val (.ref b1), .val (.int (1 : Int32)), .val (.ref w_SHORT), .unset, .unset] [(.ref w_SHORT)])) (fun t h => XS.aload X29.here hx rfl (hb hby at_111) rfl rfl h) ?_
    refine own_by (f' := (mkF m 114 #[.val (.int p1), .val (.int p2), .val (.ref b1), .val (.int (1 : Int32)), .val (.ref w_SHORT), .unset, .unset] [(.int p2), (.ref w_SHORT)])) (fun t h => XS.iloadN X29.here hx rfl (hb hby at_113) rfl h) ?_
    obtain ⟨cq33, kq33, q33a, q33b, q33c⟩ := isOf hZ e29 (E_SHORT.ext Ex29)
    obtain ⟨v33, _, ⟨T33, L33, k33, n33⟩, -, X33, ⟨Lc33, hQ33, l33, y33, z33⟩, st33⟩ := X29.virtualBack hx (y := (⟨"com/example/subscript/subscript/Type$Kind", "narrow", "(I)I"⟩ : MethodName)) (z := (⟨"com/example/subscript/subscript/Type$Kind", "narrow", "(I)I"⟩ : MethodName)) hown (mvT hZ (hw _ (List.mem_of_getElem? (i := 33) rfl))) (mvT hZ (hw _ (List.mem_of_getElem? (i := 34) rfl))) (notFace_of_selects (args := #[]) (mvT hZ (hw _ (List.mem_of_getElem? (i := 36) rfl)))) (mvT hZ (hw _ (List.mem_of_getElem? (i := 36) rfl))) (mvT hZ (hw _ (List.mem_of_getElem? (i := 35) rfl))) (by decide) (backOf (W := 0) (rm1 l Z a0 hw [] w_SHORT p2 w_BYTE w_SHORT w_CHAR h29 n0 (Nat.le_trans Z0 Ex29.1) (S_BYTE.ext Ex29) (S_SHORT.ext Ex29) (S_CHAR.ext Ex29)) hZ (hw _ (List.mem_of_getElem? (i := 37) rfl)) (hw _ (List.mem_of_getElem? (i := 3) rfl)) (by decide) (by decide)) q33a q33c (g := (mkF m 114 #[.val (.int p1), .val (.int p2), .val (.ref b1), .val (.int (1 : Int32)), .val (.ref w_SHORT), .unset, .unset] [(.int p2), (.ref w_SHORT)])) rfl (by rw [hml]; rfl) (Steps.refl _) (argsL := [(.int p2)]) (rest := []) (lenOf own_pd1 rfl) rfl (by show 2 * 0 + _ ≤ _; exact Nat.le_of_eq rfl) (hb hby at_114) (fun _ _ => ⟨rfl, e29, (by decide : 1 + 0 ≤ _), (by decide : 14 + 0 ≤ _)⟩)
    dsimp only [Pt.U, Pt.locs, Pt.cells, Pt.slots] at X33 l33 y33 z33 st33 hQ33
    subst l33 y33 z33
    obtain ⟨hv33, Nc33, e33⟩ := hQ33
    have N33 := Fr.app N29 Nc33
    obtain rfl : v33 = some (.int (p2).toInt16.toInt32) := hv33.trans (congrArg (fun z => some (Value.int z)) ((if_neg ne_SHORT_BYTE).trans (if_pos rfl)))
    refine own_by (f' := (mkF m 117 #[.val (.int p1), .val (.int p2), .val (.ref b1), .val (.int (1 : Int32)), .val (.ref w_SHORT), .unset, .unset] [(.int (p2).toInt16.toInt32)])) (fun t h => st33.trans h) ?_
    refine own_by (f' := (mkF m 119 #[.val (.int p1), .val (.int p2), .val (.ref b1), .val (.int (1 : Int32)), .val (.ref w_SHORT), .val (.int (p2).toInt16.toInt32), .unset] [])) (fun t h => XS.istore X33.here hx rfl (hb hby at_117) rfl (l' := #[.val (.int p1), .val (.int p2), .val (.ref b1), .val (.int (1 : Int32)), .val (.ref w_SHORT), .val (.int (p2).toInt16.toInt32), .unset]) rfl h) ?_
    refine own_by (f' := (mkF m 120 #[.val (.int p1), .val (.int p2), .val (.ref b1), .val (.int (1 : Int32)), .val (.ref w_SHORT), .val (.int (p2).toInt16.toInt32), .unset] [(.int (1 : Int32))])) (fun t h => XS.iloadN X33.here hx rfl (hb hby at_119) rfl h) ?_
    refine own_by (f' := (mkF m 141 #[.val (.int p1), .val (.int p2), .val (.ref b1), .val (.int (1 : Int32)), .val (.ref w_SHORT), .val (.int (p2).toInt16.toInt32), .unset] [])) (fun t h => XS.ifYes X33.here hx rfl (pc0 := 120) (pc' := 141) rfl (hb hby at_120) rfl (by decide) (by decide) (by decide) h) ?_
    refine own_by (f' := (mkF m 142 #[.val (.int p1), .val (.int p2), .val (.ref b1), .val (.int (1 : Int32)), .val (.ref w_SHORT), .val (.int (p2).toInt16.toInt32), .unset] [(.int (1 : Int32))])) (fun t h => XS.iloadN X33.here hx rfl (hb hby at_141) rfl h) ?_
    refine own_by (f' := (mkF m 143 #[.val (.int p1), .val (.int p2), .val (.ref b1), .val (.int (1 : Int32)), .val (.ref w_SHORT), .val (.int (p2).toInt16.toInt32), .unset] [(.int (1 : Int32)), (.int (1 : Int32))])) (fun t h => XS.iconst X33.here hx rfl (hb hby at_142) h) ?_
    refine own_by (f' := (mkF m 146 #[.val (.int p1), .val (.int p2), .val (.ref b1), .val (.int (1 : Int32)), .val (.ref w_SHORT), .val (.int (p2).toInt16.toInt32), .unset] [])) (fun t h => XS.icmpNo X33.here hx rfl (hb hby at_143) rfl (by decide) h) ?_
    refine own_by (f' := (mkF m 147 #[.val (.int p1), .val (.int p2), .val (.ref b1), .val (.int (1 : Int32)), .val (.ref w_SHORT), .val (.int (p2).toInt16.toInt32), .unset] [(.int p2)])) (fun t h => XS.iloadN X33.here hx rfl (hb hby at_146) rfl h) ?_
    refine own_by (f' := (mkF m 149 #[.val (.int p1), .val (.int p2), .val (.ref b1), .val (.int (1 : Int32)), .val (.ref w_SHORT), .val (.int (p2).toInt16.toInt32), .unset] [(.int (65535 : Int32)), (.int p2)])) (fun t h => X33.ldcI hx hown (mvT hZ (hw _ (List.mem_of_getElem? (i := 41) rfl))) rfl (hb hby at_147) h) ?_
    refine own_by (f' := (mkF m 150 #[.val (.int p1), .val (.int p2), .val (.ref b1), .val (.int (1 : Int32)), .val (.ref w_SHORT), .val (.int (p2).toInt16.toInt32), .unset] [(.int (p2 &&& (65535 : Int32)))])) (fun t h => XS.iand X33.here hx rfl (hb hby at_149) rfl h) ?_
    refine own_by (f' := (mkF m 152 #[.val (.int p1), .val (.int p2), .val (.ref b1), .val (.int (1 : Int32)), .val (.ref w_SHORT), .val (.int (p2).toInt16.toInt32), .unset] [(.int (32768 : Int32)), (.int (p2 &&& (65535 : Int32)))])) (fun t h => X33.ldcI hx hown (mvT hZ (hw _ (List.mem_of_getElem? (i := 42) rfl))) rfl (hb hby at_150) h) ?_
    refine own_by (f' := (mkF m 153 #[.val (.int p1), .val (.int p2), .val (.ref b1), .val (.int (1 : Int32)), .val (.ref w_SHORT), .val (.int (p2).toInt16.toInt32), .unset] [(.int ((p2 &&& (65535 : Int32)) ^^^ (32768 : Int32)))])) (fun t h => XT.ixor X33.here hx rfl (hb hby at_152) rfl h) ?_
    refine own_by (f' := (mkF m 155 #[.val (.int p1), .val (.int p2), .val (.ref b1), .val (.int (1 : Int32)), .val (.ref w_SHORT), .val (.int (p2).toInt16.toInt32), .unset] [(.int (32768 : Int32)), (.int ((p2 &&& (65535 : Int32)) ^^^ (32768 : Int32)))])) (fun t h => X33.ldcI hx hown (mvT hZ (hw _ (List.mem_of_getElem? (i := 42) rfl))) rfl (hb hby at_153) h) ?_
    refine own_by (f' := (mkF m 156 #[.val (.int p1), .val (.int p2), .val (.ref b1), .val (.int (1 : Int32)), .val (.ref w_SHORT), .val (.int (p2).toInt16.toInt32), .unset] [(.int (((p2 &&& (65535 : Int32)) ^^^ (32768 : Int32)) - (32768 : Int32)))])) (fun t h => XS.isub X33.here hx rfl (hb hby at_155) rfl h) ?_
    refine own_by (f' := (mkF m 158 #[.val (.int p1), .val (.int p2), .val (.ref b1), .val (.int (1 : Int32)), .val (.ref w_SHORT), .val (.int (p2).toInt16.toInt32), .val (.int (((p2 &&& (65535 : Int32)) ^^^ (32768 : Int32)) - (32768 : Int32)))] [])) (fun t h => XS.istore X33.here hx rfl (hb hby at_156) rfl (l' := #[.val (.int p1), .val (.int p2), .val (.ref b1), .val (.int (1 : Int32)), .val (.ref w_SHORT), .val (.int (p2).toInt16.toInt32), .val (.int (((p2 &&& (65535 : Int32)) ^^^ (32768 : Int32)) - (32768 : Int32)))]) rfl h) ?_
    refine own_by (f' := (mkF m 178 #[.val (.int p1), .val (.int p2), .val (.ref b1), .val (.int (1 : Int32)), .val (.ref w_SHORT), .val (.int (p2).toInt16.toInt32), .val (.int (((p2 &&& (65535 : Int32)) ^^^ (32768 : Int32)) - (32768 : Int32)))] [])) (fun t h => XS.goto X33.here hx rfl (pc0 := 158) (pc' := 178) rfl (hb hby at_158) (by decide) (by decide) h) ?_
    refine own_by (f' := (mkF m 180 #[.val (.int p1), .val (.int p2), .val (.ref b1), .val (.int (1 : Int32)), .val (.ref w_SHORT), .val (.int (p2).toInt16.toInt32), .val (.int (((p2 &&& (65535 : Int32)) ^^^ (32768 : Int32)) - (32768 : Int32)))] [(.int (p2).toInt16.toInt32)])) (fun t h => XS.iload X33.here hx rfl (hb hby at_178) rfl h) ?_
    refine own_by (f' := (mkF m 182 #[.val (.int p1), .val (.int p2), .val (.ref b1), .val (.int (1 : Int32)), .val (.ref w_SHORT), .val (.int (p2).toInt16.toInt32), .val (.int (((p2 &&& (65535 : Int32)) ^^^ (32768 : Int32)) - (32768 : Int32)))] [(.int (((p2 &&& (65535 : Int32)) ^^^ (32768 : Int32)) - (32768 : Int32))), (.int (p2).toInt16.toInt32)])) (fun t h => XS.iload X33.here hx rfl (hb hby at_180) rfl h) ?_
    refine own_by (f' := (mkF m 185 #[.val (.int p1), .val (.int p2), .val (.ref b1), .val (.int (1 : Int32)), .val (.ref w_SHORT), .val (.int (p2).toInt16.toInt32), .val (.int (((p2 &&& (65535 : Int32)) ^^^ (32768 : Int32)) - (32768 : Int32)))] [])) (fun t h => XS.icmpNo X33.here hx rfl (hb hby at_182) rfl (teq (own_s p2)).2 h) ?_
    refine own_by (f' := (mkF m 186 #[.val (.int p1), .val (.int p2), .val (.ref b1), .val (.int (1 : Int32)), .val (.ref w_SHORT), .val (.int (p2).toInt16.toInt32), .val (.int (((p2 &&& (65535 : Int32)) ^^^ (32768 : Int32)) - (32768 : Int32)))] [(.int (1 : Int32))])) (fun t h => XS.iconst X33.here hx rfl (hb hby at_185) h) ?_
    refine own_by (f' := (mkF m 190 #[.val (.int p1), .val (.int p2), .val (.ref b1), .val (.int (1 : Int32)), .val (.ref w_SHORT), .val (.int (p2).toInt16.toInt32), .val (.int (((p2 &&& (65535 : Int32)) ^^^ (32768 : Int32)) - (32768 : Int32)))] [(.int (1 : Int32))])) (fun t h => XS.goto X33.here hx rfl (pc0 := 186) (pc' := 190) rfl (hb hby at_186) (by decide) (by decide) h) ?_
    obtain ⟨fs, hr, hrun, hended, hW, hsame⟩ := X33.leave (v := some (.int (1 : Int32))) (fun h => by rw [Bd.returns] at h; cases h)
    refine own_mk ⟨_, _, retN X33 hx (t := .boolean) Bd.returns (by simp) (hb hby at_190) hr, hrun, hended, _, _, rfl, ?_, ⟨_, rfl⟩, hW, hsame.mono (by decide) (by decide)⟩
    show Q0 n0 _ T33.heap _
    rw [e33]
    exact ⟨rfl, N33⟩
  · refine own_by (f' := (mkF m 107 #[.val (.int p1), .val (.int p2), .val (.ref b1), .val (.int (2 : Int32)), .unset, .unset, .unset] [(.ref b1)])) (fun t h => XS.aloadN X29.here hx rfl (hb hby at_106) rfl rfl h) ?_
    refine own_by (f' := (mkF m 108 #[.val (.int p1), .val (.int p2), .val (.ref b1), .val (.int (2 : Int32)), .unset, .unset, .unset] [(.int (2 : Int32)), (.ref b1)])) (fun t h => XS.iloadN X29.here hx rfl (hb hby at_107) rfl h) ?_
    obtain ⟨cl34, Ar34, q34, S34, P34, H34, G34⟩ := V29
    refine own_by (f' := (mkF m 109 #[.val (.int p1), .val (.int p2), .val (.ref b1), .val (.int (2 : Int32)), .unset, .unset, .unset] [(.ref w_CHAR)])) (fun t h => X29.aaload hx (j := (2 : Int32)) (v := (.ref w_CHAR)) (by rw [e29]; exact Ar34.1) (State.isArrayOf_alike hZ.alike Ar34.2.1) rfl Ar34.2.2 (by rw [S34]; decide) (Has.at H34 (by rw [S34]; decide) rfl) (g := (mkF m 108 #[.val (.int p1), .val (.int p2), .val (.ref b1), .val (.int (2 : Int32)), .unset, .unset, .unset] [(.int (2 : Int32)), (.ref b1)])) rfl rfl (hb hby at_108) t h) ?_
    refine own_by (f' := (mkF m 111 #[.val (.int p1), .val (.int p2), .val (.ref b1), .val (.int (2 : Int32)), .val (.ref w_CHAR), .unset, .unset] [])) (fun t h => XS.astore X29.here hx rfl (hb hby at_109) rfl rfl (l' := #[.val (.int p1), .val (.int p2), .val (.ref b1), .val (.int (2 : Int32)), .val (.ref w_CHAR), .unset, .unset]) rfl h) ?_
    refine own_by (f' := (mkF m 113 #[.val (.int p1), .val (.int p2), .val (.ref b1), .val (.int (2 : Int32)), .val (.ref w_CHAR), .unset, .unset] [(.ref w_CHAR)])) (fun t h => XS.aload X29.here hx rfl (hb hby at_111) rfl rfl h) ?_
    refine own_by (f' := (mkF m 114 #[.val (.int p1), .val (.int p2), .val (.ref b1), .val (.int (2 : Int32)), .val (.ref w_CHAR), .unset, .unset] [(.int p2), (.ref w_CHAR)])) (fun t h => XS.iloadN X29.here hx rfl (hb hby at_113) rfl h) ?_
    obtain ⟨cq35, kq35, q35a, q35b, q35c⟩ := isOf hZ e29 (E_CHAR.ext Ex29)
    obtain ⟨v35, _, ⟨T35, L35, k35, n35⟩, -, X35, ⟨Lc35, hQ35, l35, y35, z35⟩, st35⟩ := X29.virtualBack hx (y := (⟨"com/example/subscript/subscript/Type$Kind", "narrow", "(I)I"⟩ : MethodName)) (z := (⟨"com/example/subscript/subscript/Type$Kind", "narrow", "(I)I"⟩ : MethodName)) hown (mvT hZ (hw _ (List.mem_of_getElem? (i := 33) rfl))) (mvT hZ (hw _ (List.mem_of_getElem? (i := 34) rfl))) (notFace_of_selects (args := #[]) (mvT hZ (hw _ (List.mem_of_getElem? (i := 36) rfl)))) (mvT hZ (hw _ (List.mem_of_getElem? (i := 36) rfl))) (mvT hZ (hw _ (List.mem_of_getElem? (i := 35) rfl))) (by decide) (backOf (W := 0) (rm1 l Z a0 hw [] w_CHAR p2 w_BYTE w_SHORT w_CHAR h29 n0 (Nat.le_trans Z0 Ex29.1) (S_BYTE.ext Ex29) (S_SHORT.ext Ex29) (S_CHAR.ext Ex29)) hZ (hw _ (List.mem_of_getElem? (i := 37) rfl)) (hw _ (List.mem_of_getElem? (i := 3) rfl)) (by decide) (by decide)) q35a q35c (g := (mkF m 114 #[.val (.int p1), .val (.int p2), .val (.ref b1), .val (.int (2 : Int32)), .val (.ref w_CHAR), .unset, .unset] [(.int p2), (.ref w_CHAR)])) rfl (by rw [hml]; rfl) (Steps.refl _) (argsL := [(.int p2)]) (rest := []) (lenOf own_pd1 rfl) rfl (by show 2 * 0 + _ ≤ _; exact Nat.le_of_eq rfl) (hb hby at_114) (fun _ _ => ⟨rfl, e29, (by decide : 1 + 0 ≤ _), (by decide : 14 + 0 ≤ _)⟩)
    dsimp only [Pt.U, Pt.locs, Pt.cells, Pt.slots] at X35 l35 y35 z35 st35 hQ35
    subst l35 y35 z35
    obtain ⟨hv35, Nc35, e35⟩ := hQ35
    have N35 := Fr.app N29 Nc35
    obtain rfl : v35 = some (.int (p2).toUInt32.toUInt16.toUInt32.toInt32) := hv35.trans (congrArg (fun z => some (Value.int z)) ((if_neg ne_CHAR_BYTE).trans ((if_neg ne_CHAR_SHORT).trans (if_pos rfl))))
    refine own_by (f' := (mkF m 117 #[.val (.int p1), .val (.int p2), .val (.ref b1), .val (.int (2 : Int32)), .val (.ref w_CHAR), .unset, .unset] [(.int (p2).toUInt32.toUInt16.toUInt32.toInt32)])) (fun t h => st35.trans h) ?_
    refine own_by (f' := (mkF m 119 #[.val (.int p1), .val (.int p2), .val (.ref b1), .val (.int (2 : Int32)), .val (.ref w_CHAR), .val (.int (p2).toUInt32.toUInt16.toUInt32.toInt32), .unset] [])) (fun t h => XS.istore X35.here hx rfl (hb hby at_117) rfl (l' := #[.val (.int p1), .val (.int p2), .val (.ref b1), .val (.int (2 : Int32)), .val (.ref w_CHAR), .val (.int (p2).toUInt32.toUInt16.toUInt32.toInt32), .unset]) rfl h) ?_
    refine own_by (f' := (mkF m 120 #[.val (.int p1), .val (.int p2), .val (.ref b1), .val (.int (2 : Int32)), .val (.ref w_CHAR), .val (.int (p2).toUInt32.toUInt16.toUInt32.toInt32), .unset] [(.int (2 : Int32))])) (fun t h => XS.iloadN X35.here hx rfl (hb hby at_119) rfl h) ?_
    refine own_by (f' := (mkF m 141 #[.val (.int p1), .val (.int p2), .val (.ref b1), .val (.int (2 : Int32)), .val (.ref w_CHAR), .val (.int (p2).toUInt32.toUInt16.toUInt32.toInt32), .unset] [])) (fun t h => XS.ifYes X35.here hx rfl (pc0 := 120) (pc' := 141) rfl (hb hby at_120) rfl (by decide) (by decide) (by decide) h) ?_
    refine own_by (f' := (mkF m 142 #[.val (.int p1), .val (.int p2), .val (.ref b1), .val (.int (2 : Int32)), .val (.ref w_CHAR), .val (.int (p2).toUInt32.toUInt16.toUInt32.toInt32), .unset] [(.int (2 : Int32))])) (fun t h => XS.iloadN X35.here hx rfl (hb hby at_141) rfl h) ?_
    refine own_by (f' := (mkF m 143 #[.val (.int p1), .val (.int p2), .val (.ref b1), .val (.int (2 : Int32)), .val (.ref w_CHAR), .val (.int (p2).toUInt32.toUInt16.toUInt32.toInt32), .unset] [(.int (1 : Int32)), (.int (2 : Int32))])) (fun t h => XS.iconst X35.here hx rfl (hb hby at_142) h) ?_
    refine own_by (f' := (mkF m 161 #[.val (.int p1), .val (.int p2), .val (.ref b1), .val (.int (2 : Int32)), .val (.ref w_CHAR), .val (.int (p2).toUInt32.toUInt16.toUInt32.toInt32), .unset] [])) (fun t h => XS.icmpYes X35.here hx rfl (pc0 := 143) (pc' := 161) rfl (hb hby at_143) rfl (by decide) (by decide) (by decide) h) ?_
    refine own_by (f' := (mkF m 162 #[.val (.int p1), .val (.int p2), .val (.ref b1), .val (.int (2 : Int32)), .val (.ref w_CHAR), .val (.int (p2).toUInt32.toUInt16.toUInt32.toInt32), .unset] [(.int (2 : Int32))])) (fun t h => XS.iloadN X35.here hx rfl (hb hby at_161) rfl h) ?_
    refine own_by (f' := (mkF m 163 #[.val (.int p1), .val (.int p2), .val (.ref b1), .val (.int (2 : Int32)), .val (.ref w_CHAR), .val (.int (p2).toUInt32.toUInt16.toUInt32.toInt32), .unset] [(.int (2 : Int32)), (.int (2 : Int32))])) (fun t h => XS.iconst X35.here hx rfl (hb hby at_162) h) ?_
    refine own_by (f' := (mkF m 166 #[.val (.int p1), .val (.int p2), .val (.ref b1), .val (.int (2 : Int32)), .val (.ref w_CHAR), .val (.int (p2).toUInt32.toUInt16.toUInt32.toInt32), .unset] [])) (fun t h => XS.icmpNo X35.here hx rfl (hb hby at_163) rfl (by decide) h) ?_
    refine own_by (f' := (mkF m 167 #[.val (.int p1), .val (.int p2), .val (.ref b1), .val (.int (2 : Int32)), .val (.ref w_CHAR), .val (.int (p2).toUInt32.toUInt16.toUInt32.toInt32), .unset] [(.int p2)])) (fun t h => XS.iloadN X35.here hx rfl (hb hby at_166) rfl h) ?_
    refine own_by (f' := (mkF m 169 #[.val (.int p1), .val (.int p2), .val (.ref b1), .val (.int (2 : Int32)), .val (.ref w_CHAR), .val (.int (p2).toUInt32.toUInt16.toUInt32.toInt32), .unset] [(.int (65535 : Int32)), (.int p2)])) (fun t h => X35.ldcI hx hown (mvT hZ (hw _ (List.mem_of_getElem? (i := 41) rfl))) rfl (hb hby at_167) h) ?_
    refine own_by (f' := (mkF m 170 #[.val (.int p1), .val (.int p2), .val (.ref b1), .val (.int (2 : Int32)), .val (.ref w_CHAR), .val (.int (p2).toUInt32.toUInt16.toUInt32.toInt32), .unset] [(.int (p2 &&& (65535 : Int32)))])) (fun t h => XS.iand X35.here hx rfl (hb hby at_169) rfl h) ?_
    refine own_by (f' := (mkF m 172 #[.val (.int p1), .val (.int p2), .val (.ref b1), .val (.int (2 : Int32)), .val (.ref w_CHAR), .val (.int (p2).toUInt32.toUInt16.toUInt32.toInt32), .val (.int (p2 &&& (65535 : Int32)))] [])) (fun t h => XS.istore X35.here hx rfl (hb hby at_170) rfl (l' := #[.val (.int p1), .val (.int p2), .val (.ref b1), .val (.int (2 : Int32)), .val (.ref w_CHAR), .val (.int (p2).toUInt32.toUInt16.toUInt32.toInt32), .val (.int (p2 &&& (65535 : Int32)))]) rfl h) ?_
    refine own_by (f' := (mkF m 178 #[.val (.int p1), .val (.int p2), .val (.ref b1), .val (.int (2 : Int32)), .val (.ref w_CHAR), .val (.int (p2).toUInt32.toUInt16.toUInt32.toInt32), .val (.int (p2 &&& (65535 : Int32)))] [])) (fun t h => XS.goto X35.here hx rfl (pc0 := 172) (pc' := 178) rfl (hb hby at_172) (by decide) (by decide) h) ?_
    refine own_by (f' := (mkF m 180 #[.val (.int p1), .val (.int p2), .val (.ref b1), .val (.int (2 : Int32)), .val (.ref w_CHAR), .val (.int (p2).toUInt32.toUInt16.toUInt32.toInt32), .val (.int (p2 &&& (65535 : Int32)))] [(.int (p2).toUInt32.toUInt16.toUInt32.toInt32)])) (fun t h => XS.iload X35.here hx rfl (hb hby at_178) rfl h) ?_
    refine own_by (f' := (mkF m 182 #[.val (.int p1), .val (.int p2), .val (.ref b1), .val (.int (2 : Int32)), .val (.ref w_CHAR), .val (.int (p2).toUInt32.toUInt16.toUInt32.toInt32), .val (.int (p2 &&& (65535 : Int32)))] [(.int (p2 &&& (65535 : Int32))), (.int (p2).toUInt32.toUInt16.toUInt32.toInt32)])) (fun t h => XS.iload X35.here hx rfl (hb hby at_180) rfl h) ?_
    refine own_by (f' := (mkF m 185 #[.val (.int p1), .val (.int p2), .val (.ref b1), .val (.int (2 : Int32)), .val (.ref w_CHAR), .val (.int (p2).toUInt32.toUInt16.toUInt32.toInt32), .val (.int (p2 &&& (65535 : Int32)))] [])) (fun t h => XS.icmpNo X35.here hx rfl (hb hby at_182) rfl (teq (own_c p2)).2 h) ?_
    refine own_by (f' := (mkF m 186 #[.val (.int p1), .val (.int p2), .val (.ref b1), .val (.int (2 : Int32)), .val (.ref w_CHAR), .val (.int (p2).toUInt32.toUInt16.toUInt32.toInt32), .val (.int (p2 &&& (65535 : Int32)))] [(.int (1 : Int32))])) (fun t h => XS.iconst X35.here hx rfl (hb hby at_185) h) ?_
    refine own_by (f' := (mkF m 190 #[.val (.int p1), .val (.int p2), .val (.ref b1), .val (.int (2 : Int32)), .val (.ref w_CHAR), .val (.int (p2).toUInt32.toUInt16.toUInt32.toInt32), .val (.int (p2 &&& (65535 : Int32)))] [(.int (1 : Int32))])) (fun t h => XS.goto X35.here hx rfl (pc0 := 186) (pc' := 190) rfl (hb hby at_186) (by decide) (by decide) h) ?_
    obtain ⟨fs, hr, hrun, hended, hW, hsame⟩ := X35.leave (v := some (.int (1 : Int32))) (fun h => by rw [Bd.returns] at h; cases h)
    refine own_mk ⟨_, _, retN X35 hx (t := .boolean) Bd.returns (by simp) (hb hby at_190) hr, hrun, hended, _, _, rfl, ?_, ⟨_, rfl⟩, hW, hsame.mono (by decide) (by decide)⟩
    show Q0 n0 _ T35.heap _
    rw [e35]
    exact ⟨rfl, N35⟩
  · refine own_by (f' := (mkF m 107 #[.val (.int p1), .val (.int p2), .val (.ref b1), .val (.int (3 : Int32)), .unset, .unset, .unset] [(.ref b1)])) (fun t h => XS.aloadN X29.here hx rfl (hb hby at_106) rfl rfl h) ?_
    refine own_by (f' := (mkF m 108 #[.val (.int p1), .val (.int p2), .val (.ref b1), .val (.int (3 : Int32)), .unset, .unset, .unset] [(.int (3 : Int32)), (.ref b1)])) (fun t h => XS.iloadN X29.here hx rfl (hb hby at_107) rfl h) ?_
    obtain ⟨cl36, Ar36, q36, S36, P36, H36, G36⟩ := V29
    refine own_by (f' := (mkF m 109 #[.val (.int p1), .val (.int p2), .val (.ref b1), .val (.int (3 : Int32)), .unset, .unset, .unset] [(.ref w_INT)])) (fun t h => X29.aaload hx (j := (3 : Int32)) (v := (.ref w_INT)) (by rw [e29]; exact Ar36.1) (State.isArrayOf_alike hZ.alike Ar36.2.1) rfl Ar36.2.2 (by rw [S36]; decide) (Has.at H36 (by rw [S36]; decide) rfl) (g := (mkF m 108 #[.val (.int p1), .val (.int p2), .val (.ref b1), .val (.int (3 : Int32)), .unset, .unset, .unset] [(.int (3 : Int32)), (.ref b1)])) rfl rfl (hb hby at_108) t h) ?_
    refine own_by (f' := (mkF m 111 #[.val (.int p1), .val (.int p2), .val (.ref b1), .val (.int (3 : Int32)), .val (.ref w_INT), .unset, .unset] [])) (fun t h => XS.astore X29.here hx rfl (hb hby at_109) rfl rfl (l' := #[.val (.int p1), .val (.int p2), .val (.ref b1), .val (.int (3 : Int32)), .val (.ref w_INT), .unset, .unset]) rfl h) ?_
    refine own_by (f' := (mkF m 113 #[.val (.int p1), .val (.int p2), .val (.ref b1), .val (.int (3 : Int32)), .val (.ref w_INT), .unset, .unset] [(.ref w_INT)])) (fun t h => XS.aload X29.here hx rfl (hb hby at_111) rfl rfl h) ?_
    refine own_by (f' := (mkF m 114 #[.val (.int p1), .val (.int p2), .val (.ref b1), .val (.int (3 : Int32)), .val (.ref w_INT), .unset, .unset] [(.int p2), (.ref w_INT)])) (fun t h => XS.iloadN X29.here hx rfl (hb hby at_113) rfl h) ?_
    obtain ⟨cq37, kq37, q37a, q37b, q37c⟩ := isOf hZ e29 (E_INT.ext Ex29)
    obtain ⟨v37, _, ⟨T37, L37, k37, n37⟩, -, X37, ⟨Lc37, hQ37, l37, y37, z37⟩, st37⟩ := X29.virtualBack hx (y := (⟨"com/example/subscript/subscript/Type$Kind", "narrow", "(I)I"⟩ : MethodName)) (z := (⟨"com/example/subscript/subscript/Type$Kind", "narrow", "(I)I"⟩ : MethodName)) hown (mvT hZ (hw _ (List.mem_of_getElem? (i := 33) rfl))) (mvT hZ (hw _ (List.mem_of_getElem? (i := 34) rfl))) (notFace_of_selects (args := #[]) (mvT hZ (hw _ (List.mem_of_getElem? (i := 36) rfl)))) (mvT hZ (hw _ (List.mem_of_getElem? (i := 36) rfl))) (mvT hZ (hw _ (List.mem_of_getElem? (i := 35) rfl))) (by decide) (backOf (W := 0) (rm1 l Z a0 hw [] w_INT p2 w_BYTE w_SHORT w_CHAR h29 n0 (Nat.le_trans Z0 Ex29.1) (S_BYTE.ext Ex29) (S_SHORT.ext Ex29) (S_CHAR.ext Ex29)) hZ (hw _ (List.mem_of_getElem? (i := 37) rfl)) (hw _ (List.mem_of_getElem? (i := 3) rfl)) (by decide) (by decide)) q37a q37c (g := (mkF m 114 #[.val (.int p1), .val (.int p2), .val (.ref b1), .val (.int (3 : Int32)), .val (.ref w_INT), .unset, .unset] [(.int p2), (.ref w_INT)])) rfl (by rw [hml]; rfl) (Steps.refl _) (argsL := [(.int p2)]) (rest := []) (lenOf own_pd1 rfl) rfl (by show 2 * 0 + _ ≤ _; exact Nat.le_of_eq rfl) (hb hby at_114) (fun _ _ => ⟨rfl, e29, (by decide : 1 + 0 ≤ _), (by decide : 14 + 0 ≤ _)⟩)
    dsimp only [Pt.U, Pt.locs, Pt.cells, Pt.slots] at X37 l37 y37 z37 st37 hQ37
    subst l37 y37 z37
    obtain ⟨hv37, Nc37, e37⟩ := hQ37
    have N37 := Fr.app N29 Nc37
    obtain rfl : v37 = some (.int p2) := hv37.trans (congrArg (fun z => some (Value.int z)) ((if_neg ne_INT_BYTE).trans ((if_neg ne_INT_SHORT).trans (if_neg ne_INT_CHAR))))
    refine own_by (f' := (mkF m 117 #[.val (.int p1), .val (.int p2), .val (.ref b1), .val (.int (3 : Int32)), .val (.ref w_INT), .unset, .unset] [(.int p2)])) (fun t h => st37.trans h) ?_
    refine own_by (f' := (mkF m 119 #[.val (.int p1), .val (.int p2), .val (.ref b1), .val (.int (3 : Int32)), .val (.ref w_INT), .val (.int p2), .unset] [])) (fun t h => XS.istore X37.here hx rfl (hb hby at_117) rfl (l' := #[.val (.int p1), .val (.int p2), .val (.ref b1), .val (.int (3 : Int32)), .val (.ref w_INT), .val (.int p2), .unset]) rfl h) ?_
    refine own_by (f' := (mkF m 120 #[.val (.int p1), .val (.int p2), .val (.ref b1), .val (.int (3 : Int32)), .val (.ref w_INT), .val (.int p2), .unset] [(.int (3 : Int32))])) (fun t h => XS.iloadN X37.here hx rfl (hb hby at_119) rfl h) ?_
    refine own_by (f' := (mkF m 141 #[.val (.int p1), .val (.int p2), .val (.ref b1), .val (.int (3 : Int32)), .val (.ref w_INT), .val (.int p2), .unset] [])) (fun t h => XS.ifYes X37.here hx rfl (pc0 := 120) (pc' := 141) rfl (hb hby at_120) rfl (by decide) (by decide) (by decide) h) ?_
    refine own_by (f' := (mkF m 142 #[.val (.int p1), .val (.int p2), .val (.ref b1), .val (.int (3 : Int32)), .val (.ref w_INT), .val (.int p2), .unset] [(.int (3 : Int32))])) (fun t h => XS.iloadN X37.here hx rfl (hb hby at_141) rfl h) ?_
    refine own_by (f' := (mkF m 143 #[.val (.int p1), .val (.int p2), .val (.ref b1), .val (.int (3 : Int32)), .val (.ref w_INT), .val (.int p2), .unset] [(.int (1 : Int32)), (.int (3 : Int32))])) (fun t h => XS.iconst X37.here hx rfl (hb hby at_142) h) ?_
    refine own_by (f' := (mkF m 161 #[.val (.int p1), .val (.int p2), .val (.ref b1), .val (.int (3 : Int32)), .val (.ref w_INT), .val (.int p2), .unset] [])) (fun t h => XS.icmpYes X37.here hx rfl (pc0 := 143) (pc' := 161) rfl (hb hby at_143) rfl (by decide) (by decide) (by decide) h) ?_
    refine own_by (f' := (mkF m 162 #[.val (.int p1), .val (.int p2), .val (.ref b1), .val (.int (3 : Int32)), .val (.ref w_INT), .val (.int p2), .unset] [(.int (3 : Int32))])) (fun t h => XS.iloadN X37.here hx rfl (hb hby at_161) rfl h) ?_
    refine own_by (f' := (mkF m 163 #[.val (.int p1), .val (.int p2), .val (.ref b1), .val (.int (3 : Int32)), .val (.ref w_INT), .val (.int p2), .unset] [(.int (2 : Int32)), (.int (3 : Int32))])) (fun t h => XS.iconst X37.here hx rfl (hb hby at_162) h) ?_
    refine own_by (f' := (mkF m 175 #[.val (.int p1), .val (.int p2), .val (.ref b1), .val (.int (3 : Int32)), .val (.ref w_INT), .val (.int p2), .unset] [])) (fun t h => XS.icmpYes X37.here hx rfl (pc0 := 163) (pc' := 175) rfl (hb hby at_163) rfl (by decide) (by decide) (by decide) h) ?_
    refine own_by (f' := (mkF m 176 #[.val (.int p1), .val (.int p2), .val (.ref b1), .val (.int (3 : Int32)), .val (.ref w_INT), .val (.int p2), .unset] [(.int p2)])) (fun t h => XS.iloadN X37.here hx rfl (hb hby at_175) rfl h) ?_
    refine own_by (f' := (mkF m 178 #[.val (.int p1), .val (.int p2), .val (.ref b1), .val (.int (3 : Int32)), .val (.ref w_INT), .val (.int p2), .val (.int p2)] [])) (fun t h => XS.istore X37.here hx rfl (hb hby at_176) rfl (l' := #[.val (.int p1), .val (.int p2), .val (.ref b1), .val (.int (3 : Int32)), .val (.ref w_INT), .val (.int p2), .val (.int p2)]) rfl h) ?_
    refine own_by (f' := (mkF m 180 #[.val (.int p1), .val (.int p2), .val (.ref b1), .val (.int (3 : Int32)), .val (.ref w_INT), .val (.int p2), .val (.int p2)] [(.int p2)])) (fun t h => XS.iload X37.here hx rfl (hb hby at_178) rfl h) ?_
    refine own_by (f' := (mkF m 182 #[.val (.int p1), .val (.int p2), .val (.ref b1), .val (.int (3 : Int32)), .val (.ref w_INT), .val (.int p2), .val (.int p2)] [(.int p2), (.int p2)])) (fun t h => XS.iload X37.here hx rfl (hb hby at_180) rfl h) ?_
    refine own_by (f' := (mkF m 185 #[.val (.int p1), .val (.int p2), .val (.ref b1), .val (.int (3 : Int32)), .val (.ref w_INT), .val (.int p2), .val (.int p2)] [])) (fun t h => XS.icmpNo X37.here hx rfl (hb hby at_182) rfl (teq (rfl : p2 = p2)).2 h) ?_
    refine own_by (f' := (mkF m 186 #[.val (.int p1), .val (.int p2), .val (.ref b1), .val (.int (3 : Int32)), .val (.ref w_INT), .val (.int p2), .val (.int p2)] [(.int (1 : Int32))])) (fun t h => XS.iconst X37.here hx rfl (hb hby at_185) h) ?_
    refine own_by (f' := (mkF m 190 #[.val (.int p1), .val (.int p2), .val (.ref b1), .val (.int (3 : Int32)), .val (.ref w_INT), .val (.int p2), .val (.int p2)] [(.int (1 : Int32))])) (fun t h => XS.goto X37.here hx rfl (pc0 := 186) (pc' := 190) rfl (hb hby at_186) (by decide) (by decide) h) ?_
    obtain ⟨fs, hr, hrun, hended, hW, hsame⟩ := X37.leave (v := some (.int (1 : Int32))) (fun h => by rw [Bd.returns] at h; cases h)
    refine own_mk ⟨_, _, retN X37 hx (t := .boolean) Bd.returns (by simp) (hb hby at_190) hr, hrun, hended, _, _, rfl, ?_, ⟨_, rfl⟩, hW, hsame.mono (by decide) (by decide)⟩
    show Q0 n0 _ T37.heap _
    rw [e37]
    exact ⟨rfl, N37⟩
  · refine own_by (f' := (mkF m 107 #[.val (.int p1), .val (.int p2), .val (.ref b1), .val (.int (4 : Int32)), .unset, .unset, .unset] [(.ref b1)])) (fun t h => XS.aloadN X29.here hx rfl (hb hby at_106) rfl rfl h) ?_
    refine own_by (f' := (mkF m 108 #[.val (.int p1), .val (.int p2), .val (.ref b1), .val (.int (4 : Int32)), .unset, .unset, .unset] [(.int (4 : Int32)), (.ref b1)])) (fun t h => XS.iloadN X29.here hx rfl (hb hby at_107) rfl h) ?_
    obtain ⟨cl38, Ar38, q38, S38, P38, H38, G38⟩ := V29
    refine own_by (f' := (mkF m 109 #[.val (.int p1), .val (.int p2), .val (.ref b1), .val (.int (4 : Int32)), .unset, .unset, .unset] [(.ref w_LONG)])) (fun t h => X29.aaload hx (j := (4 : Int32)) (v := (.ref w_LONG)) (by rw [e29]; exact Ar38.1) (State.isArrayOf_alike hZ.alike Ar38.2.1) rfl Ar38.2.2 (by rw [S38]; decide) (Has.at H38 (by rw [S38]; decide) rfl) (g := (mkF m 108 #[.val (.int p1), .val (.int p2), .val (.ref b1), .val (.int (4 : Int32)), .unset, .unset, .unset] [(.int (4 : Int32)), (.ref b1)])) rfl rfl (hb hby at_108) t h) ?_
    refine own_by (f' := (mkF m 111 #[.val (.int p1), .val (.int p2), .val (.ref b1), .val (.int (4 : Int32)), .val (.ref w_LONG), .unset, .unset] [])) (fun t h => XS.astore X29.here hx rfl (hb hby at_109) rfl rfl (l' := #[.val (.int p1), .val (.int p2), .val (.ref b1), .val (.int (4 : Int32)), .val (.ref w_LONG), .unset, .unset]) rfl h) ?_
    refine own_by (f' := (mkF m 113 #[.val (.int p1), .val (.int p2), .val (.ref b1), .val (.int (4 : Int32)), .val (.ref w_LONG), .unset, .unset] [(.ref w_LONG)])) (fun t h => XS.aload X29.here hx rfl (hb hby at_111) rfl rfl h) ?_
    refine own_by (f' := (mkF m 114 #[.val (.int p1), .val (.int p2), .val (.ref b1), .val (.int (4 : Int32)), .val (.ref w_LONG), .unset, .unset] [(.int p2), (.ref w_LONG)])) (fun t h => XS.iloadN X29.here hx rfl (hb hby at_113) rfl h) ?_
    obtain ⟨cq39, kq39, q39a, q39b, q39c⟩ := isOf hZ e29 (E_LONG.ext Ex29)
    obtain ⟨v39, _, ⟨T39, L39, k39, n39⟩, -, X39, ⟨Lc39, hQ39, l39, y39, z39⟩, st39⟩ := X29.virtualBack hx (y := (⟨"com/example/subscript/subscript/Type$Kind", "narrow", "(I)I"⟩ : MethodName)) (z := (⟨"com/example/subscript/subscript/Type$Kind", "narrow", "(I)I"⟩ : MethodName)) hown (mvT hZ (hw _ (List.mem_of_getElem? (i := 33) rfl))) (mvT hZ (hw _ (List.mem_of_getElem? (i := 34) rfl))) (notFace_of_selects (args := #[]) (mvT hZ (hw _ (List.mem_of_getElem? (i := 36) rfl)))) (mvT hZ (hw _ (List.mem_of_getElem? (i := 36) rfl))) (mvT hZ (hw _ (List.mem_of_getElem? (i := 35) rfl))) (by decide) (backOf (W := 0) (rm1 l Z a0 hw [] w_LONG p2 w_BYTE w_SHORT w_CHAR h29 n0 (Nat.le_trans Z0 Ex29.1) (S_BYTE.ext Ex29) (S_SHORT.ext Ex29) (S_CHAR.ext Ex29)) hZ (hw _ (List.mem_of_getElem? (i := 37) rfl)) (hw _ (List.mem_of_getElem? (i := 3) rfl)) (by decide) (by decide)) q39a q39c (g := (mkF m 114 #[.val (.int p1), .val (.int p2), .val (.ref b1), .val (.int (4 : Int32)), .val (.ref w_LONG), .unset, .unset] [(.int p2), (.ref w_LONG)])) rfl (by rw [hml]; rfl) (Steps.refl _) (argsL := [(.int p2)]) (rest := []) (lenOf own_pd1 rfl) rfl (by show 2 * 0 + _ ≤ _; exact Nat.le_of_eq rfl) (hb hby at_114) (fun _ _ => ⟨rfl, e29, (by decide : 1 + 0 ≤ _), (by decide : 14 + 0 ≤ _)⟩)
    dsimp only [Pt.U, Pt.locs, Pt.cells, Pt.slots] at X39 l39 y39 z39 st39 hQ39
    subst l39 y39 z39
    obtain ⟨hv39, Nc39, e39⟩ := hQ39
    have N39 := Fr.app N29 Nc39
    obtain rfl : v39 = some (.int p2) := hv39.trans (congrArg (fun z => some (Value.int z)) ((if_neg ne_LONG_BYTE).trans ((if_neg ne_LONG_SHORT).trans (if_neg ne_LONG_CHAR))))
    refine own_by (f' := (mkF m 117 #[.val (.int p1), .val (.int p2), .val (.ref b1), .val (.int (4 : Int32)), .val (.ref w_LONG), .unset, .unset] [(.int p2)])) (fun t h => st39.trans h) ?_
    refine own_by (f' := (mkF m 119 #[.val (.int p1), .val (.int p2), .val (.ref b1), .val (.int (4 : Int32)), .val (.ref w_LONG), .val (.int p2), .unset] [])) (fun t h => XS.istore X39.here hx rfl (hb hby at_117) rfl (l' := #[.val (.int p1), .val (.int p2), .val (.ref b1), .val (.int (4 : Int32)), .val (.ref w_LONG), .val (.int p2), .unset]) rfl h) ?_
    refine own_by (f' := (mkF m 120 #[.val (.int p1), .val (.int p2), .val (.ref b1), .val (.int (4 : Int32)), .val (.ref w_LONG), .val (.int p2), .unset] [(.int (4 : Int32))])) (fun t h => XS.iloadN X39.here hx rfl (hb hby at_119) rfl h) ?_
    refine own_by (f' := (mkF m 141 #[.val (.int p1), .val (.int p2), .val (.ref b1), .val (.int (4 : Int32)), .val (.ref w_LONG), .val (.int p2), .unset] [])) (fun t h => XS.ifYes X39.here hx rfl (pc0 := 120) (pc' := 141) rfl (hb hby at_120) rfl (by decide) (by decide) (by decide) h) ?_
    refine own_by (f' := (mkF m 142 #[.val (.int p1), .val (.int p2), .val (.ref b1), .val (.int (4 : Int32)), .val (.ref w_LONG), .val (.int p2), .unset] [(.int (4 : Int32))])) (fun t h => XS.iloadN X39.here hx rfl (hb hby at_141) rfl h) ?_
    refine own_by (f' := (mkF m 143 #[.val (.int p1), .val (.int p2), .val (.ref b1), .val (.int (4 : Int32)), .val (.ref w_LONG), .val (.int p2), .unset] [(.int (1 : Int32)), (.int (4 : Int32))])) (fun t h => XS.iconst X39.here hx rfl (hb hby at_142) h) ?_
    refine own_by (f' := (mkF m 161 #[.val (.int p1), .val (.int p2), .val (.ref b1), .val (.int (4 : Int32)), .val (.ref w_LONG), .val (.int p2), .unset] [])) (fun t h => XS.icmpYes X39.here hx rfl (pc0 := 143) (pc' := 161) rfl (hb hby at_143) rfl (by decide) (by decide) (by decide) h) ?_
    refine own_by (f' := (mkF m 162 #[.val (.int p1), .val (.int p2), .val (.ref b1), .val (.int (4 : Int32)), .val (.ref w_LONG), .val (.int p2), .unset] [(.int (4 : Int32))])) (fun t h => XS.iloadN X39.here hx rfl (hb hby at_161) rfl h) ?_
    refine own_by (f' := (mkF m 163 #[.val (.int p1), .val (.int p2), .val (.ref b1), .val (.int (4 : Int32)), .val (.ref w_LONG), .val (.int p2), .unset] [(.int (2 : Int32)), (.int (4 : Int32))])) (fun t h => XS.iconst X39.here hx rfl (hb hby at_162) h) ?_
    refine own_by (f' := (mkF m 175 #[.val (.int p1), .val (.int p2), .val (.ref b1), .val (.int (4 : Int32)), .val (.ref w_LONG), .val (.int p2), .unset] [])) (fun t h => XS.icmpYes X39.here hx rfl (pc0 := 163) (pc' := 175) rfl (hb hby at_163) rfl (by decide) (by decide) (by decide) h) ?_
    refine own_by (f' := (mkF m 176 #[.val (.int p1), .val (.int p2), .val (.ref b1), .val (.int (4 : Int32)), .val (.ref w_LONG), .val (.int p2), .unset] [(.int p2)])) (fun t h => XS.iloadN X39.here hx rfl (hb hby at_175) rfl h) ?_
    refine own_by (f' := (mkF m 178 #[.val (.int p1), .val (.int p2), .val (.ref b1), .val (.int (4 : Int32)), .val (.ref w_LONG), .val (.int p2), .val (.int p2)] [])) (fun t h => XS.istore X39.here hx rfl (hb hby at_176) rfl (l' := #[.val (.int p1), .val (.int p2), .val (.ref b1), .val (.int (4 : Int32)), .val (.ref w_LONG), .val (.int p2), .val (.int p2)]) rfl h) ?_
    refine own_by (f' := (mkF m 180 #[.val (.int p1), .val (.int p2), .val (.ref b1), .val (.int (4 : Int32)), .val (.ref w_LONG), .val (.int p2), .val (.int p2)] [(.int p2)])) (fun t h => XS.iload X39.here hx rfl (hb hby at_178) rfl h) ?_
    refine own_by (f' := (mkF m 182 #[.val (.int p1), .val (.int p2), .val (.ref b1), .val (.int (4 : Int32)), .val (.ref w_LONG), .val (.int p2), .val (.int p2)] [(.int p2), (.int p2)])) (fun t h => XS.iload X39.here hx rfl (hb hby at_180) rfl h) ?_
    refine own_by (f' := (mkF m 185 #[.val (.int p1), .val (.int p2), .val (.ref b1), .val (.int (4 : Int32)), .val (.ref w_LONG), .val (.int p2), .val (.int p2)] [])) (fun t h => XS.icmpNo X39.here hx rfl (hb hby at_182) rfl (teq (rfl : p2 = p2)).2 h) ?_
    refine own_by (f' := (mkF m 186 #[.val (.int p1), .val (.int p2), .val (.ref b1), .val (.int (4 : Int32)), .val (.ref w_LONG), .val (.int p2), .val (.int p2)] [(.int (1 : Int32))])) (fun t h => XS.iconst X39.here hx rfl (hb hby at_185) h) ?_
    refine own_by (f' := (mkF m 190 #[.val (.int p1), .val (.int p2), .val (.ref b1), .val (.int (4 : Int32)), .val (.ref w_LONG), .val (.int p2), .val (.int p2)] [(.int (1 : Int32))])) (fun t h => XS.goto X39.here hx rfl (pc0 := 186) (pc' := 190) rfl (hb hby at_186) (by decide) (by decide) h) ?_
    obtain ⟨fs, hr, hrun, hended, hW, hsame⟩ := X39.leave (v := some (.int (1 : Int32))) (fun h => by rw [Bd.returns] at h; cases h)
    refine own_mk ⟨_, _, retN X39 hx (t := .boolean) Bd.returns (by simp) (hb hby at_190) hr, hrun, hended, _, _, rfl, ?_, ⟨_, rfl⟩, hW, hsame.mono (by decide) (by decide)⟩
    show Q0 n0 _ T39.heap _
    rw [e39]
    exact ⟨rfl, N39⟩
  · refine own_by (f' := (mkF m 107 #[.val (.int p1), .val (.int p2), .val (.ref b1), .val (.int (5 : Int32)), .unset, .unset, .unset] [(.ref b1)])) (fun t h => XS.aloadN X29.here hx rfl (hb hby at_106) rfl rfl h) ?_
    refine own_by (f' := (mkF m 108 #[.val (.int p1), .val (.int p2), .val (.ref b1), .val (.int (5 : Int32)), .unset, .unset, .unset] [(.int (5 : Int32)), (.ref b1)])) (fun t h => XS.iloadN X29.here hx rfl (hb hby at_107) rfl h) ?_
    obtain ⟨cl40, Ar40, q40, S40, P40, H40, G40⟩ := V29
    refine own_by (f' := (mkF m 109 #[.val (.int p1), .val (.int p2), .val (.ref b1), .val (.int (5 : Int32)), .unset, .unset, .unset] [(.ref w_FLOAT)])) (fun t h => X29.aaload hx (j := (5 : Int32)) (v := (.ref w_FLOAT)) (by rw [e29]; exact Ar40.1) (State.isArrayOf_alike hZ.alike Ar40.2.1) rfl Ar40.2.2 (by rw [S40]; decide) (Has.at H40 (by rw [S40]; decide) rfl) (g := (mkF m 108 #[.val (.int p1), .val (.int p2), .val (.ref b1), .val (.int (5 : Int32)), .unset, .unset, .unset] [(.int (5 : Int32)), (.ref b1)])) rfl rfl (hb hby at_108) t h) ?_
    refine own_by (f' := (mkF m 111 #[.val (.int p1), .val (.int p2), .val (.ref b1), .val (.int (5 : Int32)), .val (.ref w_FLOAT), .unset, .unset] [])) (fun t h => XS.astore X29.here hx rfl (hb hby at_109) rfl rfl (l' := #[.val (.int p1), .val (.int p2), .val (.ref b1), .val (.int (5 : Int32)), .val (.ref w_FLOAT), .unset, .unset]) rfl h) ?_
    refine own_by (f' := (mkF m 113 #[.val (.int p1), .val (.int p2), .val (.ref b1), .val (.int (5 : Int32)), .val (.ref w_FLOAT), .unset, .unset] [(.ref w_FLOAT)])) (fun t h => XS.aload X29.here hx rfl (hb hby at_111) rfl rfl h) ?_
    refine own_by (f' := (mkF m 114 #[.val (.int p1), .val (.int p2), .val (.ref b1), .val (.int (5 : Int32)), .val (.ref w_FLOAT), .unset, .unset] [(.int p2), (.ref w_FLOAT)])) (fun t h => XS.iloadN X29.here hx rfl (hb hby at_113) rfl h) ?_
    obtain ⟨cq41, kq41, q41a, q41b, q41c⟩ := isOf hZ e29 (E_FLOAT.ext Ex29)
    obtain ⟨v41, _, ⟨T41, L41, k41, n41⟩, -, X41, ⟨Lc41, hQ41, l41, y41, z41⟩, st41⟩ := X29.virtualBack hx (y := (⟨"com/example/subscript/subscript/Type$Kind", "narrow", "(I)I"⟩ : MethodName)) (z := (⟨"com/example/subscript/subscript/Type$Kind", "narrow", "(I)I"⟩ : MethodName)) hown (mvT hZ (hw _ (List.mem_of_getElem? (i := 33) rfl))) (mvT hZ (hw _ (List.mem_of_getElem? (i := 34) rfl))) (notFace_of_selects (args := #[]) (mvT hZ (hw _ (List.mem_of_getElem? (i := 36) rfl)))) (mvT hZ (hw _ (List.mem_of_getElem? (i := 36) rfl))) (mvT hZ (hw _ (List.mem_of_getElem? (i := 35) rfl))) (by decide) (backOf (W := 0) (rm1 l Z a0 hw [] w_FLOAT p2 w_BYTE w_SHORT w_CHAR h29 n0 (Nat.le_trans Z0 Ex29.1) (S_BYTE.ext Ex29) (S_SHORT.ext Ex29) (S_CHAR.ext Ex29)) hZ (hw _ (List.mem_of_getElem? (i := 37) rfl)) (hw _ (List.mem_of_getElem? (i := 3) rfl)) (by decide) (by decide)) q41a q41c (g := (mkF m 114 #[.val (.int p1), .val (.int p2), .val (.ref b1), .val (.int (5 : Int32)), .val (.ref w_FLOAT), .unset, .unset] [(.int p2), (.ref w_FLOAT)])) rfl (by rw [hml]; rfl) (Steps.refl _) (argsL := [(.int p2)]) (rest := []) (lenOf own_pd1 rfl) rfl (by show 2 * 0 + _ ≤ _; exact Nat.le_of_eq rfl) (hb hby at_114) (fun _ _ => ⟨rfl, e29, (by decide : 1 + 0 ≤ _), (by decide : 14 + 0 ≤ _)⟩)
    dsimp only [Pt.U, Pt.locs, Pt.cells, Pt.slots] at X41 l41 y41 z41 st41 hQ41
    subst l41 y41 z41
    obtain ⟨hv41, Nc41, e41⟩ := hQ41
    have N41 := Fr.app N29 Nc41
    obtain rfl : v41 = some (.int p2) := hv41.trans (congrArg (fun z => some (Value.int z)) ((if_neg ne_FLOAT_BYTE).trans ((if_neg ne_FLOAT_SHORT).trans (if_neg ne_FLOAT_CHAR))))
    refine own_by (f' := (mkF m 117 #[.val (.int p1), .val (.int p2), .val (.ref b1), .val (.int (5 : Int32)), .val (.ref w_FLOAT), .unset, .unset] [(.int p2)])) (fun t h => st41.trans h) ?_
    refine own_by (f' := (mkF m 119 #[.val (.int p1), .val (.int p2), .val (.ref b1), .val (.int (5 : Int32)), .val (.ref w_FLOAT), .val (.int p2), .unset] [])) (fun t h => XS.istore X41.here hx rfl (hb hby at_117) rfl (l' := #[.val (.int p1), .val (.int p2), .val (.ref b1), .val (.int (5 : Int32)), .val (.ref w_FLOAT), .val (.int p2), .unset]) rfl h) ?_
    refine own_by (f' := (mkF m 120 #[.val (.int p1), .val (.int p2), .val (.ref b1), .val (.int (5 : Int32)), .val (.ref w_FLOAT), .val (.int p2), .unset] [(.int (5 : Int32))])) (fun t h => XS.iloadN X41.here hx rfl (hb hby at_119) rfl h) ?_
    refine own_by (f' := (mkF m 141 #[.val (.int p1), .val (.int p2), .val (.ref b1), .val (.int (5 : Int32)), .val (.ref w_FLOAT), .val (.int p2), .unset] [])) (fun t h => XS.ifYes X41.here hx rfl (pc0 := 120) (pc' := 141) rfl (hb hby at_120) rfl (by decide) (by decide) (by decide) h) ?_
    refine own_by (f' := (mkF m 142 #[.val (.int p1), .val (.int p2), .val (.ref b1), .val (.int (5 : Int32)), .val (.ref w_FLOAT), .val (.int p2), .unset] [(.int (5 : Int32))])) (fun t h => XS.iloadN X41.here hx rfl (hb hby at_141) rfl h) ?_
    refine own_by (f' := (mkF m 143 #[.val (.int p1), .val (.int p2), .val (.ref b1), .val (.int (5 : Int32)), .val (.ref w_FLOAT), .val (.int p2), .unset] [(.int (1 : Int32)), (.int (5 : Int32))])) (fun t h => XS.iconst X41.here hx rfl (hb hby at_142) h) ?_
    refine own_by (f' := (mkF m 161 #[.val (.int p1), .val (.int p2), .val (.ref b1), .val (.int (5 : Int32)), .val (.ref w_FLOAT), .val (.int p2), .unset] [])) (fun t h => XS.icmpYes X41.here hx rfl (pc0 := 143) (pc' := 161) rfl (hb hby at_143) rfl (by decide) (by decide) (by decide) h) ?_
    refine own_by (f' := (mkF m 162 #[.val (.int p1), .val (.int p2), .val (.ref b1), .val (.int (5 : Int32)), .val (.ref w_FLOAT), .val (.int p2), .unset] [(.int (5 : Int32))])) (fun t h => XS.iloadN X41.here hx rfl (hb hby at_161) rfl h) ?_
    refine own_by (f' := (mkF m 163 #[.val (.int p1), .val (.int p2), .val (.ref b1), .val (.int (5 : Int32)), .val (.ref w_FLOAT), .val (.int p2), .unset] [(.int (2 : Int32)), (.int (5 : Int32))])) (fun t h => XS.iconst X41.here hx rfl (hb hby at_162) h) ?_
    refine own_by (f' := (mkF m 175 #[.val (.int p1), .val (.int p2), .val (.ref b1), .val (.int (5 : Int32)), .val (.ref w_FLOAT), .val (.int p2), .unset] [])) (fun t h => XS.icmpYes X41.here hx rfl (pc0 := 163) (pc' := 175) rfl (hb hby at_163) rfl (by decide) (by decide) (by decide) h) ?_
    refine own_by (f' := (mkF m 176 #[.val (.int p1), .val (.int p2), .val (.ref b1), .val (.int (5 : Int32)), .val (.ref w_FLOAT), .val (.int p2), .unset] [(.int p2)])) (fun t h => XS.iloadN X41.here hx rfl (hb hby at_175) rfl h) ?_
    refine own_by (f' := (mkF m 178 #[.val (.int p1), .val (.int p2), .val (.ref b1), .val (.int (5 : Int32)), .val (.ref w_FLOAT), .val (.int p2), .val (.int p2)] [])) (fun t h => XS.istore X41.here hx rfl (hb hby at_176) rfl (l' := #[.val (.int p1), .val (.int p2), .val (.ref b1), .val (.int (5 : Int32)), .val (.ref w_FLOAT), .val (.int p2), .val (.int p2)]) rfl h) ?_
    refine own_by (f' := (mkF m 180 #[.val (.int p1), .val (.int p2), .val (.ref b1), .val (.int (5 : Int32)), .val (.ref w_FLOAT), .val (.int p2), .val (.int p2)] [(.int p2)])) (fun t h => XS.iload X41.here hx rfl (hb hby at_178) rfl h) ?_
    refine own_by (f' := (mkF m 182 #[.val (.int p1), .val (.int p2), .val (.ref b1), .val (.int (5 : Int32)), .val (.ref w_FLOAT), .val (.int p2), .val (.int p2)] [(.int p2), (.int p2)])) (fun t h => XS.iload X41.here hx rfl (hb hby at_180) rfl h) ?_
    refine own_by (f' := (mkF m 185 #[.val (.int p1), .val (.int p2), .val (.ref b1), .val (.int (5 : Int32)), .val (.ref w_FLOAT), .val (.int p2), .val (.int p2)] [])) (fun t h => XS.icmpNo X41.here hx rfl (hb hby at_182) rfl (teq (rfl : p2 = p2)).2 h) ?_
    refine own_by (f' := (mkF m 186 #[.val (.int p1), .val (.int p2), .val (.ref b1), .val (.int (5 : Int32)), .val (.ref w_FLOAT), .val (.int p2), .val (.int p2)] [(.int (1 : Int32))])) (fun t h => XS.iconst X41.here hx rfl (hb hby at_185) h) ?_
    refine own_by (f' := (mkF m 190 #[.val (.int p1), .val (.int p2), .val (.ref b1), .val (.int (5 : Int32)), .val (.ref w_FLOAT), .val (.int p2), .val (.int p2)] [(.int (1 : Int32))])) (fun t h => XS.goto X41.here hx rfl (pc0 := 186) (pc' := 190) rfl (hb hby at_186) (by decide) (by decide) h) ?_
    obtain ⟨fs, hr, hrun, hended, hW, hsame⟩ := X41.leave (v := some (.int (1 : Int32))) (fun h => by rw [Bd.returns] at h; cases h)
    refine own_mk ⟨_, _, retN X41 hx (t := .boolean) Bd.returns (by simp) (hb hby at_190) hr, hrun, hended, _, _, rfl, ?_, ⟨_, rfl⟩, hW, hsame.mono (by decide) (by decide)⟩
    show Q0 n0 _ T41.heap _
    rw [e41]
    exact ⟨rfl, N41⟩
  · refine own_by (f' := (mkF m 107 #[.val (.int p1), .val (.int p2), .val (.ref b1), .val (.int (6 : Int32)), .unset, .unset, .unset] [(.ref b1)])) (fun t h => XS.aloadN X29.here hx rfl (hb hby at_106) rfl rfl h) ?_
    refine own_by (f' := (mkF m 108 #[.val (.int p1), .val (.int p2), .val (.ref b1), .val (.int (6 : Int32)), .unset, .unset, .unset] [(.int (6 : Int32)), (.ref b1)])) (fun t h => XS.iloadN X29.here hx rfl (hb hby at_107) rfl h) ?_
    obtain ⟨cl42, Ar42, q42, S42, P42, H42, G42⟩ := V29
    refine own_by (f' := (mkF m 109 #[.val (.int p1), .val (.int p2), .val (.ref b1), .val (.int (6 : Int32)), .unset, .unset, .unset] [(.ref w_DOUBLE)])) (fun t h => X29.aaload hx (j := (6 : Int32)) (v := (.ref w_DOUBLE)) (by rw [e29]; exact Ar42.1) (State.isArrayOf_alike hZ.alike Ar42.2.1) rfl Ar42.2.2 (by rw [S42]; decide) (Has.at H42 (by rw [S42]; decide) rfl) (g := (mkF m 108 #[.val (.int p1), .val (.int p2), .val (.ref b1), .val (.int (6 : Int32)), .unset, .unset, .unset] [(.int (6 : Int32)), (.ref b1)])) rfl rfl (hb hby at_108) t h) ?_
    refine own_by (f' := (mkF m 111 #[.val (.int p1), .val (.int p2), .val (.ref b1), .val (.int (6 : Int32)), .val (.ref w_DOUBLE), .unset, .unset] [])) (fun t h => XS.astore X29.here hx rfl (hb hby at_109) rfl rfl (l' := #[.val (.int p1), .val (.int p2), .val (.ref b1), .val (.int (6 : Int32)), .val (.ref w_DOUBLE), .unset, .unset]) rfl h) ?_
    refine own_by (f' := (mkF m 113 #[.val (.int p1), .val (.int p2), .val (.ref b1), .val (.int (6 : Int32)), .val (.ref w_DOUBLE), .unset, .unset] [(.ref w_DOUBLE)])) (fun t h => XS.aload X29.here hx rfl (hb hby at_111) rfl rfl h) ?_
    refine own_by (f' := (mkF m 114 #[.val (.int p1), .val (.int p2), .val (.ref b1), .val (.int (6 : Int32)), .val (.ref w_DOUBLE), .unset, .unset] [(.int p2), (.ref w_DOUBLE)])) (fun t h => XS.iloadN X29.here hx rfl (hb hby at_113) rfl h) ?_
    obtain ⟨cq43, kq43, q43a, q43b, q43c⟩ := isOf hZ e29 (E_DOUBLE.ext Ex29)
    obtain ⟨v43, _, ⟨T43, L43, k43, n43⟩, -, X43, ⟨Lc43, hQ43, l43, y43, z43⟩, st43⟩ := X29.virtualBack hx (y := (⟨"com/example/subscript/subscript/Type$Kind", "narrow", "(I)I"⟩ : MethodName)) (z := (⟨"com/example/subscript/subscript/Type$Kind", "narrow", "(I)I"⟩ : MethodName)) hown (mvT hZ (hw _ (List.mem_of_getElem? (i := 33) rfl))) (mvT hZ (hw _ (List.mem_of_getElem? (i := 34) rfl))) (notFace_of_selects (args := #[]) (mvT hZ (hw _ (List.mem_of_getElem? (i := 36) rfl)))) (mvT hZ (hw _ (List.mem_of_getElem? (i := 36) rfl))) (mvT hZ (hw _ (List.mem_of_getElem? (i := 35) rfl))) (by decide) (backOf (W := 0) (rm1 l Z a0 hw [] w_DOUBLE p2 w_BYTE w_SHORT w_CHAR h29 n0 (Nat.le_trans Z0 Ex29.1) (S_BYTE.ext Ex29) (S_SHORT.ext Ex29) (S_CHAR.ext Ex29)) hZ (hw _ (List.mem_of_getElem? (i := 37) rfl)) (hw _ (List.mem_of_getElem? (i := 3) rfl)) (by decide) (by decide)) q43a q43c (g := (mkF m 114 #[.val (.int p1), .val (.int p2), .val (.ref b1), .val (.int (6 : Int32)), .val (.ref w_DOUBLE), .unset, .unset] [(.int p2), (.ref w_DOUBLE)])) rfl (by rw [hml]; rfl) (Steps.refl _) (argsL := [(.int p2)]) (rest := []) (lenOf own_pd1 rfl) rfl (by show 2 * 0 + _ ≤ _; exact Nat.le_of_eq rfl) (hb hby at_114) (fun _ _ => ⟨rfl, e29, (by decide : 1 + 0 ≤ _), (by decide : 14 + 0 ≤ _)⟩)
    dsimp only [Pt.U, Pt.locs, Pt.cells, Pt.slots] at X43 l43 y43 z43 st43 hQ43
    subst l43 y43 z43
    obtain ⟨hv43, Nc43, e43⟩ := hQ43
    have N43 := Fr.app N29 Nc43
    obtain rfl : v43 = some (.int p2) := hv43.trans (congrArg (fun z => some (Value.int z)) ((if_neg ne_DOUBLE_BYTE).trans ((if_neg ne_DOUBLE_SHORT).trans (if_neg ne_DOUBLE_CHAR))))
    refine own_by (f' := (mkF m 117 #[.val (.int p1), .val (.int p2), .val (.ref b1), .val (.int (6 : Int32)), .val (.ref w_DOUBLE), .unset, .unset] [(.int p2)])) (fun t h => st43.trans h) ?_
    refine own_by (f' := (mkF m 119 #[.val (.int p1), .val (.int p2), .val (.ref b1), .val (.int (6 : Int32)), .val (.ref w_DOUBLE), .val (.int p2), .unset] [])) (fun t h => XS.istore X43.here hx rfl (hb hby at_117) rfl (l' := #[.val (.int p1), .val (.int p2), .val (.ref b1), .val (.int (6 : Int32)), .val (.ref w_DOUBLE), .val (.int p2), .unset]) rfl h) ?_
    refine own_by (f' := (mkF m 120 #[.val (.int p1), .val (.int p2), .val (.ref b1), .val (.int (6 : Int32)), .val (.ref w_DOUBLE), .val (.int p2), .unset] [(.int (6 : Int32))])) (fun t h => XS.iloadN X43.here hx rfl (hb hby at_119) rfl h) ?_
    refine own_by (f' := (mkF m 141 #[.val (.int p1), .val (.int p2), .val (.ref b1), .val (.int (6 : Int32)), .val (.ref w_DOUBLE), .val (.int p2), .unset] [])) (fun t h => XS.ifYes X43.here hx rfl (pc0 := 120) (pc' := 141) rfl (hb hby at_120) rfl (by decide) (by decide) (by decide) h) ?_
    refine own_by (f' := (mkF m 142 #[.val (.int p1), .val (.int p2), .val (.ref b1), .val (.int (6 : Int32)), .val (.ref w_DOUBLE), .val (.int p2), .unset] [(.int (6 : Int32))])) (fun t h => XS.iloadN X43.here hx rfl (hb hby at_141) rfl h) ?_
    refine own_by (f' := (mkF m 143 #[.val (.int p1), .val (.int p2), .val (.ref b1), .val (.int (6 : Int32)), .val (.ref w_DOUBLE), .val (.int p2), .unset] [(.int (1 : Int32)), (.int (6 : Int32))])) (fun t h => XS.iconst X43.here hx rfl (hb hby at_142) h) ?_
    refine own_by (f' := (mkF m 161 #[.val (.int p1), .val (.int p2), .val (.ref b1), .val (.int (6 : Int32)), .val (.ref w_DOUBLE), .val (.int p2), .unset] [])) (fun t h => XS.icmpYes X43.here hx rfl (pc0 := 143) (pc' := 161) rfl (hb hby at_143) rfl (by decide) (by decide) (by decide) h) ?_
    refine own_by (f' := (mkF m 162 #[.val (.int p1), .val (.int p2), .val (.ref b1), .val (.int (6 : Int32)), .val (.ref w_DOUBLE), .val (.int p2), .unset] [(.int (6 : Int32))])) (fun t h => XS.iloadN X43.here hx rfl (hb hby at_161) rfl h) ?_
    refine own_by (f' := (mkF m 163 #[.val (.int p1), .val (.int p2), .val (.ref b1), .val (.int (6 : Int32)), .val (.ref w_DOUBLE), .val (.int p2), .unset] [(.int (2 : Int32)), (.int (6 : Int32))])) (fun t h => XS.iconst X43.here hx rfl (hb hby at_162) h) ?_
    refine own_by (f' := (mkF m 175 #[.val (.int p1), .val (.int p2), .val (.ref b1), .val (.int (6 : Int32)), .val (.ref w_DOUBLE), .val (.int p2), .unset] [])) (fun t h => XS.icmpYes X43.here hx rfl (pc0 := 163) (pc' := 175) rfl (hb hby at_163) rfl (by decide) (by decide) (by decide) h) ?_
    refine own_by (f' := (mkF m 176 #[.val (.int p1), .val (.int p2), .val (.ref b1), .val (.int (6 : Int32)), .val (.ref w_DOUBLE), .val (.int p2), .unset] [(.int p2)])) (fun t h => XS.iloadN X43.here hx rfl (hb hby at_175) rfl h) ?_
    refine own_by (f' := (mkF m 178 #[.val (.int p1), .val (.int p2), .val (.ref b1), .val (.int (6 : Int32)), .val (.ref w_DOUBLE), .val (.int p2), .val (.int p2)] [])) (fun t h => XS.istore X43.here hx rfl (hb hby at_176) rfl (l' := #[.val (.int p1), .val (.int p2), .val (.ref b1), .val (.int (6 : Int32)), .val (.ref w_DOUBLE), .val (.int p2), .val (.int p2)]) rfl h) ?_
    refine own_by (f' := (mkF m 180 #[.val (.int p1), .val (.int p2), .val (.ref b1), .val (.int (6 : Int32)), .val (.ref w_DOUBLE), .val (.int p2), .val (.int p2)] [(.int p2)])) (fun t h => XS.iload X43.here hx rfl (hb hby at_178) rfl h) ?_
    refine own_by (f' := (mkF m 182 #[.val (.int p1), .val (.int p2), .val (.ref b1), .val (.int (6 : Int32)), .val (.ref w_DOUBLE), .val (.int p2), .val (.int p2)] [(.int p2), (.int p2)])) (fun t h => XS.iload X43.here hx rfl (hb hby at_180) rfl h) ?_
    refine own_by (f' := (mkF m 185 #[.val (.int p1), .val (.int p2), .val (.ref b1), .val (.int (6 : Int32)), .val (.ref w_DOUBLE), .val (.int p2), .val (.int p2)] [])) (fun t h => XS.icmpNo X43.here hx rfl (hb hby at_182) rfl (teq (rfl : p2 = p2)).2 h) ?_
    refine own_by (f' := (mkF m 186 #[.val (.int p1), .val (.int p2), .val (.ref b1), .val (.int (6 : Int32)), .val (.ref w_DOUBLE), .val (.int p2), .val (.int p2)] [(.int (1 : Int32))])) (fun t h => XS.iconst X43.here hx rfl (hb hby at_185) h) ?_
    refine own_by (f' := (mkF m 190 #[.val (.int p1), .val (.int p2), .val (.ref b1), .val (.int (6 : Int32)), .val (.ref w_DOUBLE), .val (.int p2), .val (.int p2)] [(.int (1 : Int32))])) (fun t h => XS.goto X43.here hx rfl (pc0 := 186) (pc' := 190) rfl (hb hby at_186) (by decide) (by decide) h) ?_
    obtain ⟨fs, hr, hrun, hended, hW, hsame⟩ := X43.leave (v := some (.int (1 : Int32))) (fun h => by rw [Bd.returns] at h; cases h)
    refine own_mk ⟨_, _, retN X43 hx (t := .boolean) Bd.returns (by simp) (hb hby at_190) hr, hrun, hended, _, _, rfl, ?_, ⟨_, rfl⟩, hW, hsame.mono (by decide) (by decide)⟩
    show Q0 n0 _ T43.heap _
    rw [e43]
    exact ⟨rfl, N43⟩
  · refine own_by (f' := (mkF m 107 #[.val (.int p1), .val (.int p2), .val (.ref b1), .val (.int (7 : Int32)), .unset, .unset, .unset] [(.ref b1)])) (fun t h => XS.aloadN X29.here hx rfl (hb hby at_106) rfl rfl h) ?_
    refine own_by (f' := (mkF m 108 #[.val (.int p1), .val (.int p2), .val (.ref b1), .val (.int (7 : Int32)), .unset, .unset, .unset] [(.int (7 : Int32)), (.ref b1)])) (fun t h => XS.iloadN X29.here hx rfl (hb hby at_107) rfl h) ?_
    obtain ⟨cl44, Ar44, q44, S44, P44, H44, G44⟩ := V29
    refine own_by (f' := (mkF m 109 #[.val (.int p1), .val (.int p2), .val (.ref b1), .val (.int (7 : Int32)), .unset, .unset, .unset] [(.ref w_BOOLEAN)])) (fun t h => X29.aaload hx (j := (7 : Int32)) (v := (.ref w_BOOLEAN)) (by rw [e29]; exact Ar44.1) (State.isArrayOf_alike hZ.alike Ar44.2.1) rfl Ar44.2.2 (by rw [S44]; decide) (Has.at H44 (by rw [S44]; decide) rfl) (g := (mkF m 108 #[.val (.int p1), .val (.int p2), .val (.ref b1), .val (.int (7 : Int32)), .unset, .unset, .unset] [(.int (7 : Int32)), (.ref b1)])) rfl rfl (hb hby at_108) t h) ?_
    refine own_by (f' := (mkF m 111 #[.val (.int p1), .val (.int p2), .val (.ref b1), .val (.int (7 : Int32)), .val (.ref w_BOOLEAN), .unset, .unset] [])) (fun t h => XS.astore X29.here hx rfl (hb hby at_109) rfl rfl (l' := #[.val (.int p1), .val (.int p2), .val (.ref b1), .val (.int (7 : Int32)), .val (.ref w_BOOLEAN), .unset, .unset]) rfl h) ?_
    refine own_by (f' := (mkF m 113 #[.val (.int p1), .val (.int p2), .val (.ref b1), .val (.int (7 : Int32)), .val (.ref w_BOOLEAN), .unset, .unset] [(.ref w_BOOLEAN)])) (fun t h => XS.aload X29.here hx rfl (hb hby at_111) rfl rfl h) ?_
    refine own_by (f' := (mkF m 114 #[.val (.int p1), .val (.int p2), .val (.ref b1), .val (.int (7 : Int32)), .val (.ref w_BOOLEAN), .unset, .unset] [(.int p2), (.ref w_BOOLEAN)])) (fun t h => XS.iloadN X29.here hx rfl (hb hby at_113) rfl h) ?_
    obtain ⟨cq45, kq45, q45a, q45b, q45c⟩ := isOf hZ e29 (E_BOOLEAN.ext Ex29)
    obtain ⟨v45, _, ⟨T45, L45, k45, n45⟩, -, X45, ⟨Lc45, hQ45, l45, y45, z45⟩, st45⟩ := X29.virtualBack hx (y := (⟨"com/example/subscript/subscript/Type$Kind", "narrow", "(I)I"⟩ : MethodName)) (z := (⟨"com/example/subscript/subscript/Type$Kind", "narrow", "(I)I"⟩ : MethodName)) hown (mvT hZ (hw _ (List.mem_of_getElem? (i := 33) rfl))) (mvT hZ (hw _ (List.mem_of_getElem? (i := 34) rfl))) (notFace_of_selects (args := #[]) (mvT hZ (hw _ (List.mem_of_getElem? (i := 36) rfl)))) (mvT hZ (hw _ (List.mem_of_getElem? (i := 36) rfl))) (mvT hZ (hw _ (List.mem_of_getElem? (i := 35) rfl))) (by decide) (backOf (W := 0) (rm1 l Z a0 hw [] w_BOOLEAN p2 w_BYTE w_SHORT w_CHAR h29 n0 (Nat.le_trans Z0 Ex29.1) (S_BYTE.ext Ex29) (S_SHORT.ext Ex29) (S_CHAR.ext Ex29)) hZ (hw _ (List.mem_of_getElem? (i := 37) rfl)) (hw _ (List.mem_of_getElem? (i := 3) rfl)) (by decide) (by decide)) q45a q45c (g := (mkF m 114 #[.val (.int p1), .val (.int p2), .val (.ref b1), .val (.int (7 : Int32)), .val (.ref w_BOOLEAN), .unset, .unset] [(.int p2), (.ref w_BOOLEAN)])) rfl (by rw [hml]; rfl) (Steps.refl _) (argsL := [(.int p2)]) (rest := []) (lenOf own_pd1 rfl) rfl (by show 2 * 0 + _ ≤ _; exact Nat.le_of_eq rfl) (hb hby at_114) (fun _ _ => ⟨rfl, e29, (by decide : 1 + 0 ≤ _), (by decide : 14 + 0 ≤ _)⟩)
    dsimp only [Pt.U, Pt.locs, Pt.cells, Pt.slots] at X45 l45 y45 z45 st45 hQ45
    subst l45 y45 z45
    obtain ⟨hv45, Nc45, e45⟩ := hQ45
    have N45 := Fr.app N29 Nc45
    obtain rfl : v45 = some (.int p2) := hv45.trans (congrArg (fun z => some (Value.int z)) ((if_neg ne_BOOLEAN_BYTE).trans ((if_neg ne_BOOLEAN_SHORT).trans (if_neg ne_BOOLEAN_CHAR))))
    refine own_by (f' := (mkF m 117 #[.val (.int p1), .val (.int p2), .val (.ref b1), .val (.int (7 : Int32)), .val (.ref w_BOOLEAN), .unset, .unset] [(.int p2)])) (fun t h => st45.trans h) ?_
    refine own_by (f' := (mkF m 119 #[.val (.int p1), .val (.int p2), .val (.ref b1), .val (.int (7 : Int32)), .val (.ref w_BOOLEAN), .val (.int p2), .unset] [])) (fun t h => XS.istore X45.here hx rfl (hb hby at_117) rfl (l' := #[.val (.int p1), .val (.int p2), .val (.ref b1), .val (.int (7 : Int32)), .val (.ref w_BOOLEAN), .val (.int p2), .unset]) rfl h) ?_
    refine own_by (f' := (mkF m 120 #[.val (.int p1), .val (.int p2), .val (.ref b1), .val (.int (7 : Int32)), .val (.ref w_BOOLEAN), .val (.int p2), .unset] [(.int (7 : Int32))])) (fun t h => XS.iloadN X45.here hx rfl (hb hby at_119) rfl h) ?_
    refine own_by (f' := (mkF m 141 #[.val (.int p1), .val (.int p2), .val (.ref b1), .val (.int (7 : Int32)), .val (.ref w_BOOLEAN), .val (.int p2), .unset] [])) (fun t h => XS.ifYes X45.here hx rfl (pc0 := 120) (pc' := 141) rfl (hb hby at_120) rfl (by decide) (by decide) (by decide) h) ?_
    refine own_by (f' := (mkF m 142 #[.val (.int p1), .val (.int p2), .val (.ref b1), .val (.int (7 : Int32)), .val (.ref w_BOOLEAN), .val (.int p2), .unset] [(.int (7 : Int32))])) (fun t h => XS.iloadN X45.here hx rfl (hb hby at_141) rfl h) ?_
    refine own_by (f' := (mkF m 143 #[.val (.int p1), .val (.int p2), .val (.ref b1), .val (.int (7 : Int32)), .val (.ref w_BOOLEAN), .val (.int p2), .unset] [(.int (1 : Int32)), (.int (7 : Int32))])) (fun t h => XS.iconst X45.here hx rfl (hb hby at_142) h) ?_
    refine own_by (f' := (mkF m 161 #[.val (.int p1), .val (.int p2), .val (.ref b1), .val (.int (7 : Int32)), .val (.ref w_BOOLEAN), .val (.int p2), .unset] [])) (fun t h => XS.icmpYes X45.here hx rfl (pc0 := 143) (pc' := 161) rfl (hb hby at_143) rfl (by decide) (by decide) (by decide) h) ?_
    refine own_by (f' := (mkF m 162 #[.val (.int p1), .val (.int p2), .val (.ref b1), .val (.int (7 : Int32)), .val (.ref w_BOOLEAN), .val (.int p2), .unset] [(.int (7 : Int32))])) (fun t h => XS.iloadN X45.here hx rfl (hb hby at_161) rfl h) ?_
    refine own_by (f' := (mkF m 163 #[.val (.int p1), .val (.int p2), .val (.ref b1), .val (.int (7 : Int32)), .val (.ref w_BOOLEAN), .val (.int p2), .unset] [(.int (2 : Int32)), (.int (7 : Int32))])) (fun t h => XS.iconst X45.here hx rfl (hb hby at_162) h) ?_
    refine own_by (f' := (mkF m 175 #[.val (.int p1), .val (.int p2), .val (.ref b1), .val (.int (7 : Int32)), .val (.ref w_BOOLEAN), .val (.int p2), .unset] [])) (fun t h => XS.icmpYes X45.here hx rfl (pc0 := 163) (pc' := 175) rfl (hb hby at_163) rfl (by decide) (by decide) (by decide) h) ?_
    refine own_by (f' := (mkF m 176 #[.val (.int p1), .val (.int p2), .val (.ref b1), .val (.int (7 : Int32)), .val (.ref w_BOOLEAN), .val (.int p2), .unset] [(.int p2)])) (fun t h => XS.iloadN X45.here hx rfl (hb hby at_175) rfl h) ?_
    refine own_by (f' := (mkF m 178 #[.val (.int p1), .val (.int p2), .val (.ref b1), .val (.int (7 : Int32)), .val (.ref w_BOOLEAN), .val (.int p2), .val (.int p2)] [])) (fun t h => XS.istore X45.here hx rfl (hb hby at_176) rfl (l' := #[.val (.int p1), .val (.int p2), .val (.ref b1), .val (.int (7 : Int32)), .val (.ref w_BOOLEAN), .val (.int p2), .val (.int p2)]) rfl h) ?_
    refine own_by (f' := (mkF m 180 #[.val (.int p1), .val (.int p2), .val (.ref b1), .val (.int (7 : Int32)), .val (.ref w_BOOLEAN), .val (.int p2), .val (.int p2)] [(.int p2)])) (fun t h => XS.iload X45.here hx rfl (hb hby at_178) rfl h) ?_
    refine own_by (f' := (mkF m 182 #[.val (.int p1), .val (.int p2), .val (.ref b1), .val (.int (7 : Int32)), .val (.ref w_BOOLEAN), .val (.int p2), .val (.int p2)] [(.int p2), (.int p2)])) (fun t h => XS.iload X45.here hx rfl (hb hby at_180) rfl h) ?_
    refine own_by (f' := (mkF m 185 #[.val (.int p1), .val (.int p2), .val (.ref b1), .val (.int (7 : Int32)), .val (.ref w_BOOLEAN), .val (.int p2), .val (.int p2)] [])) (fun t h => XS.icmpNo X45.here hx rfl (hb hby at_182) rfl (teq (rfl : p2 = p2)).2 h) ?_
    refine own_by (f' := (mkF m 186 #[.val (.int p1), .val (.int p2), .val (.ref b1), .val (.int (7 : Int32)), .val (.ref w_BOOLEAN), .val (.int p2), .val (.int p2)] [(.int (1 : Int32))])) (fun t h => XS.iconst X45.here hx rfl (hb hby at_185) h) ?_
    refine own_by (f' := (mkF m 190 #[.val (.int p1), .val (.int p2), .val (.ref b1), .val (.int (7 : Int32)), .val (.ref w_BOOLEAN), .val (.int p2), .val (.int p2)] [(.int (1 : Int32))])) (fun t h => XS.goto X45.here hx rfl (pc0 := 186) (pc' := 190) rfl (hb hby at_186) (by decide) (by decide) h) ?_
    obtain ⟨fs, hr, hrun, hended, hW, hsame⟩ := X45.leave (v := some (.int (1 : Int32))) (fun h => by rw [Bd.returns] at h; cases h)
    refine own_mk ⟨_, _, retN X45 hx (t := .boolean) Bd.returns (by simp) (hb hby at_190) hr, hrun, hended, _, _, rfl, ?_, ⟨_, rfl⟩, hW, hsame.mono (by decide) (by decide)⟩
    show Q0 n0 _ T45.heap _
    rw [e45]
    exact ⟨rfl, N45⟩
  · refine own_by (f' := (mkF m 107 #[.val (.int p1), .val (.int p2), .val (.ref b1), .val (.int (8 : Int32)), .unset, .unset, .unset] [(.ref b1)])) (fun t h => XS.aloadN X29.here hx rfl (hb hby at_106) rfl rfl h) ?_
    refine own_by (f' := (mkF m 108 #[.val (.int p1), .val (.int p2), .val (.ref b1), .val (.int (8 : Int32)), .unset, .unset, .unset] [(.int (8 : Int32)), (.ref b1)])) (fun t h => XS.iloadN X29.here hx rfl (hb hby at_107) rfl h) ?_
    obtain ⟨cl46, Ar46, q46, S46, P46, H46, G46⟩ := V29
    refine own_by (f' := (mkF m 109 #[.val (.int p1), .val (.int p2), .val (.ref b1), .val (.int (8 : Int32)), .unset, .unset, .unset] [(.ref w_VOID)])) (fun t h => X29.aaload hx (j := (8 : Int32)) (v := (.ref w_VOID)) (by rw [e29]; exact Ar46.1) (State.isArrayOf_alike hZ.alike Ar46.2.1) rfl Ar46.2.2 (by rw [S46]; decide) (Has.at H46 (by rw [S46]; decide) rfl) (g := (mkF m 108 #[.val (.int p1), .val (.int p2), .val (.ref b1), .val (.int (8 : Int32)), .unset, .unset, .unset] [(.int (8 : Int32)), (.ref b1)])) rfl rfl (hb hby at_108) t h) ?_
    refine own_by (f' := (mkF m 111 #[.val (.int p1), .val (.int p2), .val (.ref b1), .val (.int (8 : Int32)), .val (.ref w_VOID), .unset, .unset] [])) (fun t h => XS.astore X29.here hx rfl (hb hby at_109) rfl rfl (l' := #[.val (.int p1), .val (.int p2), .val (.ref b1), .val (.int (8 : Int32)), .val (.ref w_VOID), .unset, .unset]) rfl h) ?_
    refine own_by (f' := (mkF m 113 #[.val (.int p1), .val (.int p2), .val (.ref b1), .val (.int (8 : Int32)), .val (.ref w_VOID), .unset, .unset] [(.ref w_VOID)])) (fun t h => XS.aload X29.here hx rfl (hb hby at_111) rfl rfl h) ?_
    refine own_by (f' := (mkF m 114 #[.val (.int p1), .val (.int p2), .val (.ref b1), .val (.int (8 : Int32)), .val (.ref w_VOID), .unset, .unset] [(.int p2), (.ref w_VOID)])) (fun t h => XS.iloadN X29.here hx rfl (hb hby at_113) rfl h) ?_
    obtain ⟨cq47, kq47, q47a, q47b, q47c⟩ := isOf hZ e29 (E_VOID.ext Ex29)
    obtain ⟨v47, _, ⟨T47, L47, k47, n47⟩, -, X47, ⟨Lc47, hQ47, l47, y47, z47⟩, st47⟩ := X29.virtualBack hx (y := (⟨"com/example/subscript/subscript/Type$Kind", "narrow", "(I)I"⟩ : MethodName)) (z := (⟨"com/example/subscript/subscript/Type$Kind", "narrow", "(I)I"⟩ : MethodName)) hown (mvT hZ (hw _ (List.mem_of_getElem? (i := 33) rfl))) (mvT hZ (hw _ (List.mem_of_getElem? (i := 34) rfl))) (notFace_of_selects (args := #[]) (mvT hZ (hw _ (List.mem_of_getElem? (i := 36) rfl)))) (mvT hZ (hw _ (List.mem_of_getElem? (i := 36) rfl))) (mvT hZ (hw _ (List.mem_of_getElem? (i := 35) rfl))) (by decide) (backOf (W := 0) (rm1 l Z a0 hw [] w_VOID p2 w_BYTE w_SHORT w_CHAR h29 n0 (Nat.le_trans Z0 Ex29.1) (S_BYTE.ext Ex29) (S_SHORT.ext Ex29) (S_CHAR.ext Ex29)) hZ (hw _ (List.mem_of_getElem? (i := 37) rfl)) (hw _ (List.mem_of_getElem? (i := 3) rfl)) (by decide) (by decide)) q47a q47c (g := (mkF m 114 #[.val (.int p1), .val (.int p2), .val (.ref b1), .val (.int (8 : Int32)), .val (.ref w_VOID), .unset, .unset] [(.int p2), (.ref w_VOID)])) rfl (by rw [hml]; rfl) (Steps.refl _) (argsL := [(.int p2)]) (rest := []) (lenOf own_pd1 rfl) rfl (by show 2 * 0 + _ ≤ _; exact Nat.le_of_eq rfl) (hb hby at_114) (fun _ _ => ⟨rfl, e29, (by decide : 1 + 0 ≤ _), (by decide : 14 + 0 ≤ _)⟩)
    dsimp only [Pt.U, Pt.locs, Pt.cells, Pt.slots] at X47 l47 y47 z47 st47 hQ47
    subst l47 y47 z47
    obtain ⟨hv47, Nc47, e47⟩ := hQ47
    have N47 := Fr.app N29 Nc47
    obtain rfl : v47 = some (.int p2) := hv47.trans (congrArg (fun z => some (Value.int z)) ((if_neg ne_VOID_BYTE).trans ((if_neg ne_VOID_SHORT).trans (if_neg ne_VOID_CHAR))))
    refine own_by (f' := (mkF m 117 #[.val (.int p1), .val (.int p2), .val (.ref b1), .val (.int (8 : Int32)), .val (.ref w_VOID), .unset, .unset] [(.int p2)])) (fun t h => st47.trans h) ?_
    refine own_by (f' := (mkF m 119 #[.val (.int p1), .val (.int p2), .val (.ref b1), .val (.int (8 : Int32)), .val (.ref w_VOID), .val (.int p2), .unset] [])) (fun t h => XS.istore X47.here hx rfl (hb hby at_117) rfl (l' := #[.val (.int p1), .val (.int p2), .val (.ref b1), .val (.int (8 : Int32)), .val (.ref w_VOID), .val (.int p2), .unset]) rfl h) ?_
    refine own_by (f' := (mkF m 120 #[.val (.int p1), .val (.int p2), .val (.ref b1), .val (.int (8 : Int32)), .val (.ref w_VOID), .val (.int p2), .unset] [(.int (8 : Int32))])) (fun t h => XS.iloadN X47.here hx rfl (hb hby at_119) rfl h) ?_
    refine own_by (f' := (mkF m 141 #[.val (.int p1), .val (.int p2), .val (.ref b1), .val (.int (8 : Int32)), .val (.ref w_VOID), .val (.int p2), .unset] [])) (fun t h => XS.ifYes X47.here hx rfl (pc0 := 120) (pc' := 141) rfl (hb hby at_120) rfl (by decide) (by decide) (by decide) h) ?_
    refine own_by (f' := (mkF m 142 #[.val (.int p1), .val (.int p2), .val (.ref b1), .val (.int (8 : Int32)), .val (.ref w_VOID), .val (.int p2), .unset] [(.int (8 : Int32))])) (fun t h => XS.iloadN X47.here hx rfl (hb hby at_141) rfl h) ?_
    refine own_by (f' := (mkF m 143 #[.val (.int p1), .val (.int p2), .val (.ref b1), .val (.int (8 : Int32)), .val (.ref w_VOID), .val (.int p2), .unset] [(.int (1 : Int32)), (.int (8 : Int32))])) (fun t h => XS.iconst X47.here hx rfl (hb hby at_142) h) ?_
    refine own_by (f' := (mkF m 161 #[.val (.int p1), .val (.int p2), .val (.ref b1), .val (.int (8 : Int32)), .val (.ref w_VOID), .val (.int p2), .unset] [])) (fun t h => XS.icmpYes X47.here hx rfl (pc0 := 143) (pc' := 161) rfl (hb hby at_143) rfl (by decide) (by decide) (by decide) h) ?_
    refine own_by (f' := (mkF m 162 #[.val (.int p1), .val (.int p2), .val (.ref b1), .val (.int (8 : Int32)), .val (.ref w_VOID), .val (.int p2), .unset] [(.int (8 : Int32))])) (fun t h => XS.iloadN X47.here hx rfl (hb hby at_161) rfl h) ?_
    refine own_by (f' := (mkF m 163 #[.val (.int p1), .val (.int p2), .val (.ref b1), .val (.int (8 : Int32)), .val (.ref w_VOID), .val (.int p2), .unset] [(.int (2 : Int32)), (.int (8 : Int32))])) (fun t h => XS.iconst X47.here hx rfl (hb hby at_162) h) ?_
    refine own_by (f' := (mkF m 175 #[.val (.int p1), .val (.int p2), .val (.ref b1), .val (.int (8 : Int32)), .val (.ref w_VOID), .val (.int p2), .unset] [])) (fun t h => XS.icmpYes X47.here hx rfl (pc0 := 163) (pc' := 175) rfl (hb hby at_163) rfl (by decide) (by decide) (by decide) h) ?_
    refine own_by (f' := (mkF m 176 #[.val (.int p1), .val (.int p2), .val (.ref b1), .val (.int (8 : Int32)), .val (.ref w_VOID), .val (.int p2), .unset] [(.int p2)])) (fun t h => XS.iloadN X47.here hx rfl (hb hby at_175) rfl h) ?_
    refine own_by (f' := (mkF m 178 #[.val (.int p1), .val (.int p2), .val (.ref b1), .val (.int (8 : Int32)), .val (.ref w_VOID), .val (.int p2), .val (.int p2)] [])) (fun t h => XS.istore X47.here hx rfl (hb hby at_176) rfl (l' := #[.val (.int p1), .val (.int p2), .val (.ref b1), .val (.int (8 : Int32)), .val (.ref w_VOID), .val (.int p2), .val (.int p2)]) rfl h) ?_
    refine own_by (f' := (mkF m 180 #[.val (.int p1), .val (.int p2), .val (.ref b1), .val (.int (8 : Int32)), .val (.ref w_VOID), .val (.int p2), .val (.int p2)] [(.int p2)])) (fun t h => XS.iload X47.here hx rfl (hb hby at_178) rfl h) ?_
    refine own_by (f' := (mkF m 182 #[.val (.int p1), .val (.int p2), .val (.ref b1), .val (.int (8 : Int32)), .val (.ref w_VOID), .val (.int p2), .val (.int p2)] [(.int p2), (.int p2)])) (fun t h => XS.iload X47.here hx rfl (hb hby at_180) rfl h) ?_
    refine own_by (f' := (mkF m 185 #[.val (.int p1), .val (.int p2), .val (.ref b1), .val (.int (8 : Int32)), .val (.ref w_VOID), .val (.int p2), .val (.int p2)] [])) (fun t h => XS.icmpNo X47.here hx rfl (hb hby at_182) rfl (teq (rfl : p2 = p2)).2 h) ?_
    refine own_by (f' := (mkF m 186 #[.val (.int p1), .val (.int p2), .val (.ref b1), .val (.int (8 : Int32)), .val (.ref w_VOID), .val (.int p2), .val (.int p2)] [(.int (1 : Int32))])) (fun t h => XS.iconst X47.here hx rfl (hb hby at_185) h) ?_
    refine own_by (f' := (mkF m 190 #[.val (.int p1), .val (.int p2), .val (.ref b1), .val (.int (8 : Int32)), .val (.ref w_VOID), .val (.int p2), .val (.int p2)] [(.int (1 : Int32))])) (fun t h => XS.goto X47.here hx rfl (pc0 := 186) (pc' := 190) rfl (hb hby at_186) (by decide) (by decide) h) ?_
    obtain ⟨fs, hr, hrun, hended, hW, hsame⟩ := X47.leave (v := some (.int (1 : Int32))) (fun h => by rw [Bd.returns] at h; cases h)
    refine own_mk ⟨_, _, retN X47 hx (t := .boolean) Bd.returns (by simp) (hb hby at_190) hr, hrun, hended, _, _, rfl, ?_, ⟨_, rfl⟩, hW, hsame.mono (by decide) (by decide)⟩
    show Q0 n0 _ T47.heap _
    rw [e47]
    exact ⟨rfl, N47⟩
  · refine own_by (f' := (mkF m 107 #[.val (.int p1), .val (.int p2), .val (.ref b1), .val (.int (9 : Int32)), .unset, .unset, .unset] [(.ref b1)])) (fun t h => XS.aloadN X29.here hx rfl (hb hby at_106) rfl rfl h) ?_
    refine own_by (f' := (mkF m 108 #[.val (.int p1), .val (.int p2), .val (.ref b1), .val (.int (9 : Int32)), .unset, .unset, .unset] [(.int (9 : Int32)), (.ref b1)])) (fun t h => XS.iloadN X29.here hx rfl (hb hby at_107) rfl h) ?_
    obtain ⟨cl48, Ar48, q48, S48, P48, H48, G48⟩ := V29
    refine own_by (f' := (mkF m 109 #[.val (.int p1), .val (.int p2), .val (.ref b1), .val (.int (9 : Int32)), .unset, .unset, .unset] [(.ref w_CLASS)])) (fun t h => X29.aaload hx (j := (9 : Int32)) (v := (.ref w_CLASS)) (by rw [e29]; exact Ar48.1) (State.isArrayOf_alike hZ.alike Ar48.2.1) rfl Ar48.2.2 (by rw [S48]; decide) (Has.at H48 (by rw [S48]; decide) rfl) (g := (mkF m 108 #[.val (.int p1), .val (.int p2), .val (.ref b1), .val (.int (9 : Int32)), .unset, .unset, .unset] [(.int (9 : Int32)), (.ref b1)])) rfl rfl (hb hby at_108) t h) ?_
    refine own_by (f' := (mkF m 111 #[.val (.int p1), .val (.int p2), .val (.ref b1), .val (.int (9 : Int32)), .val (.ref w_CLASS), .unset, .unset] [])) (fun t h => XS.astore X29.here hx rfl (hb hby at_109) rfl rfl (l' := #[.val (.int p1), .val (.int p2), .val (.ref b1), .val (.int (9 : Int32)), .val (.ref w_CLASS), .unset, .unset]) rfl h) ?_
    refine own_by (f' := (mkF m 113 #[.val (.int p1), .val (.int p2), .val (.ref b1), .val (.int (9 : Int32)), .val (.ref w_CLASS), .unset, .unset] [(.ref w_CLASS)])) (fun t h => XS.aload X29.here hx rfl (hb hby at_111) rfl rfl h) ?_
    refine own_by (f' := (mkF m 114 #[.val (.int p1), .val (.int p2), .val (.ref b1), .val (.int (9 : Int32)), .val (.ref w_CLASS), .unset, .unset] [(.int p2), (.ref w_CLASS)])) (fun t h => XS.iloadN X29.here hx rfl (hb hby at_113) rfl h) ?_
    obtain ⟨cq49, kq49, q49a, q49b, q49c⟩ := isOf hZ e29 (E_CLASS.ext Ex29)
    obtain ⟨v49, _, ⟨T49, L49, k49, n49⟩, -, X49, ⟨Lc49, hQ49, l49, y49, z49⟩, st49⟩ := X29.virtualBack hx (y := (⟨"com/example/subscript/subscript/Type$Kind", "narrow", "(I)I"⟩ : MethodName)) (z := (⟨"com/example/subscript/subscript/Type$Kind", "narrow", "(I)I"⟩ : MethodName)) hown (mvT hZ (hw _ (List.mem_of_getElem? (i := 33) rfl))) (mvT hZ (hw _ (List.mem_of_getElem? (i := 34) rfl))) (notFace_of_selects (args := #[]) (mvT hZ (hw _ (List.mem_of_getElem? (i := 36) rfl)))) (mvT hZ (hw _ (List.mem_of_getElem? (i := 36) rfl))) (mvT hZ (hw _ (List.mem_of_getElem? (i := 35) rfl))) (by decide) (backOf (W := 0) (rm1 l Z a0 hw [] w_CLASS p2 w_BYTE w_SHORT w_CHAR h29 n0 (Nat.le_trans Z0 Ex29.1) (S_BYTE.ext Ex29) (S_SHORT.ext Ex29) (S_CHAR.ext Ex29)) hZ (hw _ (List.mem_of_getElem? (i := 37) rfl)) (hw _ (List.mem_of_getElem? (i := 3) rfl)) (by decide) (by decide)) q49a q49c (g := (mkF m 114 #[.val (.int p1), .val (.int p2), .val (.ref b1), .val (.int (9 : Int32)), .val (.ref w_CLASS), .unset, .unset] [(.int p2), (.ref w_CLASS)])) rfl (by rw [hml]; rfl) (Steps.refl _) (argsL := [(.int p2)]) (rest := []) (lenOf own_pd1 rfl) rfl (by show 2 * 0 + _ ≤ _; exact Nat.le_of_eq rfl) (hb hby at_114) (fun _ _ => ⟨rfl, e29, (by decide : 1 + 0 ≤ _), (by decide : 14 + 0 ≤ _)⟩)
    dsimp only [Pt.U, Pt.locs, Pt.cells, Pt.slots] at X49 l49 y49 z49 st49 hQ49
    subst l49 y49 z49
    obtain ⟨hv49, Nc49, e49⟩ := hQ49
    have N49 := Fr.app N29 Nc49
    obtain rfl : v49 = some (.int p2) := hv49.trans (congrArg (fun z => some (Value.int z)) ((if_neg ne_CLASS_BYTE).trans ((if_neg ne_CLASS_SHORT).trans (if_neg ne_CLASS_CHAR))))
    refine own_by (f' := (mkF m 117 #[.val (.int p1), .val (.int p2), .val (.ref b1), .val (.int (9 : Int32)), .val (.ref w_CLASS), .unset, .unset] [(.int p2)])) (fun t h => st49.trans h) ?_
    refine own_by (f' := (mkF m 119 #[.val (.int p1), .val (.int p2), .val (.ref b1), .val (.int (9 : Int32)), .val (.ref w_CLASS), .val (.int p2), .unset] [])) (fun t h => XS.istore X49.here hx rfl (hb hby at_117) rfl (l' := #[.val (.int p1), .val (.int p2), .val (.ref b1), .val (.int (9 : Int32)), .val (.ref w_CLASS), .val (.int p2), .unset]) rfl h) ?_
    refine own_by (f' := (mkF m 120 #[.val (.int p1), .val (.int p2), .val (.ref b1), .val (.int (9 : Int32)), .val (.ref w_CLASS), .val (.int p2), .unset] [(.int (9 : Int32))])) (fun t h => XS.iloadN X49.here hx rfl (hb hby at_119) rfl h) ?_
    refine own_by (f' := (mkF m 141 #[.val (.int p1), .val (.int p2), .val (.ref b1), .val (.int (9 : Int32)), .val (.ref w_CLASS), .val (.int p2), .unset] [])) (fun t h => XS.ifYes X49.here hx rfl (pc0 := 120) (pc' := 141) rfl (hb hby at_120) rfl (by decide) (by decide) (by decide) h) ?_
    refine own_by (f' := (mkF m 142 #[.val (.int p1), .val (.int p2), .val (.ref b1), .val (.int (9 : Int32)), .val (.ref w_CLASS), .val (.int p2), .unset] [(.int (9 : Int32))])) (fun t h => XS.iloadN X49.here hx rfl (hb hby at_141) rfl h) ?_
    refine own_by (f' := (mkF m 143 #[.val (.int p1), .val (.int p2), .val (.ref b1), .val (.int (9 : Int32)), .val (.ref w_CLASS), .val (.int p2), .unset] [(.int (1 : Int32)), (.int (9 : Int32))])) (fun t h => XS.iconst X49.here hx rfl (hb hby at_142) h) ?_
    refine own_by (f' := (mkF m 161 #[.val (.int p1), .val (.int p2), .val (.ref b1), .val (.int (9 : Int32)), .val (.ref w_CLASS), .val (.int p2), .unset] [])) (fun t h => XS.icmpYes X49.here hx rfl (pc0 := 143) (pc' := 161) rfl (hb hby at_143) rfl (by decide) (by decide) (by decide) h) ?_
    refine own_by (f' := (mkF m 162 #[.val (.int p1), .val (.int p2), .val (.ref b1), .val (.int (9 : Int32)), .val (.ref w_CLASS), .val (.int p2), .unset] [(.int (9 : Int32))])) (fun t h => XS.iloadN X49.here hx rfl (hb hby at_161) rfl h) ?_
    refine own_by (f' := (mkF m 163 #[.val (.int p1), .val (.int p2), .val (.ref b1), .val (.int (9 : Int32)), .val (.ref w_CLASS), .val (.int p2), .unset] [(.int (2 : Int32)), (.int (9 : Int32))])) (fun t h => XS.iconst X49.here hx rfl (hb hby at_162) h) ?_
    refine own_by (f' := (mkF m 175 #[.val (.int p1), .val (.int p2), .val (.ref b1), .val (.int (9 : Int32)), .val (.ref w_CLASS), .val (.int p2), .unset] [])) (fun t h => XS.icmpYes X49.here hx rfl (pc0 := 163) (pc' := 175) rfl (hb hby at_163) rfl (by decide) (by decide) (by decide) h) ?_
    refine own_by (f' := (mkF m 176 #[.val (.int p1), .val (.int p2), .val (.ref b1), .val (.int (9 : Int32)), .val (.ref w_CLASS), .val (.int p2), .unset] [(.int p2)])) (fun t h => XS.iloadN X49.here hx rfl (hb hby at_175) rfl h) ?_
    refine own_by (f' := (mkF m 178 #[.val (.int p1), .val (.int p2), .val (.ref b1), .val (.int (9 : Int32)), .val (.ref w_CLASS), .val (.int p2), .val (.int p2)] [])) (fun t h => XS.istore X49.here hx rfl (hb hby at_176) rfl (l' := #[.val (.int p1), .val (.int p2), .val (.ref b1), .val (.int (9 : Int32)), .val (.ref w_CLASS), .val (.int p2), .val (.int p2)]) rfl h) ?_
    refine own_by (f' := (mkF m 180 #[.val (.int p1), .val (.int p2), .val (.ref b1), .val (.int (9 : Int32)), .val (.ref w_CLASS), .val (.int p2), .val (.int p2)] [(.int p2)])) (fun t h => XS.iload X49.here hx rfl (hb hby at_178) rfl h) ?_
    refine own_by (f' := (mkF m 182 #[.val (.int p1), .val (.int p2), .val (.ref b1), .val (.int (9 : Int32)), .val (.ref w_CLASS), .val (.int p2), .val (.int p2)] [(.int p2), (.int p2)])) (fun t h => XS.iload X49.here hx rfl (hb hby at_180) rfl h) ?_
    refine own_by (f' := (mkF m 185 #[.val (.int p1), .val (.int p2), .val (.ref b1), .val (.int (9 : Int32)), .val (.ref w_CLASS), .val (.int p2), .val (.int p2)] [])) (fun t h => XS.icmpNo X49.here hx rfl (hb hby at_182) rfl (teq (rfl : p2 = p2)).2 h) ?_
    refine own_by (f' := (mkF m 186 #[.val (.int p1), .val (.int p2), .val (.ref b1), .val (.int (9 : Int32)), .val (.ref w_CLASS), .val (.int p2), .val (.int p2)] [(.int (1 : Int32))])) (fun t h => XS.iconst X49.here hx rfl (hb hby at_185) h) ?_
    refine own_by (f' := (mkF m 190 #[.val (.int p1), .val (.int p2), .val (.ref b1), .val (.int (9 : Int32)), .val (.ref w_CLASS), .val (.int p2), .val (.int p2)] [(.int (1 : Int32))])) (fun t h => XS.goto X49.here hx rfl (pc0 := 186) (pc' := 190) rfl (hb hby at_186) (by decide) (by decide) h) ?_
    obtain ⟨fs, hr, hrun, hended, hW, hsame⟩ := X49.leave (v := some (.int (1 : Int32))) (fun h => by rw [Bd.returns] at h; cases h)
    refine own_mk ⟨_, _, retN X49 hx (t := .boolean) Bd.returns (by simp) (hb hby at_190) hr, hrun, hended, _, _, rfl, ?_, ⟨_, rfl⟩, hW, hsame.mono (by decide) (by decide)⟩
    show Q0 n0 _ T49.heap _
    rw [e49]
    exact ⟨rfl, N49⟩
  · refine own_by (f' := (mkF m 107 #[.val (.int p1), .val (.int p2), .val (.ref b1), .val (.int (10 : Int32)), .unset, .unset, .unset] [(.ref b1)])) (fun t h => XS.aloadN X29.here hx rfl (hb hby at_106) rfl rfl h) ?_
    refine own_by (f' := (mkF m 108 #[.val (.int p1), .val (.int p2), .val (.ref b1), .val (.int (10 : Int32)), .unset, .unset, .unset] [(.int (10 : Int32)), (.ref b1)])) (fun t h => XS.iloadN X29.here hx rfl (hb hby at_107) rfl h) ?_
    obtain ⟨cl50, Ar50, q50, S50, P50, H50, G50⟩ := V29
    refine own_by (f' := (mkF m 109 #[.val (.int p1), .val (.int p2), .val (.ref b1), .val (.int (10 : Int32)), .unset, .unset, .unset] [(.ref w_PROGRAM_CLASS)])) (fun t h => X29.aaload hx (j := (10 : Int32)) (v := (.ref w_PROGRAM_CLASS)) (by rw [e29]; exact Ar50.1) (State.isArrayOf_alike hZ.alike Ar50.2.1) rfl Ar50.2.2 (by rw [S50]; decide) (Has.at H50 (by rw [S50]; decide) rfl) (g := (mkF m 108 #[.val (.int p1), .val (.int p2), .val (.ref b1), .val (.int (10 : Int32)), .unset, .unset, .unset] [(.int (10 : Int32)), (.ref b1)])) rfl rfl (hb hby at_108) t h) ?_
    refine own_by (f' := (mkF m 111 #[.val (.int p1), .val (.int p2), .val (.ref b1), .val (.int (10 : Int32)), .val (.ref w_PROGRAM_CLASS), .unset, .unset] [])) (fun t h => XS.astore X29.here hx rfl (hb hby at_109) rfl rfl (l' := #[.val (.int p1), .val (.int p2), .val (.ref b1), .val (.int (10 : Int32)), .val (.ref w_PROGRAM_CLASS), .unset, .unset]) rfl h) ?_
    refine own_by (f' := (mkF m 113 #[.val (.int p1), .val (.int p2), .val (.ref b1), .val (.int (10 : Int32)), .val (.ref w_PROGRAM_CLASS), .unset, .unset] [(.ref w_PROGRAM_CLASS)])) (fun t h => XS.aload X29.here hx rfl (hb hby at_111) rfl rfl h) ?_
    refine own_by (f' := (mkF m 114 #[.val (.int p1), .val (.int p2), .val (.ref b1), .val (.int (10 : Int32)), .val (.ref w_PROGRAM_CLASS), .unset, .unset] [(.int p2), (.ref w_PROGRAM_CLASS)])) (fun t h => XS.iloadN X29.here hx rfl (hb hby at_113) rfl h) ?_
    obtain ⟨cq51, kq51, q51a, q51b, q51c⟩ := isOf hZ e29 (E_PROGRAM_CLASS.ext Ex29)
    obtain ⟨v51, _, ⟨T51, L51, k51, n51⟩, -, X51, ⟨Lc51, hQ51, l51, y51, z51⟩, st51⟩ := X29.virtualBack hx (y := (⟨"com/example/subscript/subscript/Type$Kind", "narrow", "(I)I"⟩ : MethodName)) (z := (⟨"com/example/subscript/subscript/Type$Kind", "narrow", "(I)I"⟩ : MethodName)) hown (mvT hZ (hw _ (List.mem_of_getElem? (i := 33) rfl))) (mvT hZ (hw _ (List.mem_of_getElem? (i := 34) rfl))) (notFace_of_selects (args := #[]) (mvT hZ (hw _ (List.mem_of_getElem? (i := 36) rfl)))) (mvT hZ (hw _ (List.mem_of_getElem? (i := 36) rfl))) (mvT hZ (hw _ (List.mem_of_getElem? (i := 35) rfl))) (by decide) (backOf (W := 0) (rm1 l Z a0 hw [] w_PROGRAM_CLASS p2 w_BYTE w_SHORT w_CHAR h29 n0 (Nat.le_trans Z0 Ex29.1) (S_BYTE.ext Ex29) (S_SHORT.ext Ex29) (S_CHAR.ext Ex29)) hZ (hw _ (List.mem_of_getElem? (i := 37) rfl)) (hw _ (List.mem_of_getElem? (i := 3) rfl)) (by decide) (by decide)) q51a q51c (g := (mkF m 114 #[.val (.int p1), .val (.int p2), .val (.ref b1), .val (.int (10 : Int32)), .val (.ref w_PROGRAM_CLASS), .unset, .unset] [(.int p2), (.ref w_PROGRAM_CLASS)])) rfl (by rw [hml]; rfl) (Steps.refl _) (argsL := [(.int p2)]) (rest := []) (lenOf own_pd1 rfl) rfl (by show 2 * 0 + _ ≤ _; exact Nat.le_of_eq rfl) (hb hby at_114) (fun _ _ => ⟨rfl, e29, (by decide : 1 + 0 ≤ _), (by decide : 14 + 0 ≤ _)⟩)
    dsimp only [Pt.U, Pt.locs, Pt.cells, Pt.slots] at X51 l51 y51 z51 st51 hQ51
    subst l51 y51 z51
    obtain ⟨hv51, Nc51, e51⟩ := hQ51
    have N51 := Fr.app N29 Nc51
    obtain rfl : v51 = some (.int p2) := hv51.trans (congrArg (fun z => some (Value.int z)) ((if_neg ne_PROGRAM_CLASS_BYTE).trans ((if_neg ne_PROGRAM_CLASS_SHORT).trans (if_neg ne_PROGRAM_CLASS_CHAR))))
    refine own_by (f' := (mkF m 117 #[.val (.int p1), .val (.int p2), .val (.ref b1), .val (.int (10 : Int32)), .val (.ref w_PROGRAM_CLASS), .unset, .unset] [(.int p2)])) (fun t h => st51.trans h) ?_
    refine own_by (f' := (mkF m 119 #[.val (.int p1), .val (.int p2), .val (.ref b1), .val (.int (10 : Int32)), .val (.ref w_PROGRAM_CLASS), .val (.int p2), .unset] [])) (fun t h => XS.istore X51.here hx rfl (hb hby at_117) rfl (l' := #[.val (.int p1), .val (.int p2), .val (.ref b1), .val (.int (10 : Int32)), .val (.ref w_PROGRAM_CLASS), .val (.int p2), .unset]) rfl h) ?_
    refine own_by (f' := (mkF m 120 #[.val (.int p1), .val (.int p2), .val (.ref b1), .val (.int (10 : Int32)), .val (.ref w_PROGRAM_CLASS), .val (.int p2), .unset] [(.int (10 : Int32))])) (fun t h => XS.iloadN X51.here hx rfl (hb hby at_119) rfl h) ?_
    refine own_by (f' := (mkF m 141 #[.val (.int p1), .val (.int p2), .val (.ref b1), .val (.int (10 : Int32)), .val (.ref w_PROGRAM_CLASS), .val (.int p2), .unset] [])) (fun t h => XS.ifYes X51.here hx rfl (pc0 := 120) (pc' := 141) rfl (hb hby at_120) rfl (by decide) (by decide) (by decide) h) ?_
    refine own_by (f' := (mkF m 142 #[.val (.int p1), .val (.int p2), .val (.ref b1), .val (.int (10 : Int32)), .val (.ref w_PROGRAM_CLASS), .val (.int p2), .unset] [(.int (10 : Int32))])) (fun t h => XS.iloadN X51.here hx rfl (hb hby at_141) rfl h) ?_
    refine own_by (f' := (mkF m 143 #[.val (.int p1), .val (.int p2), .val (.ref b1), .val (.int (10 : Int32)), .val (.ref w_PROGRAM_CLASS), .val (.int p2), .unset] [(.int (1 : Int32)), (.int (10 : Int32))])) (fun t h => XS.iconst X51.here hx rfl (hb hby at_142) h) ?_
    refine own_by (f' := (mkF m 161 #[.val (.int p1), .val (.int p2), .val (.ref b1), .val (.int (10 : Int32)), .val (.ref w_PROGRAM_CLASS), .val (.int p2), .unset] [])) (fun t h => XS.icmpYes X51.here hx rfl (pc0 := 143) (pc' := 161) rfl (hb hby at_143) rfl (by decide) (by decide) (by decide) h) ?_
    refine own_by (f' := (mkF m 162 #[.val (.int p1), .val (.int p2), .val (.ref b1), .val (.int (10 : Int32)), .val (.ref w_PROGRAM_CLASS), .val (.int p2), .unset] [(.int (10 : Int32))])) (fun t h => XS.iloadN X51.here hx rfl (hb hby at_161) rfl h) ?_
    refine own_by (f' := (mkF m 163 #[.val (.int p1), .val (.int p2), .val (.ref b1), .val (.int (10 : Int32)), .val (.ref w_PROGRAM_CLASS), .val (.int p2), .unset] [(.int (2 : Int32)), (.int (10 : Int32))])) (fun t h => XS.iconst X51.here hx rfl (hb hby at_162) h) ?_
    refine own_by (f' := (mkF m 175 #[.val (.int p1), .val (.int p2), .val (.ref b1), .val (.int (10 : Int32)), .val (.ref w_PROGRAM_CLASS), .val (.int p2), .unset] [])) (fun t h => XS.icmpYes X51.here hx rfl (pc0 := 163) (pc' := 175) rfl (hb hby at_163) rfl (by decide) (by decide) (by decide) h) ?_
    refine own_by (f' := (mkF m 176 #[.val (.int p1), .val (.int p2), .val (.ref b1), .val (.int (10 : Int32)), .val (.ref w_PROGRAM_CLASS), .val (.int p2), .unset] [(.int p2)])) (fun t h => XS.iloadN X51.here hx rfl (hb hby at_175) rfl h) ?_
    refine own_by (f' := (mkF m 178 #[.val (.int p1), .val (.int p2), .val (.ref b1), .val (.int (10 : Int32)), .val (.ref w_PROGRAM_CLASS), .val (.int p2), .val (.int p2)] [])) (fun t h => XS.istore X51.here hx rfl (hb hby at_176) rfl (l' := #[.val (.int p1), .val (.int p2), .val (.ref b1), .val (.int (10 : Int32)), .val (.ref w_PROGRAM_CLASS), .val (.int p2), .val (.int p2)]) rfl h) ?_
    refine own_by (f' := (mkF m 180 #[.val (.int p1), .val (.int p2), .val (.ref b1), .val (.int (10 : Int32)), .val (.ref w_PROGRAM_CLASS), .val (.int p2), .val (.int p2)] [(.int p2)])) (fun t h => XS.iload X51.here hx rfl (hb hby at_178) rfl h) ?_
    refine own_by (f' := (mkF m 182 #[.val (.int p1), .val (.int p2), .val (.ref b1), .val (.int (10 : Int32)), .val (.ref w_PROGRAM_CLASS), .val (.int p2), .val (.int p2)] [(.int p2), (.int p2)])) (fun t h => XS.iload X51.here hx rfl (hb hby at_180) rfl h) ?_
    refine own_by (f' := (mkF m 185 #[.val (.int p1), .val (.int p2), .val (.ref b1), .val (.int (10 : Int32)), .val (.ref w_PROGRAM_CLASS), .val (.int p2), .val (.int p2)] [])) (fun t h => XS.icmpNo X51.here hx rfl (hb hby at_182) rfl (teq (rfl : p2 = p2)).2 h) ?_
    refine own_by (f' := (mkF m 186 #[.val (.int p1), .val (.int p2), .val (.ref b1), .val (.int (10 : Int32)), .val (.ref w_PROGRAM_CLASS), .val (.int p2), .val (.int p2)] [(.int (1 : Int32))])) (fun t h => XS.iconst X51.here hx rfl (hb hby at_185) h) ?_
    refine own_by (f' := (mkF m 190 #[.val (.int p1), .val (.int p2), .val (.ref b1), .val (.int (10 : Int32)), .val (.ref w_PROGRAM_CLASS), .val (.int p2), .val (.int p2)] [(.int (1 : Int32))])) (fun t h => XS.goto X51.here hx rfl (pc0 := 186) (pc' := 190) rfl (hb hby at_186) (by decide) (by decide) h) ?_
    obtain ⟨fs, hr, hrun, hended, hW, hsame⟩ := X51.leave (v := some (.int (1 : Int32))) (fun h => by rw [Bd.returns] at h; cases h)
    refine own_mk ⟨_, _, retN X51 hx (t := .boolean) Bd.returns (by simp) (hb hby at_190) hr, hrun, hended, _, _, rfl, ?_, ⟨_, rfl⟩, hW, hsame.mono (by decide) (by decide)⟩
    show Q0 n0 _ T51.heap _
    rw [e51]
    exact ⟨rfl, N51⟩
  · refine own_by (f' := (mkF m 107 #[.val (.int p1), .val (.int p2), .val (.ref b1), .val (.int (11 : Int32)), .unset, .unset, .unset] [(.ref b1)])) (fun t h => XS.aloadN X29.here hx rfl (hb hby at_106) rfl rfl h) ?_
    refine own_by (f' := (mkF m 108 #[.val (.int p1), .val (.int p2), .val (.ref b1), .val (.int (11 : Int32)), .unset, .unset, .unset] [(.int (11 : Int32)), (.ref b1)])) (fun t h => XS.iloadN X29.here hx rfl (hb hby at_107) rfl h) ?_
    obtain ⟨cl52, Ar52, q52, S52, P52, H52, G52⟩ := V29
    refine own_by (f' := (mkF m 109 #[.val (.int p1), .val (.int p2), .val (.ref b1), .val (.int (11 : Int32)), .unset, .unset, .unset] [(.ref w_ARRAY)])) (fun t h => X29.aaload hx (j := (11 : Int32)) (v := (.ref w_ARRAY)) (by rw [e29]; exact Ar52.1) (State.isArrayOf_alike hZ.alike Ar52.2.1) rfl Ar52.2.2 (by rw [S52]; decide) (Has.at H52 (by rw [S52]; decide) rfl) (g := (mkF m 108 #[.val (.int p1), .val (.int p2), .val (.ref b1), .val (.int (11 : Int32)), .unset, .unset, .unset] [(.int (11 : Int32)), (.ref b1)])) rfl rfl (hb hby at_108) t h) ?_
    refine own_by (f' := (mkF m 111 #[.val (.int p1), .val (.int p2), .val (.ref b1), .val (.int (11 : Int32)), .val (.ref w_ARRAY), .unset, .unset] [])) (fun t h => XS.astore X29.here hx rfl (hb hby at_109) rfl rfl (l' := #[.val (.int p1), .val (.int p2), .val (.ref b1), .val (.int (11 : Int32)), .val (.ref w_ARRAY), .unset, .unset]) rfl h) ?_
    refine own_by (f' := (mkF m 113 #[.val (.int p1), .val (.int p2), .val (.ref b1), .val (.int (11 : Int32)), .val (.ref w_ARRAY), .unset, .unset] [(.ref w_ARRAY)])) (fun t h => XS.aload X29.here hx rfl (hb hby at_111) rfl rfl h) ?_
    refine own_by (f' := (mkF m 114 #[.val (.int p1), .val (.int p2), .val (.ref b1), .val (.int (11 : Int32)), .val (.ref w_ARRAY), .unset, .unset] [(.int p2), (.ref w_ARRAY)])) (fun t h => XS.iloadN X29.here hx rfl (hb hby at_113) rfl h) ?_
    obtain ⟨cq53, kq53, q53a, q53b, q53c⟩ := isOf hZ e29 (E_ARRAY.ext Ex29)
    obtain ⟨v53, _, ⟨T53, L53, k53, n53⟩, -, X53, ⟨Lc53, hQ53, l53, y53, z53⟩, st53⟩ := X29.virtualBack hx (y := (⟨"com/example/subscript/subscript/Type$Kind", "narrow", "(I)I"⟩ : MethodName)) (z := (⟨"com/example/subscript/subscript/Type$Kind", "narrow", "(I)I"⟩ : MethodName)) hown (mvT hZ (hw _ (List.mem_of_getElem? (i := 33) rfl))) (mvT hZ (hw _ (List.mem_of_getElem? (i := 34) rfl))) (notFace_of_selects (args := #[]) (mvT hZ (hw _ (List.mem_of_getElem? (i := 36) rfl)))) (mvT hZ (hw _ (List.mem_of_getElem? (i := 36) rfl))) (mvT hZ (hw _ (List.mem_of_getElem? (i := 35) rfl))) (by decide) (backOf (W := 0) (rm1 l Z a0 hw [] w_ARRAY p2 w_BYTE w_SHORT w_CHAR h29 n0 (Nat.le_trans Z0 Ex29.1) (S_BYTE.ext Ex29) (S_SHORT.ext Ex29) (S_CHAR.ext Ex29)) hZ (hw _ (List.mem_of_getElem? (i := 37) rfl)) (hw _ (List.mem_of_getElem? (i := 3) rfl)) (by decide) (by decide)) q53a q53c (g := (mkF m 114 #[.val (.int p1), .val (.int p2), .val (.ref b1), .val (.int (11 : Int32)), .val (.ref w_ARRAY), .unset, .unset] [(.int p2), (.ref w_ARRAY)])) rfl (by rw [hml]; rfl) (Steps.refl _) (argsL := [(.int p2)]) (rest := []) (lenOf own_pd1 rfl) rfl (by show 2 * 0 + _ ≤ _; exact Nat.le_of_eq rfl) (hb hby at_114) (fun _ _ => ⟨rfl, e29, (by decide : 1 + 0 ≤ _), (by decide : 14 + 0 ≤ _)⟩)
    dsimp only [Pt.U, Pt.locs, Pt.cells, Pt.slots] at X53 l53 y53 z53 st53 hQ53
    subst l53 y53 z53
    obtain ⟨hv53, Nc53, e53⟩ := hQ53
    have N53 := Fr.app N29 Nc53
    obtain rfl : v53 = some (.int p2) := hv53.trans (congrArg (fun z => some (Value.int z)) ((if_neg ne_ARRAY_BYTE).trans ((if_neg ne_ARRAY_SHORT).trans (if_neg ne_ARRAY_CHAR))))
    refine own_by (f' := (mkF m 117 #[.val (.int p1), .val (.int p2), .val (.ref b1), .val (.int (11 : Int32)), .val (.ref w_ARRAY), .unset, .unset] [(.int p2)])) (fun t h => st53.trans h) ?_
    refine own_by (f' := (mkF m 119 #[.val (.int p1), .val (.int p2), .val (.ref b1), .val (.int (11 : Int32)), .val (.ref w_ARRAY), .val (.int p2), .unset] [])) (fun t h => XS.istore X53.here hx rfl (hb hby at_117) rfl (l' := #[.val (.int p1), .val (.int p2), .val (.ref b1), .val (.int (11 : Int32)), .val (.ref w_ARRAY), .val (.int p2), .unset]) rfl h) ?_
    refine own_by (f' := (mkF m 120 #[.val (.int p1), .val (.int p2), .val (.ref b1), .val (.int (11 : Int32)), .val (.ref w_ARRAY), .val (.int p2), .unset] [(.int (11 : Int32))])) (fun t h => XS.iloadN X53.here hx rfl (hb hby at_119) rfl h) ?_
    refine own_by (f' := (mkF m 141 #[.val (.int p1), .val (.int p2), .val (.ref b1), .val (.int (11 : Int32)), .val (.ref w_ARRAY), .val (.int p2), .unset] [])) (fun t h => XS.ifYes X53.here hx rfl (pc0 := 120) (pc' := 141) rfl (hb hby at_120) rfl (by decide) (by decide) (by decide) h) ?_
    refine own_by (f' := (mkF m 142 #[.val (.int p1), .val (.int p2), .val (.ref b1), .val (.int (11 : Int32)), .val (.ref w_ARRAY), .val (.int p2), .unset] [(.int (11 : Int32))])) (fun t h => XS.iloadN X53.here hx rfl (hb hby at_141) rfl h) ?_
    refine own_by (f' := (mkF m 143 #[.val (.int p1), .val (.int p2), .val (.ref b1), .val (.int (11 : Int32)), .val (.ref w_ARRAY), .val (.int p2), .unset] [(.int (1 : Int32)), (.int (11 : Int32))])) (fun t h => XS.iconst X53.here hx rfl (hb hby at_142) h) ?_
    refine own_by (f' := (mkF m 161 #[.val (.int p1), .val (.int p2), .val (.ref b1), .val (.int (11 : Int32)), .val (.ref w_ARRAY), .val (.int p2), .unset] [])) (fun t h => XS.icmpYes X53.here hx rfl (pc0 := 143) (pc' := 161) rfl (hb hby at_143) rfl (by decide) (by decide) (by decide) h) ?_
    refine own_by (f' := (mkF m 162 #[.val (.int p1), .val (.int p2), .val (.ref b1), .val (.int (11 : Int32)), .val (.ref w_ARRAY), .val (.int p2), .unset] [(.int (11 : Int32))])) (fun t h => XS.iloadN X53.here hx rfl (hb hby at_161) rfl h) ?_
    refine own_by (f' := (mkF m 163 #[.val (.int p1), .val (.int p2), .val (.ref b1), .val (.int (11 : Int32)), .val (.ref w_ARRAY), .val (.int p2), .unset] [(.int (2 : Int32)), (.int (11 : Int32))])) (fun t h => XS.iconst X53.here hx rfl (hb hby at_162) h) ?_
    refine own_by (f' := (mkF m 175 #[.val (.int p1), .val (.int p2), .val (.ref b1), .val (.int (11 : Int32)), .val (.ref w_ARRAY), .val (.int p2), .unset] [])) (fun t h => XS.icmpYes X53.here hx rfl (pc0 := 163) (pc' := 175) rfl (hb hby at_163) rfl (by decide) (by decide) (by decide) h) ?_
    refine own_by (f' := (mkF m 176 #[.val (.int p1), .val (.int p2), .val (.ref b1), .val (.int (11 : Int32)), .val (.ref w_ARRAY), .val (.int p2), .unset] [(.int p2)])) (fun t h => XS.iloadN X53.here hx rfl (hb hby at_175) rfl h) ?_
    refine own_by (f' := (mkF m 178 #[.val (.int p1), .val (.int p2), .val (.ref b1), .val (.int (11 : Int32)), .val (.ref w_ARRAY), .val (.int p2), .val (.int p2)] [])) (fun t h => XS.istore X53.here hx rfl (hb hby at_176) rfl (l' := #[.val (.int p1), .val (.int p2), .val (.ref b1), .val (.int (11 : Int32)), .val (.ref w_ARRAY), .val (.int p2), .val (.int p2)]) rfl h) ?_
    refine own_by (f' := (mkF m 180 #[.val (.int p1), .val (.int p2), .val (.ref b1), .val (.int (11 : Int32)), .val (.ref w_ARRAY), .val (.int p2), .val (.int p2)] [(.int p2)])) (fun t h => XS.iload X53.here hx rfl (hb hby at_178) rfl h) ?_
    refine own_by (f' := (mkF m 182 #[.val (.int p1), .val (.int p2), .val (.ref b1), .val (.int (11 : Int32)), .val (.ref w_ARRAY), .val (.int p2), .val (.int p2)] [(.int p2), (.int p2)])) (fun t h => XS.iload X53.here hx rfl (hb hby at_180) rfl h) ?_
    refine own_by (f' := (mkF m 185 #[.val (.int p1), .val (.int p2), .val (.ref b1), .val (.int (11 : Int32)), .val (.ref w_ARRAY), .val (.int p2), .val (.int p2)] [])) (fun t h => XS.icmpNo X53.here hx rfl (hb hby at_182) rfl (teq (rfl : p2 = p2)).2 h) ?_
    refine own_by (f' := (mkF m 186 #[.val (.int p1), .val (.int p2), .val (.ref b1), .val (.int (11 : Int32)), .val (.ref w_ARRAY), .val (.int p2), .val (.int p2)] [(.int (1 : Int32))])) (fun t h => XS.iconst X53.here hx rfl (hb hby at_185) h) ?_
    refine own_by (f' := (mkF m 190 #[.val (.int p1), .val (.int p2), .val (.ref b1), .val (.int (11 : Int32)), .val (.ref w_ARRAY), .val (.int p2), .val (.int p2)] [(.int (1 : Int32))])) (fun t h => XS.goto X53.here hx rfl (pc0 := 186) (pc' := 190) rfl (hb hby at_186) (by decide) (by decide) h) ?_
    obtain ⟨fs, hr, hrun, hended, hW, hsame⟩ := X53.leave (v := some (.int (1 : Int32))) (fun h => by rw [Bd.returns] at h; cases h)
    refine own_mk ⟨_, _, retN X53 hx (t := .boolean) Bd.returns (by simp) (hb hby at_190) hr, hrun, hended, _, _, rfl, ?_, ⟨_, rfl⟩, hW, hsame.mono (by decide) (by decide)⟩
    show Q0 n0 _ T53.heap _
    rw [e53]
    exact ⟨rfl, N53⟩
  · refine own_by (f' := (mkF m 107 #[.val (.int p1), .val (.int p2), .val (.ref b1), .val (.int (12 : Int32)), .unset, .unset, .unset] [(.ref b1)])) (fun t h => XS.aloadN X29.here hx rfl (hb hby at_106) rfl rfl h) ?_
    refine own_by (f' := (mkF m 108 #[.val (.int p1), .val (.int p2), .val (.ref b1), .val (.int (12 : Int32)), .unset, .unset, .unset] [(.int (12 : Int32)), (.ref b1)])) (fun t h => XS.iloadN X29.here hx rfl (hb hby at_107) rfl h) ?_
    obtain ⟨cl54, Ar54, q54, S54, P54, H54, G54⟩ := V29
    refine own_by (f' := (mkF m 109 #[.val (.int p1), .val (.int p2), .val (.ref b1), .val (.int (12 : Int32)), .unset, .unset, .unset] [(.ref w_NULL)])) (fun t h => X29.aaload hx (j := (12 : Int32)) (v := (.ref w_NULL)) (by rw [e29]; exact Ar54.1) (State.isArrayOf_alike hZ.alike Ar54.2.1) rfl Ar54.2.2 (by rw [S54]; decide) (Has.at H54 (by rw [S54]; decide) rfl) (g := (mkF m 108 #[.val (.int p1), .val (.int p2), .val (.ref b1), .val (.int (12 : Int32)), .unset, .unset, .unset] [(.int (12 : Int32)), (.ref b1)])) rfl rfl (hb hby at_108) t h) ?_
    refine own_by (f' := (mkF m 111 #[.val (.int p1), .val (.int p2), .val (.ref b1), .val (.int (12 : Int32)), .val (.ref w_NULL), .unset, .unset] [])) (fun t h => XS.astore X29.here hx rfl (hb hby at_109) rfl rfl (l' := #[.val (.int p1), .val (.int p2), .val (.ref b1), .val (.int (12 : Int32)), .val (.ref w_NULL), .unset, .unset]) rfl h) ?_
    refine own_by (f' := (mkF m 113 #[.val (.int p1), .val (.int p2), .val (.ref b1), .val (.int (12 : Int32)), .val (.ref w_NULL), .unset, .unset] [(.ref w_NULL)])) (fun t h => XS.aload X29.here hx rfl (hb hby at_111) rfl rfl h) ?_
    refine own_by (f' := (mkF m 114 #[.val (.int p1), .val (.int p2), .val (.ref b1), .val (.int (12 : Int32)), .val (.ref w_NULL), .unset, .unset] [(.int p2), (.ref w_NULL)])) (fun t h => XS.iloadN X29.here hx rfl (hb hby at_113) rfl h) ?_
    obtain ⟨cq55, kq55, q55a, q55b, q55c⟩ := isOf hZ e29 (E_NULL.ext Ex29)
    obtain ⟨v55, _, ⟨T55, L55, k55, n55⟩, -, X55, ⟨Lc55, hQ55, l55, y55, z55⟩, st55⟩ := X29.virtualBack hx (y := (⟨"com/example/subscript/subscript/Type$Kind", "narrow", "(I)I"⟩ : MethodName)) (z := (⟨"com/example/subscript/subscript/Type$Kind", "narrow", "(I)I"⟩ : MethodName)) hown (mvT hZ (hw _ (List.mem_of_getElem? (i := 33) rfl))) (mvT hZ (hw _ (List.mem_of_getElem? (i := 34) rfl))) (notFace_of_selects (args := #[]) (mvT hZ (hw _ (List.mem_of_getElem? (i := 36) rfl)))) (mvT hZ (hw _ (List.mem_of_getElem? (i := 36) rfl))) (mvT hZ (hw _ (List.mem_of_getElem? (i := 35) rfl))) (by decide) (backOf (W := 0) (rm1 l Z a0 hw [] w_NULL p2 w_BYTE w_SHORT w_CHAR h29 n0 (Nat.le_trans Z0 Ex29.1) (S_BYTE.ext Ex29) (S_SHORT.ext Ex29) (S_CHAR.ext Ex29)) hZ (hw _ (List.mem_of_getElem? (i := 37) rfl)) (hw _ (List.mem_of_getElem? (i := 3) rfl)) (by decide) (by decide)) q55a q55c (g := (mkF m 114 #[.val (.int p1), .val (.int p2), .val (.ref b1), .val (.int (12 : Int32)), .val (.ref w_NULL), .unset, .unset] [(.int p2), (.ref w_NULL)])) rfl (by rw [hml]; rfl) (Steps.refl _) (argsL := [(.int p2)]) (rest := []) (lenOf own_pd1 rfl) rfl (by show 2 * 0 + _ ≤ _; exact Nat.le_of_eq rfl) (hb hby at_114) (fun _ _ => ⟨rfl, e29, (by decide : 1 + 0 ≤ _), (by decide : 14 + 0 ≤ _)⟩)
    dsimp only [Pt.U, Pt.locs, Pt.cells, Pt.slots] at X55 l55 y55 z55 st55 hQ55
    subst l55 y55 z55
    obtain ⟨hv55, Nc55, e55⟩ := hQ55
    have N55 := Fr.app N29 Nc55
    obtain rfl : v55 = some (.int p2) := hv55.trans (congrArg (fun z => some (Value.int z)) ((if_neg ne_NULL_BYTE).trans ((if_neg ne_NULL_SHORT).trans (if_neg ne_NULL_CHAR))))
    refine own_by (f' := (mkF m 117 #[.val (.int p1), .val (.int p2), .val (.ref b1), .val (.int (12 : Int32)), .val (.ref w_NULL), .unset, .unset] [(.int p2)])) (fun t h => st55.trans h) ?_
    refine own_by (f' := (mkF m 119 #[.val (.int p1), .val (.int p2), .val (.ref b1), .val (.int (12 : Int32)), .val (.ref w_NULL), .val (.int p2), .unset] [])) (fun t h => XS.istore X55.here hx rfl (hb hby at_117) rfl (l' := #[.val (.int p1), .val (.int p2), .val (.ref b1), .val (.int (12 : Int32)), .val (.ref w_NULL), .val (.int p2), .unset]) rfl h) ?_
    refine own_by (f' := (mkF m 120 #[.val (.int p1), .val (.int p2), .val (.ref b1), .val (.int (12 : Int32)), .val (.ref w_NULL), .val (.int p2), .unset] [(.int (12 : Int32))])) (fun t h => XS.iloadN X55.here hx rfl (hb hby at_119) rfl h) ?_
    refine own_by (f' := (mkF m 141 #[.val (.int p1), .val (.int p2), .val (.ref b1), .val (.int (12 : Int32)), .val (.ref w_NULL), .val (.int p2), .unset] [])) (fun t h => XS.ifYes X55.here hx rfl (pc0 := 120) (pc' := 141) rfl (hb hby at_120) rfl (by decide) (by decide) (by decide) h) ?_
    refine own_by (f' := (mkF m 142 #[.val (.int p1), .val (.int p2), .val (.ref b1), .val (.int (12 : Int32)), .val (.ref w_NULL), .val (.int p2), .unset] [(.int (12 : Int32))])) (fun t h => XS.iloadN X55.here hx rfl (hb hby at_141) rfl h) ?_
    refine own_by (f' := (mkF m 143 #[.val (.int p1), .val (.int p2), .val (.ref b1), .val (.int (12 : Int32)), .val (.ref w_NULL), .val (.int p2), .unset] [(.int (1 : Int32)), (.int (12 : Int32))])) (fun t h => XS.iconst X55.here hx rfl (hb hby at_142) h) ?_
    refine own_by (f' := (mkF m 161 #[.val (.int p1), .val (.int p2), .val (.ref b1), .val (.int (12 : Int32)), .val (.ref w_NULL), .val (.int p2), .unset] [])) (fun t h => XS.icmpYes X55.here hx rfl (pc0 := 143) (pc' := 161) rfl (hb hby at_143) rfl (by decide) (by decide) (by decide) h) ?_
    refine own_by (f' := (mkF m 162 #[.val (.int p1), .val (.int p2), .val (.ref b1), .val (.int (12 : Int32)), .val (.ref w_NULL), .val (.int p2), .unset] [(.int (12 : Int32))])) (fun t h => XS.iloadN X55.here hx rfl (hb hby at_161) rfl h) ?_
    refine own_by (f' := (mkF m 163 #[.val (.int p1), .val (.int p2), .val (.ref b1), .val (.int (12 : Int32)), .val (.ref w_NULL), .val (.int p2), .unset] [(.int (2 : Int32)), (.int (12 : Int32))])) (fun t h => XS.iconst X55.here hx rfl (hb hby at_162) h) ?_
    refine own_by (f' := (mkF m 175 #[.val (.int p1), .val (.int p2), .val (.ref b1), .val (.int (12 : Int32)), .val (.ref w_NULL), .val (.int p2), .unset] [])) (fun t h => XS.icmpYes X55.here hx rfl (pc0 := 163) (pc' := 175) rfl (hb hby at_163) rfl (by decide) (by decide) (by decide) h) ?_
    refine own_by (f' := (mkF m 176 #[.val (.int p1), .val (.int p2), .val (.ref b1), .val (.int (12 : Int32)), .val (.ref w_NULL), .val (.int p2), .unset] [(.int p2)])) (fun t h => XS.iloadN X55.here hx rfl (hb hby at_175) rfl h) ?_
    refine own_by (f' := (mkF m 178 #[.val (.int p1), .val (.int p2), .val (.ref b1), .val (.int (12 : Int32)), .val (.ref w_NULL), .val (.int p2), .val (.int p2)] [])) (fun t h => XS.istore X55.here hx rfl (hb hby at_176) rfl (l' := #[.val (.int p1), .val (.int p2), .val (.ref b1), .val (.int (12 : Int32)), .val (.ref w_NULL), .val (.int p2), .val (.int p2)]) rfl h) ?_
    refine own_by (f' := (mkF m 180 #[.val (.int p1), .val (.int p2), .val (.ref b1), .val (.int (12 : Int32)), .val (.ref w_NULL), .val (.int p2), .val (.int p2)] [(.int p2)])) (fun t h => XS.iload X55.here hx rfl (hb hby at_178) rfl h) ?_
    refine own_by (f' := (mkF m 182 #[.val (.int p1), .val (.int p2), .val (.ref b1), .val (.int (12 : Int32)), .val (.ref w_NULL), .val (.int p2), .val (.int p2)] [(.int p2), (.int p2)])) (fun t h => XS.iload X55.here hx rfl (hb hby at_180) rfl h) ?_
    refine own_by (f' := (mkF m 185 #[.val (.int p1), .val (.int p2), .val (.ref b1), .val (.int (12 : Int32)), .val (.ref w_NULL), .val (.int p2), .val (.int p2)] [])) (fun t h => XS.icmpNo X55.here hx rfl (hb hby at_182) rfl (teq (rfl : p2 = p2)).2 h) ?_
    refine own_by (f' := (mkF m 186 #[.val (.int p1), .val (.int p2), .val (.ref b1), .val (.int (12 : Int32)), .val (.ref w_NULL), .val (.int p2), .val (.int p2)] [(.int (1 : Int32))])) (fun t h => XS.iconst X55.here hx rfl (hb hby at_185) h) ?_
    refine own_by (f' := (mkF m 190 #[.val (.int p1), .val (.int p2), .val (.ref b1), .val (.int (12 : Int32)), .val (.ref w_NULL), .val (.int p2), .val (.int p2)] [(.int (1 : Int32))])) (fun t h => XS.goto X55.here hx rfl (pc0 := 186) (pc' := 190) rfl (hb hby at_186) (by decide) (by decide) h) ?_
    obtain ⟨fs, hr, hrun, hended, hW, hsame⟩ := X55.leave (v := some (.int (1 : Int32))) (fun h => by rw [Bd.returns] at h; cases h)
    refine own_mk ⟨_, _, retN X55 hx (t := .boolean) Bd.returns (by simp) (hb hby at_190) hr, hrun, hended, _, _, rfl, ?_, ⟨_, rfl⟩, hW, hsame.mono (by decide) (by decide)⟩
    show Q0 n0 _ T55.heap _
    rw [e55]
    exact ⟨rfl, N55⟩
  · refine own_by (f' := (mkF m 107 #[.val (.int p1), .val (.int p2), .val (.ref b1), .val (.int (13 : Int32)), .unset, .unset, .unset] [(.ref b1)])) (fun t h => XS.aloadN X29.here hx rfl (hb hby at_106) rfl rfl h) ?_
    refine own_by (f' := (mkF m 108 #[.val (.int p1), .val (.int p2), .val (.ref b1), .val (.int (13 : Int32)), .unset, .unset, .unset] [(.int (13 : Int32)), (.ref b1)])) (fun t h => XS.iloadN X29.here hx rfl (hb hby at_107) rfl h) ?_
    obtain ⟨cl56, Ar56, q56, S56, P56, H56, G56⟩ := V29
    refine own_by (f' := (mkF m 109 #[.val (.int p1), .val (.int p2), .val (.ref b1), .val (.int (13 : Int32)), .unset, .unset, .unset] [(.ref w_ERROR)])) (fun t h => X29.aaload hx (j := (13 : Int32)) (v := (.ref w_ERROR)) (by rw [e29]; exact Ar56.1) (State.isArrayOf_alike hZ.alike Ar56.2.1) rfl Ar56.2.2 (by rw [S56]; decide) (Has.at H56 (by rw [S56]; decide) rfl) (g := (mkF m 108 #[.val (.int p1), .val (.int p2), .val (.ref b1), .val (.int (13 : Int32)), .unset, .unset, .unset] [(.int (13 : Int32)), (.ref b1)])) rfl rfl (hb hby at_108) t h) ?_
    refine own_by (f' := (mkF m 111 #[.val (.int p1), .val (.int p2), .val (.ref b1), .val (.int (13 : Int32)), .val (.ref w_ERROR), .unset, .unset] [])) (fun t h => XS.astore X29.here hx rfl (hb hby at_109) rfl rfl (l' := #[.val (.int p1), .val (.int p2), .val (.ref b1), .val (.int (13 : Int32)), .val (.ref w_ERROR), .unset, .unset]) rfl h) ?_
    refine own_by (f' := (mkF m 113 #[.val (.int p1), .val (.int p2), .val (.ref b1), .val (.int (13 : Int32)), .val (.ref w_ERROR), .unset, .unset] [(.ref w_ERROR)])) (fun t h => XS.aload X29.here hx rfl (hb hby at_111) rfl rfl h) ?_
    refine own_by (f' := (mkF m 114 #[.val (.int p1), .val (.int p2), .val (.ref b1), .val (.int (13 : Int32)), .val (.ref w_ERROR), .unset, .unset] [(.int p2), (.ref w_ERROR)])) (fun t h => XS.iloadN X29.here hx rfl (hb hby at_113) rfl h) ?_
    obtain ⟨cq57, kq57, q57a, q57b, q57c⟩ := isOf hZ e29 (E_ERROR.ext Ex29)
    obtain ⟨v57, _, ⟨T57, L57, k57, n57⟩, -, X57, ⟨Lc57, hQ57, l57, y57, z57⟩, st57⟩ := X29.virtualBack hx (y := (⟨"com/example/subscript/subscript/Type$Kind", "narrow", "(I)I"⟩ : MethodName)) (z := (⟨"com/example/subscript/subscript/Type$Kind", "narrow", "(I)I"⟩ : MethodName)) hown (mvT hZ (hw _ (List.mem_of_getElem? (i := 33) rfl))) (mvT hZ (hw _ (List.mem_of_getElem? (i := 34) rfl))) (notFace_of_selects (args := #[]) (mvT hZ (hw _ (List.mem_of_getElem? (i := 36) rfl)))) (mvT hZ (hw _ (List.mem_of_getElem? (i := 36) rfl))) (mvT hZ (hw _ (List.mem_of_getElem? (i := 35) rfl))) (by decide) (backOf (W := 0) (rm1 l Z a0 hw [] w_ERROR p2 w_BYTE w_SHORT w_CHAR h29 n0 (Nat.le_trans Z0 Ex29.1) (S_BYTE.ext Ex29) (S_SHORT.ext Ex29) (S_CHAR.ext Ex29)) hZ (hw _ (List.mem_of_getElem? (i := 37) rfl)) (hw _ (List.mem_of_getElem? (i := 3) rfl)) (by decide) (by decide)) q57a q57c (g := (mkF m 114 #[.val (.int p1), .val (.int p2), .val (.ref b1), .val (.int (13 : Int32)), .val (.ref w_ERROR), .unset, .unset] [(.int p2), (.ref w_ERROR)])) rfl (by rw [hml]; rfl) (Steps.refl _) (argsL := [(.int p2)]) (rest := []) (lenOf own_pd1 rfl) rfl (by show 2 * 0 + _ ≤ _; exact Nat.le_of_eq rfl) (hb hby at_114) (fun _ _ => ⟨rfl, e29, (by decide : 1 + 0 ≤ _), (by decide : 14 + 0 ≤ _)⟩)
    dsimp only [Pt.U, Pt.locs, Pt.cells, Pt.slots] at X57 l57 y57 z57 st57 hQ57
    subst l57 y57 z57
    obtain ⟨hv57, Nc57, e57⟩ := hQ57
    have N57 := Fr.app N29 Nc57
    obtain rfl : v57 = some (.int p2) := hv57.trans (congrArg (fun z => some (Value.int z)) ((if_neg ne_ERROR_BYTE).trans ((if_neg ne_ERROR_SHORT).trans (if_neg ne_ERROR_CHAR))))
    refine own_by (f' := (mkF m 117 #[.val (.int p1), .val (.int p2), .val (.ref b1), .val (.int (13 : Int32)), .val (.ref w_ERROR), .unset, .unset] [(.int p2)])) (fun t h => st57.trans h) ?_
    refine own_by (f' := (mkF m 119 #[.val (.int p1), .val (.int p2), .val (.ref b1), .val (.int (13 : Int32)), .val (.ref w_ERROR), .val (.int p2), .unset] [])) (fun t h => XS.istore X57.here hx rfl (hb hby at_117) rfl (l' := #[.val (.int p1), .val (.int p2), .val (.ref b1), .val (.int (13 : Int32)), .val (.ref w_ERROR), .val (.int p2), .unset]) rfl h) ?_
    refine own_by (f' := (mkF m 120 #[.val (.int p1), .val (.int p2), .val (.ref b1), .val (.int (13 : Int32)), .val (.ref w_ERROR), .val (.int p2), .unset] [(.int (13 : Int32))])) (fun t h => XS.iloadN X57.here hx rfl (hb hby at_119) rfl h) ?_
    refine own_by (f' := (mkF m 141 #[.val (.int p1), .val (.int p2), .val (.ref b1), .val (.int (13 : Int32)), .val (.ref w_ERROR), .val (.int p2), .unset] [])) (fun t h => XS.ifYes X57.here hx rfl (pc0 := 120) (pc' := 141) rfl (hb hby at_120) rfl (by decide) (by decide) (by decide) h) ?_
    refine own_by (f' := (mkF m 142 #[.val (.int p1), .val (.int p2), .val (.ref b1), .val (.int (13 : Int32)), .val (.ref w_ERROR), .val (.int p2), .unset] [(.int (13 : Int32))])) (fun t h => XS.iloadN X57.here hx rfl (hb hby at_141) rfl h) ?_
    refine own_by (f' := (mkF m 143 #[.val (.int p1), .val (.int p2), .val (.ref b1), .val (.int (13 : Int32)), .val (.ref w_ERROR), .val (.int p2), .unset] [(.int (1 : Int32)), (.int (13 : Int32))])) (fun t h => XS.iconst X57.here hx rfl (hb hby at_142) h) ?_
    refine own_by (f' := (mkF m 161 #[.val (.int p1), .val (.int p2), .val (.ref b1), .val (.int (13 : Int32)), .val (.ref w_ERROR), .val (.int p2), .unset] [])) (fun t h => XS.icmpYes X57.here hx rfl (pc0 := 143) (pc' := 161) rfl (hb hby at_143) rfl (by decide) (by decide) (by decide) h) ?_
    refine own_by (f' := (mkF m 162 #[.val (.int p1), .val (.int p2), .val (.ref b1), .val (.int (13 : Int32)), .val (.ref w_ERROR), .val (.int p2), .unset] [(.int (13 : Int32))])) (fun t h => XS.iloadN X57.here hx rfl (hb hby at_161) rfl h) ?_
    refine own_by (f' := (mkF m 163 #[.val (.int p1), .val (.int p2), .val (.ref b1), .val (.int (13 : Int32)), .val (.ref w_ERROR), .val (.int p2), .unset] [(.int (2 : Int32)), (.int (13 : Int32))])) (fun t h => XS.iconst X57.here hx rfl (hb hby at_162) h) ?_
    refine own_by (f' := (mkF m 175 #[.val (.int p1), .val (.int p2), .val (.ref b1), .val (.int (13 : Int32)), .val (.ref w_ERROR), .val (.int p2), .unset] [])) (fun t h => XS.icmpYes X57.here hx rfl (pc0 := 163) (pc' := 175) rfl (hb hby at_163) rfl (by decide) (by decide) (by decide) h) ?_
    refine own_by (f' := (mkF m 176 #[.val (.int p1), .val (.int p2), .val (.ref b1), .val (.int (13 : Int32)), .val (.ref w_ERROR), .val (.int p2), .unset] [(.int p2)])) (fun t h => XS.iloadN X57.here hx rfl (hb hby at_175) rfl h) ?_
    refine own_by (f' := (mkF m 178 #[.val (.int p1), .val (.int p2), .val (.ref b1), .val (.int (13 : Int32)), .val (.ref w_ERROR), .val (.int p2), .val (.int p2)] [])) (fun t h => XS.istore X57.here hx rfl (hb hby at_176) rfl (l' := #[.val (.int p1), .val (.int p2), .val (.ref b1), .val (.int (13 : Int32)), .val (.ref w_ERROR), .val (.int p2), .val (.int p2)]) rfl h) ?_
    refine own_by (f' := (mkF m 180 #[.val (.int p1), .val (.int p2), .val (.ref b1), .val (.int (13 : Int32)), .val (.ref w_ERROR), .val (.int p2), .val (.int p2)] [(.int p2)])) (fun t h => XS.iload X57.here hx rfl (hb hby at_178) rfl h) ?_
    refine own_by (f' := (mkF m 182 #[.val (.int p1), .val (.int p2), .val (.ref b1), .val (.int (13 : Int32)), .val (.ref w_ERROR), .val (.int p2), .val (.int p2)] [(.int p2), (.int p2)])) (fun t h => XS.iload X57.here hx rfl (hb hby at_180) rfl h) ?_
    refine own_by (f' := (mkF m 185 #[.val (.int p1), .val (.int p2), .val (.ref b1), .val (.int (13 : Int32)), .val (.ref w_ERROR), .val (.int p2), .val (.int p2)] [])) (fun t h => XS.icmpNo X57.here hx rfl (hb hby at_182) rfl (teq (rfl : p2 = p2)).2 h) ?_
    refine own_by (f' := (mkF m 186 #[.val (.int p1), .val (.int p2), .val (.ref b1), .val (.int (13 : Int32)), .val (.ref w_ERROR), .val (.int p2), .val (.int p2)] [(.int (1 : Int32))])) (fun t h => XS.iconst X57.here hx rfl (hb hby at_185) h) ?_
    refine own_by (f' := (mkF m 190 #[.val (.int p1), .val (.int p2), .val (.ref b1), .val (.int (13 : Int32)), .val (.ref w_ERROR), .val (.int p2), .val (.int p2)] [(.int (1 : Int32))])) (fun t h => XS.goto X57.here hx rfl (pc0 := 186) (pc' := 190) rfl (hb hby at_186) (by decide) (by decide) h) ?_
    obtain ⟨fs, hr, hrun, hended, hW, hsame⟩ := X57.leave (v := some (.int (1 : Int32))) (fun h => by rw [Bd.returns] at h; cases h)
    refine own_mk ⟨_, _, retN X57 hx (t := .boolean) Bd.returns (by simp) (hb hby at_190) hr, hrun, hended, _, _, rfl, ?_, ⟨_, rfl⟩, hW, hsame.mono (by decide) (by decide)⟩
    show Q0 n0 _ T57.heap _
    rw [e57]
    exact ⟨rfl, N57⟩
set_option maxRecDepth 65536 in
set_option maxHeartbeats 40000000 in
theorem comes_1 {Post : Tables → Env → Array Value → State → Outcome → State → Prop} (hpost : ∀ tb e args s v u, (limb_1_1.after args s (.returned v) u = true ∧ limb_1_2.after args s (.returned v) u = true ∧ True) → FrameEnd s (.returned v) u (Jvm.fieldLocs frame_1_writes args s ++ Jvm.arrayLocs frame_1_arrays args s ++ Jvm.staticLocs frame_1_statics s) 16 128 → Post tb e args s (.returned v) u) :
    ArmFor flags0 classFile x code maxLocals ret World_1 tables_1 room_1 Calls_1 rest_1 Pre_1 Post := by
  intro l hfl _ _ p e ha hc hk s m args below hf hA hF happ hP
  obtain ⟨hcalls, hrest, hpre⟩ := hP
  obtain ⟨-, -, -, hnamed, -, -, -, hat⟩ := (Spec.applies_iff hf).mp happ
  obtain ⟨hg, hn⟩ := and_e (Cond.before_iff.mp (show (Jvm.Cond.and given_1 narrow_1).before args s = true from hpre))
  obtain ⟨hcount, hg⟩ := and_e hg
  obtain ⟨hk0, hg⟩ := and_e hg
  have hk1 := hg
  obtain ⟨w0, w1, rfl⟩ : ∃ w0 w1 : Value, args = #[w0, w1] := by
    have hs : args.size = 2 := by simpa [Cond.value, given_1] using hcount
    obtain ⟨L⟩ := args
    match L, hs with
    | [w0, w1], _ => exact ⟨w0, w1, rfl⟩
  have hw := fun d (hd : d ∈ tables_1) => atoms_spec (ws := Jvm.Cond.code x code maxLocals ret :: tables_1) hat d (List.mem_cons_of_mem _ hd)
  obtain ⟨i0, ei0⟩ := is_v hk0
  obtain rfl : w0 = (.int i0) := Option.some.inj ei0
  obtain ⟨i1, ei1⟩ := is_v hk1
  obtain rfl : w1 = (.int i1) := Option.some.inj ei1
  obtain ⟨hn0, hn⟩ := and_e hn
  obtain ⟨hn1, hn⟩ := and_e hn
  obtain ⟨hn2, hn⟩ := and_e hn
  obtain ⟨hn3, hn⟩ := and_e hn
  obtain ⟨hn4, hn⟩ := and_e hn
  obtain ⟨hn5, hn⟩ := and_e hn
  obtain ⟨hn6, hn⟩ := and_e hn
  obtain ⟨hn7, hn⟩ := and_e hn
  obtain ⟨hn8, hn⟩ := and_e hn
  obtain ⟨hn9, hn⟩ := and_e hn
  obtain ⟨hn10, hn⟩ := and_e hn
  obtain ⟨hn11, hn⟩ := and_e hn
  obtain ⟨hn12, hn⟩ := and_e hn
  obtain ⟨hn13, hn⟩ := and_e hn
  obtain ⟨hn14, hn⟩ := and_e hn
  obtain ⟨hn15, hn⟩ := and_e hn
  obtain ⟨hn16, hn⟩ := and_e hn
  obtain ⟨hn17, hn⟩ := and_e hn
  obtain ⟨hn18, hn⟩ := and_e hn
  obtain ⟨hn19, hn⟩ := and_e hn
  obtain ⟨hn20, hn⟩ := and_e hn
  obtain ⟨hn21, hn⟩ := and_e hn
  obtain ⟨hn22, hn⟩ := and_e hn
  obtain ⟨hn23, hn⟩ := and_e hn
  obtain ⟨hn24, hn⟩ := and_e hn
  obtain ⟨hn25, hn⟩ := and_e hn
  obtain ⟨hn26, hn⟩ := and_e hn
  have hn27 := hn
  obtain ⟨w_BYTE, ev_BYTE⟩ := exa_v hn0
  have E_BYTE := Exa.start ev_BYTE hn0
  have S_BYTE := Sta.start ev_BYTE (Or.inr ⟨(hw _ (List.mem_of_getElem? (i := 3) rfl)), (hw _ (List.mem_of_getElem? (i := 4) rfl))⟩)
  obtain ⟨w_SHORT, ev_SHORT⟩ := exa_v hn1
  have E_SHORT := Exa.start ev_SHORT hn1
  have S_SHORT := Sta.start ev_SHORT (Or.inr ⟨(hw _ (List.mem_of_getElem? (i := 3) rfl)), (hw _ (List.mem_of_getElem? (i := 7) rfl))⟩)
  obtain ⟨w_CHAR, ev_CHAR⟩ := exa_v hn2
  have E_CHAR := Exa.start ev_CHAR hn2
  have S_CHAR := Sta.start ev_CHAR (Or.inr ⟨(hw _ (List.mem_of_getElem? (i := 3) rfl)), (hw _ (List.mem_of_getElem? (i := 9) rfl))⟩)
  obtain ⟨w_INT, ev_INT⟩ := exa_v hn3
  have E_INT := Exa.start ev_INT hn3
  have S_INT := Sta.start ev_INT (Or.inr ⟨(hw _ (List.mem_of_getElem? (i := 3) rfl)), (hw _ (List.mem_of_getElem? (i := 11) rfl))⟩)
  obtain ⟨w_LONG, ev_LONG⟩ := exa_v hn4
  have E_LONG := Exa.start ev_LONG hn4
  have S_LONG := Sta.start ev_LONG (Or.inr ⟨(hw _ (List.mem_of_getElem? (i := 3) rfl)), (hw _ (List.mem_of_getElem? (i := 13) rfl))⟩)
  obtain ⟨w_FLOAT, ev_FLOAT⟩ := exa_v hn5
  have E_FLOAT := Exa.start ev_FLOAT hn5
  have S_FLOAT := Sta.start ev_FLOAT (Or.inr ⟨(hw _ (List.mem_of_getElem? (i := 3) rfl)), (hw _ (List.mem_of_getElem? (i := 15) rfl))⟩)
  obtain ⟨w_DOUBLE, ev_DOUBLE⟩ := exa_v hn6
  have E_DOUBLE := Exa.start ev_DOUBLE hn6
  have S_DOUBLE := Sta.start ev_DOUBLE (Or.inr ⟨(hw _ (List.mem_of_getElem? (i := 3) rfl)), (hw _ (List.mem_of_getElem? (i := 17) rfl))⟩)
  obtain ⟨w_BOOLEAN, ev_BOOLEAN⟩ := exa_v hn7
  have E_BOOLEAN := Exa.start ev_BOOLEAN hn7
  have S_BOOLEAN := Sta.start ev_BOOLEAN (Or.inr ⟨(hw _ (List.mem_of_getElem? (i := 3) rfl)), (hw _ (List.mem_of_getElem? (i := 19) rfl))⟩)
  obtain ⟨w_VOID, ev_VOID⟩ := exa_v hn8
  have E_VOID := Exa.start ev_VOID hn8
  have S_VOID := Sta.start ev_VOID (Or.inr ⟨(hw _ (List.mem_of_getElem? (i := 3) rfl)), (hw _ (List.mem_of_getElem? (i := 21) rfl))⟩)
  obtain ⟨w_CLASS, ev_CLASS⟩ := exa_v hn9
  have E_CLASS := Exa.start ev_CLASS hn9
  have S_CLASS := Sta.start ev_CLASS (Or.inr ⟨(hw _ (List.mem_of_getElem? (i := 3) rfl)), (hw _ (List.mem_of_getElem? (i := 23) rfl))⟩)
  obtain ⟨w_PROGRAM_CLASS, ev_PROGRAM_CLASS⟩ := exa_v hn10
  have E_PROGRAM_CLASS := Exa.start ev_PROGRAM_CLASS hn10
  have S_PROGRAM_CLASS := Sta.start ev_PROGRAM_CLASS (Or.inr ⟨(hw _ (List.mem_of_getElem? (i := 3) rfl)), (hw _ (List.mem_of_getElem? (i := 25) rfl))⟩)
  obtain ⟨w_ARRAY, ev_ARRAY⟩ := exa_v hn11
  have E_ARRAY := Exa.start ev_ARRAY hn11
  have S_ARRAY := Sta.start ev_ARRAY (Or.inr ⟨(hw _ (List.mem_of_getElem? (i := 3) rfl)), (hw _ (List.mem_of_getElem? (i := 27) rfl))⟩)
  obtain ⟨w_NULL, ev_NULL⟩ := exa_v hn12
  have E_NULL := Exa.start ev_NULL hn12
  have S_NULL := Sta.start ev_NULL (Or.inr ⟨(hw _ (List.mem_of_getElem? (i := 3) rfl)), (hw _ (List.mem_of_getElem? (i := 29) rfl))⟩)
  obtain ⟨w_ERROR, ev_ERROR⟩ := exa_v hn13
  have E_ERROR := Exa.start ev_ERROR hn13
  have S_ERROR := Sta.start ev_ERROR (Or.inr ⟨(hw _ (List.mem_of_getElem? (i := 3) rfl)), (hw _ (List.mem_of_getElem? (i := 31) rfl))⟩)
  have F_ordinal_PROGRAM_CLASS := own_fld ev_PROGRAM_CLASS hn14
  have F_ordinal_BYTE := own_fld ev_BYTE hn15
  have F_ordinal_SHORT := own_fld ev_SHORT hn16
  have F_ordinal_CHAR := own_fld ev_CHAR hn17
  have F_ordinal_VOID := own_fld ev_VOID hn18
  have F_ordinal_LONG := own_fld ev_LONG hn19
  have F_ordinal_ARRAY := own_fld ev_ARRAY hn20
  have F_ordinal_DOUBLE := own_fld ev_DOUBLE hn21
  have F_ordinal_NULL := own_fld ev_NULL hn22
  have F_ordinal_BOOLEAN := own_fld ev_BOOLEAN hn23
  have F_ordinal_INT := own_fld ev_INT hn24
  have F_ordinal_FLOAT := own_fld ev_FLOAT hn25
  have F_ordinal_ERROR := own_fld ev_ERROR hn26
  have F_ordinal_CLASS := own_fld ev_CLASS hn27
  have ne_SHORT_BYTE : ¬ (w_SHORT = w_BYTE) := Fld.ne F_ordinal_SHORT F_ordinal_BYTE (by decide)
  have ne_CHAR_BYTE : ¬ (w_CHAR = w_BYTE) := Fld.ne F_ordinal_CHAR F_ordinal_BYTE (by decide)
  have ne_CHAR_SHORT : ¬ (w_CHAR = w_SHORT) := Fld.ne F_ordinal_CHAR F_ordinal_SHORT (by decide)
  have ne_INT_BYTE : ¬ (w_INT = w_BYTE) := Fld.ne F_ordinal_INT F_ordinal_BYTE (by decide)
  have ne_INT_SHORT : ¬ (w_INT = w_SHORT) := Fld.ne F_ordinal_INT F_ordinal_SHORT (by decide)
  have ne_INT_CHAR : ¬ (w_INT = w_CHAR) := Fld.ne F_ordinal_INT F_ordinal_CHAR (by decide)
  have ne_LONG_BYTE : ¬ (w_LONG = w_BYTE) := Fld.ne F_ordinal_LONG F_ordinal_BYTE (by decide)
  have ne_LONG_SHORT : ¬ (w_LONG = w_SHORT) := Fld.ne F_ordinal_LONG F_ordinal_SHORT (by decide)
  have ne_LONG_CHAR : ¬ (w_LONG = w_CHAR) := Fld.ne F_ordinal_LONG F_ordinal_CHAR (by decide)
  have ne_FLOAT_BYTE : ¬ (w_FLOAT = w_BYTE) := Fld.ne F_ordinal_FLOAT F_ordinal_BYTE (by decide)
  have ne_FLOAT_SHORT : ¬ (w_FLOAT = w_SHORT) := Fld.ne F_ordinal_FLOAT F_ordinal_SHORT (by decide)
  have ne_FLOAT_CHAR : ¬ (w_FLOAT = w_CHAR) := Fld.ne F_ordinal_FLOAT F_ordinal_CHAR (by decide)
  have ne_DOUBLE_BYTE : ¬ (w_DOUBLE = w_BYTE) := Fld.ne F_ordinal_DOUBLE F_ordinal_BYTE (by decide)
  have ne_DOUBLE_SHORT : ¬ (w_DOUBLE = w_SHORT) := Fld.ne F_ordinal_DOUBLE F_ordinal_SHORT (by decide)
  have ne_DOUBLE_CHAR : ¬ (w_DOUBLE = w_CHAR) := Fld.ne F_ordinal_DOUBLE F_ordinal_CHAR (by decide)
  have ne_BOOLEAN_BYTE : ¬ (w_BOOLEAN = w_BYTE) := Fld.ne F_ordinal_BOOLEAN F_ordinal_BYTE (by decide)
  have ne_BOOLEAN_SHORT : ¬ (w_BOOLEAN = w_SHORT) := Fld.ne F_ordinal_BOOLEAN F_ordinal_SHORT (by decide)
  have ne_BOOLEAN_CHAR : ¬ (w_BOOLEAN = w_CHAR) := Fld.ne F_ordinal_BOOLEAN F_ordinal_CHAR (by decide)
  have ne_VOID_BYTE : ¬ (w_VOID = w_BYTE) := Fld.ne F_ordinal_VOID F_ordinal_BYTE (by decide)
  have ne_VOID_SHORT : ¬ (w_VOID = w_SHORT) := Fld.ne F_ordinal_VOID F_ordinal_SHORT (by decide)
  have ne_VOID_CHAR : ¬ (w_VOID = w_CHAR) := Fld.ne F_ordinal_VOID F_ordinal_CHAR (by decide)
  have ne_CLASS_BYTE : ¬ (w_CLASS = w_BYTE) := Fld.ne F_ordinal_CLASS F_ordinal_BYTE (by decide)
  have ne_CLASS_SHORT : ¬ (w_CLASS = w_SHORT) := Fld.ne F_ordinal_CLASS F_ordinal_SHORT (by decide)
  have ne_CLASS_CHAR : ¬ (w_CLASS = w_CHAR) := Fld.ne F_ordinal_CLASS F_ordinal_CHAR (by decide)
  have ne_PROGRAM_CLASS_BYTE : ¬ (w_PROGRAM_CLASS = w_BYTE) := Fld.ne F_ordinal_PROGRAM_CLASS F_ordinal_BYTE (by decide)
  have ne_PROGRAM_CLASS_SHORT : ¬ (w_PROGRAM_CLASS = w_SHORT) := Fld.ne F_ordinal_PROGRAM_CLASS F_ordinal_SHORT (by decide)
  have ne_PROGRAM_CLASS_CHAR : ¬ (w_PROGRAM_CLASS = w_CHAR) := Fld.ne F_ordinal_PROGRAM_CLASS F_ordinal_CHAR (by decide)
  have ne_ARRAY_BYTE : ¬ (w_ARRAY = w_BYTE) := Fld.ne F_ordinal_ARRAY F_ordinal_BYTE (by decide)
  have ne_ARRAY_SHORT : ¬ (w_ARRAY = w_SHORT) := Fld.ne F_ordinal_ARRAY F_ordinal_SHORT (by decide)
  have ne_ARRAY_CHAR : ¬ (w_ARRAY = w_CHAR) := Fld.ne F_ordinal_ARRAY F_ordinal_CHAR (by decide)
  have ne_NULL_BYTE : ¬ (w_NULL = w_BYTE) := Fld.ne F_ordinal_NULL F_ordinal_BYTE (by decide)
  have ne_NULL_SHORT : ¬ (w_NULL = w_SHORT) := Fld.ne F_ordinal_NULL F_ordinal_SHORT (by decide)
  have ne_NULL_CHAR : ¬ (w_NULL = w_CHAR) := Fld.ne F_ordinal_NULL F_ordinal_CHAR (by decide)
  have ne_ERROR_BYTE : ¬ (w_ERROR = w_BYTE) := Fld.ne F_ordinal_ERROR F_ordinal_BYTE (by decide)
  have ne_ERROR_SHORT : ¬ (w_ERROR = w_SHORT) := Fld.ne F_ordinal_ERROR F_ordinal_SHORT (by decide)
  have ne_ERROR_CHAR : ¬ (w_ERROR = w_CHAR) := Fld.ne F_ordinal_ERROR F_ordinal_CHAR (by decide)
  obtain ⟨n, o, h1, h2, h3, _, L, rfl, ⟨rfl, N⟩, hq⟩ := rm0 l s _ hw tables_1 i0 i1 w_BYTE w_SHORT w_CHAR w_INT w_LONG w_FLOAT w_DOUBLE w_BOOLEAN w_VOID w_CLASS w_PROGRAM_CLASS w_ARRAY w_NULL w_ERROR s.heap s.heap.size (Nat.le_refl _) S_BYTE S_SHORT S_CHAR S_INT S_LONG S_FLOAT S_DOUBLE S_BOOLEAN S_VOID S_CLASS S_PROGRAM_CLASS S_ARRAY S_NULL S_ERROR E_BYTE E_SHORT E_CHAR E_INT E_LONG E_FLOAT E_DOUBLE E_BOOLEAN E_VOID E_CLASS E_PROGRAM_CLASS E_ARRAY E_NULL E_ERROR ne_SHORT_BYTE ne_CHAR_BYTE ne_CHAR_SHORT ne_INT_BYTE ne_INT_SHORT ne_INT_CHAR ne_LONG_BYTE ne_LONG_SHORT ne_LONG_CHAR ne_FLOAT_BYTE ne_FLOAT_SHORT ne_FLOAT_CHAR ne_DOUBLE_BYTE ne_DOUBLE_SHORT ne_DOUBLE_CHAR ne_BOOLEAN_BYTE ne_BOOLEAN_SHORT ne_BOOLEAN_CHAR ne_VOID_BYTE ne_VOID_SHORT ne_VOID_CHAR ne_CLASS_BYTE ne_CLASS_SHORT ne_CLASS_CHAR ne_PROGRAM_CLASS_BYTE ne_PROGRAM_CLASS_SHORT ne_PROGRAM_CLASS_CHAR ne_ARRAY_BYTE ne_ARRAY_SHORT ne_ARRAY_CHAR ne_NULL_BYTE ne_NULL_SHORT ne_NULL_CHAR ne_ERROR_BYTE ne_ERROR_SHORT ne_ERROR_CHAR p e ha hc hk s m _ below hf ((Spec.applies_iff_loose hf).mp happ).1 ⟨rfl, State.Warmed39.refl s, rfl⟩ trivial
  refine ⟨n, _, h1, h2, h3, hpost _ _ _ _ _ _ ⟨Cond.after_iff.mpr rfl, Cond.after_iff.mpr (eq_i res_at (Term.int_eval (1)) rfl), trivial⟩ ⟨hq.1, hq.2.1, (hq.2.2.sift fun y hy => Or.inr (N y hy)).mono (by decide) (by decide)⟩⟩
theorem main_1_1 : Claimed_1_1 := comes_1 fun _ _ _ _ _ _ h hF => ⟨h.1, hF⟩
theorem main_1_2 : Claimed_1_2 := comes_1 fun _ _ _ _ _ _ h hF => ⟨h.2.1, hF⟩
end Jvm.Pilot.@@N@@
namespace Jvm.Pilot.@@N@@
open Jvm Jvm.ClassFile Sem Op Lib Jvm.Free Jvm.Stand Jvm.Pilot.@@N@@.Jvm.D
/-! MADE BY PROGRAM (witnessworld.py) out of the Statement's table words and the real class files: 13 classes; the members and pool entries that the words name. The judged class is class 1, her method 1. -/
namespace start1
open Jvm.ClassFile
def u (s : String) : CpInfo := .utf8 (stringToUtf16 s)
/-- a pool by its gaps: so many unusable entries, then the entry; so many at the end -/
def gap : Nat → List CpInfo → List CpInfo
  | 0, r => r
  | n + 1, r => .unusable :: gap n r
def poolList (es : List (Nat × CpInfo)) (last : Nat) : List CpInfo := es.foldr (fun e r => gap e.1 (e.2 :: r)) (gap last [])
def pool (es : List (Nat × CpInfo)) (last : Nat) : Array CpInfo := ⟨poolList es last⟩
def fileOf (pool : Array CpInfo) (this : Nat) (attrs : Array Attribute := #[]) (ms : Array MethodInfo := #[]) (fl : Nat := 33) (sup : Nat := 0) (ifs : Array Nat := #[]) (fds : Array FieldInfo := #[]) : ClassFile where
  minorVersion := 0
  majorVersion := 65
  constantPool := pool
  accessFlags := fl
  thisClass := this
  superClass := sup
  interfaces := ifs
  fields := fds
  methods := ms
  attributes := attrs
def plain (name : String) (sup : Option ClassId) : Class where
  name := name
  kind := .ordinary
  loader := none
  accessFlags := 33
  super := sup
  interfaces := #[]
  cf := none
  fields := #[]
  methods := #[]
  instanceTypes := #[]
  staticTypes := #[]
  resolved := #[]
  callSites := []
  init := .initialized
  statics := none
  mirror := none

def pool0 : Array CpInfo := pool [(5, u "<init>"), (0, u "()V"), (1, .class_ 10), (1, u "java/lang/Object")] 113

def k0m0 : Method := { name := "<init>", desc := "()V", sig := { parameters := [], returnType := none }, accessFlags := 1, code := none }
/-- java/lang/Object -/
def k0 : Class := { plain "java/lang/Object" none with
  accessFlags := 33
  interfaces := #[]
  cf := some (fileOf pool0 8 #[] #[{ accessFlags := 1, nameIndex := 5, descriptorIndex := 6, attributes := #[] }] 33 0 #[] #[])
  fields := #[]
  methods := #[k0m0]
  instanceTypes := #[]
  staticTypes := #[]
  resolved := Array.replicate 124 none
  statics := none }

def pool1 : Array CpInfo := pool [(2, .class_ 4), (1, u "java/lang/Object"), (0, u "<init>"), (0, u "()V"), (0, .class_ 8), (0, u "com/example/subscript/subscript/Type$Kind"), (0, .fieldref 7 10), (0, .nameAndType 11 12), (0, u "BYTE"), (0, u "Lcom/example/subscript/subscript/Type$Kind;"), (0, .fieldref 7 14), (0, .nameAndType 15 12), (0, u "SHORT"), (0, .fieldref 7 17), (0, .nameAndType 18 12), (0, u "CHAR"), (0, .fieldref 7 20), (0, .nameAndType 21 12), (0, u "INT"), (0, .fieldref 7 23), (0, .nameAndType 24 12), (0, u "LONG"), (0, .fieldref 7 26), (0, .nameAndType 27 12), (0, u "FLOAT"), (0, .fieldref 7 29), (0, .nameAndType 30 12), (0, u "DOUBLE"), (0, .fieldref 7 32), (0, .nameAndType 33 12), (0, u "BOOLEAN"), (0, .fieldref 7 35), (0, .nameAndType 36 12), (0, u "VOID"), (0, .fieldref 7 38), (0, .nameAndType 39 12), (0, u "CLASS"), (0, .fieldref 7 41), (0, .nameAndType 42 12), (0, u "PROGRAM_CLASS"), (0, .fieldref 7 44), (0, .nameAndType 45 12), (0, u "ARRAY"), (0, .fieldref 7 47), (0, .nameAndType 48 12), (0, u "NULL"), (0, .fieldref 7 50), (0, .nameAndType 51 12), (0, u "ERROR"), (0, .integer 2147483647), (0, .methodref 7 54), (0, .nameAndType 55 56), (0, u "narrow"), (0, u "(I)I"), (0, .integer 65535), (0, .integer 32768), (0, .class_ 60), (0, u "com/example/subscript/subscript/KindNarrowPinLaw"), (2, u "law"), (0, u "(II)Z")] 9

def k1m0 : Method := { name := "<init>", desc := "()V", sig := { parameters := [], returnType := none }, accessFlags := 1, code := none }
def k1c1 : Code := { maxStack := 4, maxLocals := 7, code := code, exceptionTable := #[], attributes := #[] }
def k1m1 : Method := { name := "law", desc := "(II)Z", sig := { parameters := [.int, .int], returnType := some .boolean }, accessFlags := 9, code := some k1c1 }
/-- com/example/subscript/subscript/KindNarrowPinLaw -/
def k1 : Class := { plain "com/example/subscript/subscript/KindNarrowPinLaw" (some 0) with
  accessFlags := 49
  interfaces := #[]
  cf := some (fileOf pool1 59 #[] #[{ accessFlags := 1, nameIndex := 5, descriptorIndex := 6, attributes := #[] }, { accessFlags := 9, nameIndex := 63, descriptorIndex := 64, attributes := #[] }] 49 2 #[] #[])
  fields := #[]
  methods := #[k1m0, k1m1]
  instanceTypes := #[]
  staticTypes := #[]
  resolved := Array.replicate 74 none
  statics := none }

def pool2 : Array CpInfo := pool [(1, .class_ 2), (0, u "java/lang/constant/Constable"), (0, .class_ 4), (0, u "java/lang/Object")] 6

/-- java/lang/constant/Constable -/
def k2 : Class := { plain "java/lang/constant/Constable" (some 0) with
  accessFlags := 1537
  interfaces := #[]
  cf := some (fileOf pool2 1 #[] #[] 1537 3 #[] #[])
  fields := #[]
  methods := #[]
  instanceTypes := #[]
  staticTypes := #[]
  resolved := Array.replicate 11 none
  statics := none }

def pool3 : Array CpInfo := pool [(1, .class_ 2), (0, u "java/lang/Comparable"), (0, .class_ 4), (0, u "java/lang/Object")] 7

/-- java/lang/Comparable -/
def k3 : Class := { plain "java/lang/Comparable" (some 0) with
  accessFlags := 1537
  interfaces := #[]
  cf := some (fileOf pool3 1 #[] #[] 1537 3 #[] #[])
  fields := #[]
  methods := #[]
  instanceTypes := #[]
  staticTypes := #[]
  resolved := Array.replicate 12 none
  statics := none }

def pool4 : Array CpInfo := pool [(1, .class_ 2), (0, u "java/io/Serializable"), (0, .class_ 4), (0, u "java/lang/Object")] 2

/-- java/io/Serializable -/
def k4 : Class := { plain "java/io/Serializable" (some 0) with
  accessFlags := 1537
  interfaces := #[]
  cf := some (fileOf pool4 1 #[] #[] 1537 3 #[] #[])
  fields := #[]
  methods := #[]
  instanceTypes := #[]
  staticTypes := #[]
  resolved := Array.replicate 7 none
  statics := none }

def pool5 : Array CpInfo := pool [(2, .class_ 4), (1, u "java/lang/Enum"), (0, u "name"), (0, u "Ljava/lang/String;"), (2, u "ordinal"), (0, u "I"), (1, .class_ 14), (1, u "java/lang/Object"), (4, u "hash"), (86, .class_ 108), (1, u "java/lang/Enum$EnumDesc"), (2, .class_ 112), (0, u "java/lang/constant/Constable"), (0, .class_ 114), (0, u "java/lang/Comparable"), (0, .class_ 116), (0, u "java/io/Serializable")] 87

/-- java/lang/Enum -/
def k5 : Class := { plain "java/lang/Enum" (some 0) with
  accessFlags := 1057
  interfaces := #[2, 3, 4]
  cf := some (fileOf pool5 2 #[.nestMembers #[106]] #[] 1057 12 #[111, 113, 115] #[{ accessFlags := 18, nameIndex := 5, descriptorIndex := 6, attributes := #[] }, { accessFlags := 18, nameIndex := 9, descriptorIndex := 10, attributes := #[] }, { accessFlags := 2, nameIndex := 19, descriptorIndex := 10, attributes := #[] }])
  fields := #[{ name := "name", type := (.object "java/lang/String"), accessFlags := 18, slot := 0, constantValue := 0 }, { name := "ordinal", type := .int, accessFlags := 18, slot := 1, constantValue := 0 }, { name := "hash", type := .int, accessFlags := 2, slot := 2, constantValue := 0 }]
  methods := #[]
  instanceTypes := #[(.object "java/lang/String"), .int, .int]
  staticTypes := #[]
  resolved := Array.replicate 204 none
  statics := none }

def pool6 : Array CpInfo := pool [(1, .class_ 2), (0, u "com/example/subscript/subscript/Type$Kind"), (0, .fieldref 1 4), (0, .nameAndType 5 6), (0, u "BYTE"), (0, u "Lcom/example/subscript/subscript/Type$Kind;"), (0, .fieldref 1 8), (0, .nameAndType 9 6), (0, u "SHORT"), (0, .fieldref 1 11), (0, .nameAndType 12 6), (0, u "CHAR"), (2, u "INT"), (2, u "LONG"), (2, u "FLOAT"), (2, u "DOUBLE"), (2, u "BOOLEAN"), (2, u "VOID"), (2, u "CLASS"), (2, u "PROGRAM_CLASS"), (2, u "ARRAY"), (2, u "NULL"), (2, u "ERROR"), (2, u "$VALUES"), (0, u "[Lcom/example/subscript/subscript/Type$Kind;"), (6, .class_ 58), (1, u "java/lang/Enum"), (8, u "rank"), (0, u "I"), (31, u "narrow"), (0, u "(I)I"), (6, .class_ 109), (0, u "com/example/subscript/subscript/Type")] 2

def k6c0 : Code := { maxStack := 2, maxLocals := 3, code := prog_193_method_5_code, exceptionTable := #[], attributes := #[] }
def k6m0 : Method := { name := "narrow", desc := "(I)I", sig := { parameters := [.int], returnType := some .int }, accessFlags := 0, code := some k6c0 }
/-- com/example/subscript/subscript/Type$Kind -/
def k6 : Class := { plain "com/example/subscript/subscript/Type$Kind" (some 5) with
  accessFlags := 16432
  interfaces := #[]
  cf := some (fileOf pool6 1 #[.nestHost 108] #[{ accessFlags := 0, nameIndex := 100, descriptorIndex := 101, attributes := #[] }] 16432 56 #[] #[{ accessFlags := 16409, nameIndex := 5, descriptorIndex := 6, attributes := #[] }, { accessFlags := 16409, nameIndex := 9, descriptorIndex := 6, attributes := #[] }, { accessFlags := 16409, nameIndex := 12, descriptorIndex := 6, attributes := #[] }, { accessFlags := 16409, nameIndex := 15, descriptorIndex := 6, attributes := #[] }, { accessFlags := 16409, nameIndex := 18, descriptorIndex := 6, attributes := #[] }, { accessFlags := 16409, nameIndex := 21, descriptorIndex := 6, attributes := #[] }, { accessFlags := 16409, nameIndex := 24, descriptorIndex := 6, attributes := #[] }, { accessFlags := 16409, nameIndex := 27, descriptorIndex := 6, attributes := #[] }, { accessFlags := 16409, nameIndex := 30, descriptorIndex := 6, attributes := #[] }, { accessFlags := 16409, nameIndex := 33, descriptorIndex := 6, attributes := #[] }, { accessFlags := 16409, nameIndex := 36, descriptorIndex := 6, attributes := #[] }, { accessFlags := 16409, nameIndex := 39, descriptorIndex := 6, attributes := #[] }, { accessFlags := 16409, nameIndex := 42, descriptorIndex := 6, attributes := #[] }, { accessFlags := 16409, nameIndex := 45, descriptorIndex := 6, attributes := #[] }, { accessFlags := 16, nameIndex := 67, descriptorIndex := 68, attributes := #[] }, { accessFlags := 4122, nameIndex := 48, descriptorIndex := 49, attributes := #[] }])
  fields := #[{ name := "BYTE", type := (.object "com/example/subscript/subscript/Type$Kind"), accessFlags := 16409, slot := 0, constantValue := 0 }, { name := "SHORT", type := (.object "com/example/subscript/subscript/Type$Kind"), accessFlags := 16409, slot := 1, constantValue := 0 }, { name := "CHAR", type := (.object "com/example/subscript/subscript/Type$Kind"), accessFlags := 16409, slot := 2, constantValue := 0 }, { name := "INT", type := (.object "com/example/subscript/subscript/Type$Kind"), accessFlags := 16409, slot := 3, constantValue := 0 }, { name := "LONG", type := (.object "com/example/subscript/subscript/Type$Kind"), accessFlags := 16409, slot := 4, constantValue := 0 }, { name := "FLOAT", type := (.object "com/example/subscript/subscript/Type$Kind"), accessFlags := 16409, slot := 5, constantValue := 0 }, { name := "DOUBLE", type := (.object "com/example/subscript/subscript/Type$Kind"), accessFlags := 16409, slot := 6, constantValue := 0 }, { name := "BOOLEAN", type := (.object "com/example/subscript/subscript/Type$Kind"), accessFlags := 16409, slot := 7, constantValue := 0 }, { name := "VOID", type := (.object "com/example/subscript/subscript/Type$Kind"), accessFlags := 16409, slot := 8, constantValue := 0 }, { name := "CLASS", type := (.object "com/example/subscript/subscript/Type$Kind"), accessFlags := 16409, slot := 9, constantValue := 0 }, { name := "PROGRAM_CLASS", type := (.object "com/example/subscript/subscript/Type$Kind"), accessFlags := 16409, slot := 10, constantValue := 0 }, { name := "ARRAY", type := (.object "com/example/subscript/subscript/Type$Kind"), accessFlags := 16409, slot := 11, constantValue := 0 }, { name := "NULL", type := (.object "com/example/subscript/subscript/Type$Kind"), accessFlags := 16409, slot := 12, constantValue := 0 }, { name := "ERROR", type := (.object "com/example/subscript/subscript/Type$Kind"), accessFlags := 16409, slot := 13, constantValue := 0 }, { name := "rank", type := .int, accessFlags := 16, slot := 3, constantValue := 0 }, { name := "$VALUES", type := (.array (.object "com/example/subscript/subscript/Type$Kind")), accessFlags := 4122, slot := 14, constantValue := 0 }]
  methods := #[k6m0]
  instanceTypes := #[(.object "java/lang/String"), .int, .int, .int]
  staticTypes := #[(.object "com/example/subscript/subscript/Type$Kind"), (.object "com/example/subscript/subscript/Type$Kind"), (.object "com/example/subscript/subscript/Type$Kind"), (.object "com/example/subscript/subscript/Type$Kind"), (.object "com/example/subscript/subscript/Type$Kind"), (.object "com/example/subscript/subscript/Type$Kind"), (.object "com/example/subscript/subscript/Type$Kind"), (.object "com/example/subscript/subscript/Type$Kind"), (.object "com/example/subscript/subscript/Type$Kind"), (.object "com/example/subscript/subscript/Type$Kind"), (.object "com/example/subscript/subscript/Type$Kind"), (.object "com/example/subscript/subscript/Type$Kind"), (.object "com/example/subscript/subscript/Type$Kind"), (.object "com/example/subscript/subscript/Type$Kind"), (.array (.object "com/example/subscript/subscript/Type$Kind"))]
  resolved := Array.replicate 112 none
  statics := some 0 }

def pool7 : Array CpInfo := pool [(1, u "java/lang/Cloneable"), (0, .class_ 1), (0, u "java/lang/Object"), (0, .class_ 3)] 3

/-- java/lang/Cloneable -/
def k7 : Class := { plain "java/lang/Cloneable" (some 0) with
  accessFlags := 1537
  interfaces := #[]
  cf := some (fileOf pool7 2 #[] #[] 1537 4 #[] #[])
  fields := #[]
  methods := #[]
  instanceTypes := #[]
  staticTypes := #[]
  resolved := Array.replicate 8 none
  statics := none }

/-- the primitive byte -/
def k8 : Class := { plain "byte" none with kind := .primitive 'B', accessFlags := 0x411 }
/-- [B -/
def k9 : Class := { plain "[B" (some 0) with kind := .array 8 .byte, interfaces := #[7, 4], accessFlags := 1041 }

/-- the primitive int -/
def k10 : Class := { plain "int" none with kind := .primitive 'I', accessFlags := 0x411 }
/-- [I -/
def k11 : Class := { plain "[I" (some 0) with kind := .array 10 .int, interfaces := #[7, 4], accessFlags := 1041 }

/-- [Lcom/example/subscript/subscript/Type$Kind; -/
def k12 : Class := { plain "[Lcom/example/subscript/subscript/Type$Kind;" (some 0) with kind := .array 6 (.object "com/example/subscript/subscript/Type$Kind"), interfaces := #[7, 4], accessFlags := 1041 }

def heap : Heap := #[{ cls := 6, slots := #[.ref 1, .ref 2, .ref 3, .ref 4, .ref 5, .ref 6, .ref 7, .ref 8, .ref 9, .ref 10, .ref 11, .ref 12, .ref 13, .ref 14, .null], vm := .statics 6 },
  { cls := 6, slots := #[.null, .int 0, .int 0, .int 0], vm := .none },
  { cls := 6, slots := #[.null, .int 1, .int 0, .int 1], vm := .none },
  { cls := 6, slots := #[.null, .int 2, .int 0, .int 1], vm := .none },
  { cls := 6, slots := #[.null, .int 3, .int 0, .int 2], vm := .none },
  { cls := 6, slots := #[.null, .int 4, .int 0, .int 3], vm := .none },
  { cls := 6, slots := #[.null, .int 5, .int 0, .int 4], vm := .none },
  { cls := 6, slots := #[.null, .int 6, .int 0, .int 5], vm := .none },
  { cls := 6, slots := #[.null, .int 7, .int 0, .int (-1)], vm := .none },
  { cls := 6, slots := #[.null, .int 8, .int 0, .int (-1)], vm := .none },
  { cls := 6, slots := #[.null, .int 9, .int 0, .int (-1)], vm := .none },
  { cls := 6, slots := #[.null, .int 10, .int 0, .int (-1)], vm := .none },
  { cls := 6, slots := #[.null, .int 11, .int 0, .int (-1)], vm := .none },
  { cls := 6, slots := #[.null, .int 12, .int 0, .int (-1)], vm := .none },
  { cls := 6, slots := #[.null, .int 13, .int 0, .int (-1)], vm := .none }]
def classes : Array Class := #[k0, k1, k2, k3, k4, k5, k6, k7, k8, k9, k10, k11, k12]
def interned : List (Array UInt16 × Addr) := []
def slotsUsed : Nat := 71
def theMethod : MethodId := ⟨1, 1⟩
def args0 : Array Value := #[.int 5, .int 300]
def aboutOver (below : List Frame) : State where
  vm := { classes := classes, interned := interned.toArray }
  heap := heap
  slotsUsed := slotsUsed
  threads := #[{ frames := .invoking theMethod args0 :: below }]
def below0 : List Frame := [.native { method := ⟨0, 0⟩, args := #[] }]
def about1 : State := aboutOver below0
def p0 : Program := .bare "" "" ""
def e0 : Env := launch0.env 0 0 0
theorem w_frames : about1.frames = Frame.invoking theMethod args0 :: below0 := rfl
set_option maxRecDepth 65536 in
theorem w_args : argsFit about1.vm theMethod args0 = true := by decide +kernel
set_option maxRecDepth 65536 in
theorem w_heap : heapFits about1 = true := by decide +kernel
set_option maxRecDepth 65536 in
theorem w_runnable : about1.curStatus? = some .runnable := by decide +kernel
set_option maxRecDepth 65536 in
theorem w_alone : about1.alone = true := by decide +kernel
set_option maxRecDepth 65536 in
theorem w_named : about1.methodNamed? x = some theMethod := by decide +kernel
set_option maxRecDepth 65536 in
theorem w_hears : about1.hears theMethod below0 = true := by decide +kernel
set_option maxRecDepth 65536 in
theorem w_ripe : about1.ripe theMethod args0 below0 = true := by decide +kernel
theorem w_running : about1.status = .running := rfl
set_option maxRecDepth 65536 in
theorem w_room : about1.hasRoom e0.platform room_1 = true :=
  launch0.hasRoom_least _ room_1 (by decide +kernel) (by decide +kernel) (by decide +kernel) (by decide +kernel) (by decide +kernel) (by decide +kernel)
theorem allAtoms_all (ts : List Jvm.Cond) (a : Array Jvm.Value) (st : Jvm.State) : (allAtoms ts).before a st = ts.all (fun c => c.before a st) := by
  induction ts with
  | nil => rfl
  | cons c t ih =>
    show (Jvm.Cond.and c (allAtoms t)).before a st = _
    rw [Jvm.Cond.before_and, ih, List.all_cons]
def words1 : List Jvm.Cond := Jvm.Cond.code x code maxLocals ret :: tables_1
/-- a 'code' word, met by the world's own term for the bytes: nothing is compared byte by byte -/
theorem code_word {y : MethodName} {bytes : ByteArray} {mx : Nat} {rt : Option FieldType} {a : Array Value} {s : State} {m : MethodId} {meth : Method} {c : Code} (h1 : s.methodNamed? y = some m) (h2 : s.vm.method? m = some meth) (h3 : meth.code = some c) (h4 : c.code = bytes)
    (h5 : (c.maxLocals == mx && c.exceptionTable.isEmpty && decide (c.maxStack ≤ mostOperands) && decide (meth.sig.returnType = rt) && !meth.locks && decide (parseMethodDescriptor y.desc = some meth.sig)) = true) : (Jvm.Cond.code y bytes mx rt).before a s = true := by
  simp only [Bool.and_eq_true, beq_iff_eq, Bool.not_eq_true', decide_eq_true_eq] at h5
  obtain ⟨⟨⟨⟨⟨g1, g2⟩, g3⟩, g4⟩, g5⟩, g6⟩ := h5
  simp [Cond.before, Cond.holds, Cond.value, h1, h2, h3, h4, g1, g2, g3, g4, g5, g6]
def isCode : Jvm.Cond → Bool
  | .code _ _ _ _ => true
  | _ => false
theorem all_split {L : List Jvm.Cond} {P : Jvm.Cond → Bool} (h1 : L.all (fun c => isCode c || P c) = true) (h2 : ∀ c ∈ L.filter isCode, P c = true) : L.all P = true := by
  refine List.all_eq_true.mpr fun c hc => ?_
  have h := List.all_eq_true.mp h1 c hc
  rcases Bool.eq_false_or_eq_true (isCode c) with hi | hi
  · exact h2 c (List.mem_filter.mpr ⟨hc, hi⟩)
  · simpa [hi] using h
set_option maxRecDepth 65536 in
theorem w_c0 : (Jvm.Cond.code x code maxLocals ret).before args0 about1 = true := code_word (m := ⟨1, 1⟩) (meth := k1m1) (c := k1c1) (by decide +kernel) rfl rfl rfl (by decide +kernel)
set_option maxRecDepth 65536 in
theorem w_c1 : (Jvm.Cond.code ({ cls := "com/example/subscript/subscript/Type$Kind", name := "narrow", desc := "(I)I" } : Jvm.MethodName) prog_193_method_5_code (3 : Nat) (Option.some Jvm.ClassFile.FieldType.int)).before args0 about1 = true := code_word (m := ⟨6, 0⟩) (meth := k6m0) (c := k6c0) (by decide +kernel) rfl rfl rfl (by decide +kernel)
def codes1 : List Jvm.Cond := [Jvm.Cond.code x code maxLocals ret, Jvm.Cond.code ({ cls := "com/example/subscript/subscript/Type$Kind", name := "narrow", desc := "(I)I" } : Jvm.MethodName) prog_193_method_5_code (3 : Nat) (Option.some Jvm.ClassFile.FieldType.int)]
set_option maxRecDepth 65536 in
theorem codes_eq : words1.filter isCode = codes1 := rfl
theorem w_codes : ∀ c ∈ words1.filter isCode, c.before args0 about1 = true := by
  rw [codes_eq]
  intro c hc
  simp only [codes1, List.mem_cons, List.not_mem_nil, or_false] at hc
  rcases hc with rfl | rfl
  · exact w_c0
  · exact w_c1
set_option maxRecDepth 65536 in
theorem w_t1 : (words1.take 24).all (fun c => isCode c || c.before args0 about1) = true := by decide +kernel
set_option maxRecDepth 65536 in
theorem w_t2 : (words1.drop 24).all (fun c => isCode c || c.before args0 about1) = true := by decide +kernel
theorem w_tables : (allAtoms (Jvm.Cond.code x code maxLocals ret :: tables_1)).before args0 about1 = true := by
  rw [allAtoms_all]
  show words1.all (fun c => c.before args0 about1) = true
  refine all_split ?_ w_codes
  rw [← List.take_append_drop 24 words1, List.all_append, w_t1, w_t2]
  rfl
set_option maxRecDepth 65536 in
theorem w_case : (Jvm.Cond.and given_1 narrow_1).before args0 about1 = true := by decide +kernel
theorem w_applies : (headSpec (Jvm.Cond.code x code maxLocals ret :: tables_1) room_1).applies x e0.platform about1 = true :=
  (Spec.applies_iff w_frames).mpr ⟨w_running, w_runnable, w_alone, w_named, w_hears, w_ripe, w_room, w_tables⟩
theorem atStart : AtStart classFile x code maxLocals ret World_1 tables_1 room_1 Calls_1 rest_1 Pre_1 launch0 p0 e0 about1 theMethod args0 below0 :=
  ⟨lists_1, trivial, launch0.admits_env _ _ _, launch0.least_env, fairChoices_fair.cas, fairChoices_fair.clock, w_frames, w_args, w_heap, w_applies, trivial, trivial, w_case⟩
end start1
theorem witness_1 : WitnessClaimed_1 := ⟨start1.p0, start1.e0, start1.about1, start1.theMethod, start1.args0, start1.below0, start1.atStart⟩
end Jvm.Pilot.@@N@@
