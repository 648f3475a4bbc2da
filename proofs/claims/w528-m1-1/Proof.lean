import JvmDerived
import JvmDerived.Pilot.@@N@@Statement
import JvmDerived.Pilot.@@N@@Code
set_option linter.unusedVariables false
set_option linter.unusedSimpArgs false
namespace Jvm.Pilot.@@N@@
open Jvm Jvm.ClassFile Sem Op Lib Jvm.Free Jvm.Stand Jvm.LawKit Jvm.RoadKit Bundle Jvm.Pilot.@@N@@.Jvm.D
/-- what is left of a walk: from the frame g on, the run ends as K says -/
def own_G (p : Program) (e : Env) (below : List Frame) (s : State) (K : Option Value → Heap → List Loc → Prop) (nc ns : Nat) (T : State) (g : JFrame) : Prop :=
  ∃ s₂ o, Steps p.tables e below (T.setTop g) s₂ ∧ s₂.status = .running ∧ Ended s₂ below o ∧ ∃ v L, o = .returned v ∧ K v s₂.heap L ∧ FrameEnd s o s₂ L nc ns
section Own
variable {p : Program} {l : Launch} {e : Env} {R : Room} {s : State} {m : MethodId} {args : Array Value} {below : List Frame} {meth : Method} {c : Code} {T T' : State} {locs : List Loc} {cells slots : Nat} {K : Option Value → Heap → List Loc → Prop} {nc ns : Nat} {g g' : JFrame}
theorem own_s (h : ∀ t, Steps p.tables e below (T'.setTop g') t → Steps p.tables e below (T.setTop g) t) (k : own_G p e below s K nc ns T' g') : own_G p e below s K nc ns T g := by
  obtain ⟨s₂, o, h1, r⟩ := k
  exact ⟨s₂, o, h _ h1, r⟩
theorem own_trans (h : Steps p.tables e below (T.setTop g) (T'.setTop g')) (k : own_G p e below s K nc ns T' g') : own_G p e below s K nc ns T g := by
  obtain ⟨s₂, o, h1, r⟩ := k
  exact ⟨s₂, o, h.trans h1, r⟩
theorem own_cast (q : g = g') (k : own_G p e below s K nc ns T g') : own_G p e below s K nc ns T g := q ▸ k
theorem own_leave (X : Stand p l e R s m args below meth c T locs cells slots) {v : Option Value} (hlk : meth.locks = false) (hv : meth.sig.returnType = none → v = none) (hc : cells ≤ nc) (hn : slots ≤ ns) (hq : K v T.heap locs)
    (st : ∀ fs, (∀ (f : JFrame) (acts : List Action), f.method = m → f.locked = none → f.entered = [] → (doReturn e (T.setTop f) acts v).1 = T.setFrames fs) → Steps p.tables e below (T.setTop g) (T.setFrames fs)) : own_G p e below s K nc ns T g := by
  obtain ⟨fs, hr, hrun, hended, hW, hsame⟩ := X.leave (v := v) hv hlk
  exact ⟨_, _, st fs hr, hrun, hended, _, _, rfl, hq, ⟨_, rfl⟩, hW, hsame.mono hc hn⟩
theorem own_retN (X : Stand p l e R s m args below meth c T locs cells slots) (hx : p.tables.exec = Jvm.exec) (hlk : meth.locks = false) {pc : Nat} {Ls : Array Slot} {z z' : Int32} {t : FieldType} {rest : List Value} (hret : meth.sig.returnType = some t) (ht : t = .boolean ∨ t = .byte ∨ t = .char ∨ t = .short)
    (hd : decode c.code pc = .ok (.ireturn, 1)) (hz : nar t z = z') (hc : cells ≤ nc) (hn : slots ≤ ns) (hq : K (some (.int z')) T.heap locs) : own_G p e below s K nc ns T (mkF m pc Ls (.int z :: rest)) := by
  subst hz
  exact own_leave X hlk (fun h => by rw [hret] at h; cases h) hc hn hq fun fs hr => retN X hx hret ht hd hr
theorem own_retI (X : Stand p l e R s m args below meth c T locs cells slots) (hx : p.tables.exec = Jvm.exec) (hlk : meth.locks = false) {pc : Nat} {Ls : Array Slot} {z : Int32} {rest : List Value} (hret : meth.sig.returnType = some .int)
    (hd : decode c.code pc = .ok (.ireturn, 1)) (hc : cells ≤ nc) (hn : slots ≤ ns) (hq : K (some (.int z)) T.heap locs) : own_G p e below s K nc ns T (mkF m pc Ls (.int z :: rest)) :=
  own_leave X hlk (fun h => by rw [hret] at h; cases h) hc hn hq fun fs hr => retOut X hx hret rfl (Or.inl ⟨rfl, Or.inl rfl, _, rfl⟩) hd hr
theorem own_retJ (X : Stand p l e R s m args below meth c T locs cells slots) (hx : p.tables.exec = Jvm.exec) (hlk : meth.locks = false) {pc : Nat} {Ls : Array Slot} {z : Int64} {rest : List Value} (hret : meth.sig.returnType = some .long)
    (hd : decode c.code pc = .ok (.lreturn, 1)) (hc : cells ≤ nc) (hn : slots ≤ ns) (hq : K (some (.long z)) T.heap locs) : own_G p e below s K nc ns T (mkF m pc Ls (.long z :: rest)) :=
  own_leave X hlk (fun h => by rw [hret] at h; cases h) hc hn hq fun fs hr => retOut X hx hret rfl (Or.inr (Or.inl ⟨rfl, rfl, _, rfl⟩)) hd hr
theorem own_retR (X : Stand p l e R s m args below meth c T locs cells slots) (hx : p.tables.exec = Jvm.exec) (hlk : meth.locks = false) {pc : Nat} {Ls : Array Slot} {v : Value} {t : FieldType} {rest : List Value} (hret : meth.sig.returnType = some t) (ht : t.isReference = true) (hv : v.isRef = true) (hnv : narrow t v = v)
    (hd : decode c.code pc = .ok (.areturn, 1)) (hc : cells ≤ nc) (hn : slots ≤ ns) (hq : K (some v) T.heap locs) : own_G p e below s K nc ns T (mkF m pc Ls (v :: rest)) :=
  own_leave X hlk (fun h => by rw [hret] at h; cases h) hc hn hq fun fs hr => retOut X hx hret hnv (Or.inr (Or.inr (Or.inr (Or.inr ⟨rfl, ht, hv⟩)))) hd hr
theorem own_retV (X : Stand p l e R s m args below meth c T locs cells slots) (hx : p.tables.exec = Jvm.exec) (hlk : meth.locks = false) {pc : Nat} {Ls : Array Slot} (hret : meth.sig.returnType = none)
    (hd : decode c.code pc = .ok (.return_, 1)) (hc : cells ≤ nc) (hn : slots ≤ ns) (hq : K none T.heap locs) : own_G p e below s K nc ns T (mkF m pc Ls []) :=
  own_leave X hlk (fun _ => rfl) hc hn hq fun fs hr => X.returnOut hx hret hd hr
theorem own_selp {s : State} {args : Array Value} {y : MethodName} {n : Nat} (wi : (Jvm.Cond.instantiable y.cls n).before args s = true) (hp : (Jvm.Cond.privateMethod y).before args s = true) (hi : (Jvm.Cond.instanceMethod y).before args s = true)
    (hy : y.cls ≠ "java/lang/invoke/MethodHandle" ∧ y.cls ≠ "java/lang/invoke/VarHandle") : (Jvm.Cond.selects y.cls y y).before args s = true := by
  obtain ⟨c, k, h1, h2, h3, h4, -⟩ := Cond.instantiable_spec wi
  exact Jvm.Stand.selects_self_of_private h1 h2 (Bool.or_eq_false_iff.mp h4).1 (Cond.privateMethod_at hp) hi hy
theorem own_miss {k : Int32} (i : Int) (n : Int32) (e : n.toInt = i) (hc : ¬ k = n) : i ≠ k.toInt := fun h => hc (Int32.toInt_inj.mp (h.symm.trans e.symm))
theorem own_posI {x : Int32} (h : (0 : Int32) < x) : x ≠ 0 := fun q => by rw [q] at h; exact absurd h (by decide)
theorem own_posJ {x : Int64} (h : (0 : Int64) < x) : x ≠ 0 := fun q => by rw [q] at h; exact absurd h (by decide)
theorem own_asI {x y : Int32} (h : y < x) : ¬ x < y := fun q => Int32.lt_irrefl (Int32.lt_trans h q)
theorem own_asJ {x y : Int64} (h : y < x) : ¬ x < y := fun q => Int64.lt_irrefl (Int64.lt_trans h q)
theorem own_eqltI {x y : Int32} (h : x = y) : ¬ x < y := fun q => by rw [h] at q; exact Int32.lt_irrefl q
theorem own_eqltJ {x y : Int64} (h : x = y) : ¬ x < y := fun q => by rw [h] at q; exact Int64.lt_irrefl q
theorem own_triI {x y : Int32} (h : ¬ x = y) (q : ¬ y < x) : x < y := by
  rw [Int32.lt_iff_toInt_lt] at *
  rw [← Int32.toInt_inj] at h
  omega
theorem own_triJ {x y : Int64} (h : ¬ x = y) (q : ¬ y < x) : x < y := by
  rw [Int64.lt_iff_toInt_lt] at *
  rw [← Int64.toInt_inj] at h
  omega
theorem own_ltneI {x y : Int32} (h : x < y) : ¬ x = y := fun q => by rw [q] at h; exact Int32.lt_irrefl h
theorem own_ltneJ {x y : Int64} (h : x < y) : ¬ x = y := fun q => by rw [q] at h; exact Int64.lt_irrefl h
theorem own_ltne'I {x y : Int32} (h : y < x) : ¬ x = y := fun q => by rw [q] at h; exact Int32.lt_irrefl h
theorem own_ltne'J {x y : Int64} (h : y < x) : ¬ x = y := fun q => by rw [q] at h; exact Int64.lt_irrefl h
theorem own_nnI {x y : Int32} (h : ¬ x < y) (q : ¬ y < x) : x = y := by
  rw [Int32.lt_iff_toInt_lt] at *
  rw [← Int32.toInt_inj]
  omega
theorem own_nnJ {x y : Int64} (h : ¬ x < y) (q : ¬ y < x) : x = y := by
  rw [Int64.lt_iff_toInt_lt] at *
  rw [← Int64.toInt_inj]
  omega
end Own
theorem d2_0 : decode jdk_30_method_1_code 0 = .ok (.aload_n 0, 1) := by decide +kernel
theorem d2_1 : decode jdk_30_method_1_code 1 = .ok (.invokespecial 1, 3) := by decide +kernel
theorem d2_4 : decode jdk_30_method_1_code 4 = .ok (.return_, 1) := by decide +kernel
theorem pn_java_lang_Record : plainName "java/lang/Record" = true := by first | (simp [plainName, overriddenIn]; done) | decide +kernel
theorem ef_2 (m : MethodId) (a2_0 : Addr) : entryFrame m #[(.ref a2_0)] 1 = mkF m 0 #[.val (.ref a2_0)] [] := by first | (simp [entryFrame, mkF, argsToLocals, Value.category]; done) | rfl
def Q2 (Z : State) (a2_0 : Addr) (h0 : Heap) (n0 : Nat) (v : Option Value) (h : Heap) (L : List Loc) : Prop := v = none ∧ Fr n0 L ∧ h = h0
set_option maxRecDepth 65536 in
set_option maxHeartbeats 40000000 in
theorem rm2 (l : Launch) (Z : State) (a0 : Array Value) (hw : ∀ d ∈ tables_1, d.before a0 Z = true) (ws : List Jvm.Cond) (a2_0 : Addr) (h0 : Heap) (n0 : Nat) (Z0 : n0 ≤ h0.size) :
    MetFree l (⟨"java/lang/Record", "<init>", "()V"⟩ : MethodName) (head1 (Jvm.Cond.code (⟨"java/lang/Record", "<init>", "()V"⟩ : MethodName) jdk_30_method_1_code 1 none :: ws) ({ frames := 1, cells := 0, slots := 0, locals := 12 } : Room)) (fun a U => a = #[(.ref a2_0)] ∧ Z.Warmed39 U.vm ∧ U.heap = h0) (fun _ _ _ _ _ => True) (fun _ U o U' => ∃ v L, o = .returned v ∧ Q2 Z a2_0 h0 n0 v U'.heap L ∧ FrameEnd U o U' L ({ frames := 1, cells := 0, slots := 0, locals := 12 } : Room).cells ({ frames := 1, cells := 0, slots := 0, locals := 12 } : Room).slots) := by
  refine MetFree.of_bodySF (plainFor_of_name pn_java_lang_Record) hisR ?_
  intro p e s m args below meth c s₁ Bd hml0 hP hK
  obtain ⟨rfl, hZ, hh⟩ := hP
  have hx := Bd.exec
  have hby := Bd.bytes
  have hlk := Bd.notSynchronized
  have hret := Bd.returns
  have hml : c.maxLocals = 1 := hml0
  have hown : s.vm.findClass "java/lang/Record" = some m.cls := findClass_of_methodNamed Bd.named
  have hnm := (name_of_methodNamed Bd.named Bd.method).1
  have X0 : Stand p l e ({ frames := 1, cells := 0, slots := 0, locals := 12 } : Room) s m #[(.ref a2_0)] below meth c s₁ [] 0 0 := Stand.of_body Bd
  have e0 : s₁.heap = h0 := by rw [← hh, Bd.state]; rfl
  have N0 := Fr.nil n0
  have K0 : Keep h0 h0 [] := Keep.refl _ _
  show own_G p e below s (Q2 Z a2_0 h0 n0) ({ frames := 1, cells := 0, slots := 0, locals := 12 } : Room).cells ({ frames := 1, cells := 0, slots := 0, locals := 12 } : Room).slots s₁ (entryFrame m #[(.ref a2_0)] 1)
  have ww11 := hw _ (List.mem_of_getElem? (i := 11) rfl)
  have ww12 := hw _ (List.mem_of_getElem? (i := 12) rfl)
  have ww13 := hw _ (List.mem_of_getElem? (i := 13) rfl)
  refine own_cast (ef_2 m a2_0) ?_
  refine own_s (g' := (mkF m 1 #[.val (.ref a2_0)] [(.ref a2_0)])) (fun _ k => XS.aloadN X0.here hx rfl (hb hby d2_0) rfl rfl k) ?_
  obtain ⟨T1, X1, e1, st1⟩ := initO X0 hx hZ hown ww11 ww12 ww13 e0 (g := (mkF m 1 #[.val (.ref a2_0)] [(.ref a2_0)])) rfl (by rw [hml]; rfl) rfl (hb hby d2_1) (by decide) (W := 0) (by show 2 * 0 + _ ≤ _; exact Nat.le_of_eq rfl) (by decide)
  refine own_s (g' := (mkF m 4 #[.val (.ref a2_0)] [])) st1 ?_
  refine own_retV X1 hx hlk hret (hb hby d2_4) (by decide) (by decide) ?_
  show Q2 Z a2_0 h0 n0 _ T1.heap _
  rw [e1]
  exact ⟨rfl, N0, rfl⟩
theorem pd___V : parseMethodDescriptor "()V" = some ⟨[], none⟩ := by decide +kernel
theorem own_sn_17_15 {Z : State} {a0 : Array Value} (hw : ∀ d ∈ tables_1, d.before a0 Z = true) : Jvm.RoadKit.slotOf Z "com/example/arcwise/arcwise/CborReader$Head" "major" "I" ≠ Jvm.RoadKit.slotOf Z "com/example/arcwise/arcwise/CborReader$Head" "offset" "I" := slot_ne (Or.inr (hw _ (List.mem_of_getElem? (i := 17) rfl))) (Or.inr (hw _ (List.mem_of_getElem? (i := 15) rfl))) (by decide) (t := .int) (t' := .int) (by decide) (by decide)
theorem own_sn_19_15 {Z : State} {a0 : Array Value} (hw : ∀ d ∈ tables_1, d.before a0 Z = true) : Jvm.RoadKit.slotOf Z "com/example/arcwise/arcwise/CborReader$Head" "info" "I" ≠ Jvm.RoadKit.slotOf Z "com/example/arcwise/arcwise/CborReader$Head" "offset" "I" := slot_ne (Or.inr (hw _ (List.mem_of_getElem? (i := 19) rfl))) (Or.inr (hw _ (List.mem_of_getElem? (i := 15) rfl))) (by decide) (t := .int) (t' := .int) (by decide) (by decide)
theorem own_sn_19_17 {Z : State} {a0 : Array Value} (hw : ∀ d ∈ tables_1, d.before a0 Z = true) : Jvm.RoadKit.slotOf Z "com/example/arcwise/arcwise/CborReader$Head" "info" "I" ≠ Jvm.RoadKit.slotOf Z "com/example/arcwise/arcwise/CborReader$Head" "major" "I" := slot_ne (Or.inr (hw _ (List.mem_of_getElem? (i := 19) rfl))) (Or.inr (hw _ (List.mem_of_getElem? (i := 17) rfl))) (by decide) (t := .int) (t' := .int) (by decide) (by decide)
theorem own_sn_21_15 {Z : State} {a0 : Array Value} (hw : ∀ d ∈ tables_1, d.before a0 Z = true) : Jvm.RoadKit.slotOf Z "com/example/arcwise/arcwise/CborReader$Head" "argument" "J" ≠ Jvm.RoadKit.slotOf Z "com/example/arcwise/arcwise/CborReader$Head" "offset" "I" := slot_ne (Or.inr (hw _ (List.mem_of_getElem? (i := 21) rfl))) (Or.inr (hw _ (List.mem_of_getElem? (i := 15) rfl))) (by decide) (t := .long) (t' := .int) (by decide) (by decide)
theorem own_sn_21_17 {Z : State} {a0 : Array Value} (hw : ∀ d ∈ tables_1, d.before a0 Z = true) : Jvm.RoadKit.slotOf Z "com/example/arcwise/arcwise/CborReader$Head" "argument" "J" ≠ Jvm.RoadKit.slotOf Z "com/example/arcwise/arcwise/CborReader$Head" "major" "I" := slot_ne (Or.inr (hw _ (List.mem_of_getElem? (i := 21) rfl))) (Or.inr (hw _ (List.mem_of_getElem? (i := 17) rfl))) (by decide) (t := .long) (t' := .int) (by decide) (by decide)
theorem own_sn_21_19 {Z : State} {a0 : Array Value} (hw : ∀ d ∈ tables_1, d.before a0 Z = true) : Jvm.RoadKit.slotOf Z "com/example/arcwise/arcwise/CborReader$Head" "argument" "J" ≠ Jvm.RoadKit.slotOf Z "com/example/arcwise/arcwise/CborReader$Head" "info" "I" := slot_ne (Or.inr (hw _ (List.mem_of_getElem? (i := 21) rfl))) (Or.inr (hw _ (List.mem_of_getElem? (i := 19) rfl))) (by decide) (t := .long) (t' := .int) (by decide) (by decide)
theorem own_sn_15_17 {Z : State} {a0 : Array Value} (hw : ∀ d ∈ tables_1, d.before a0 Z = true) : Jvm.RoadKit.slotOf Z "com/example/arcwise/arcwise/CborReader$Head" "offset" "I" ≠ Jvm.RoadKit.slotOf Z "com/example/arcwise/arcwise/CborReader$Head" "major" "I" := slot_ne (Or.inr (hw _ (List.mem_of_getElem? (i := 15) rfl))) (Or.inr (hw _ (List.mem_of_getElem? (i := 17) rfl))) (by decide) (t := .int) (t' := .int) (by decide) (by decide)
theorem own_sn_15_19 {Z : State} {a0 : Array Value} (hw : ∀ d ∈ tables_1, d.before a0 Z = true) : Jvm.RoadKit.slotOf Z "com/example/arcwise/arcwise/CborReader$Head" "offset" "I" ≠ Jvm.RoadKit.slotOf Z "com/example/arcwise/arcwise/CborReader$Head" "info" "I" := slot_ne (Or.inr (hw _ (List.mem_of_getElem? (i := 15) rfl))) (Or.inr (hw _ (List.mem_of_getElem? (i := 19) rfl))) (by decide) (t := .int) (t' := .int) (by decide) (by decide)
theorem own_sn_15_21 {Z : State} {a0 : Array Value} (hw : ∀ d ∈ tables_1, d.before a0 Z = true) : Jvm.RoadKit.slotOf Z "com/example/arcwise/arcwise/CborReader$Head" "offset" "I" ≠ Jvm.RoadKit.slotOf Z "com/example/arcwise/arcwise/CborReader$Head" "argument" "J" := slot_ne (Or.inr (hw _ (List.mem_of_getElem? (i := 15) rfl))) (Or.inr (hw _ (List.mem_of_getElem? (i := 21) rfl))) (by decide) (t := .int) (t' := .long) (by decide) (by decide)
theorem own_sn_17_19 {Z : State} {a0 : Array Value} (hw : ∀ d ∈ tables_1, d.before a0 Z = true) : Jvm.RoadKit.slotOf Z "com/example/arcwise/arcwise/CborReader$Head" "major" "I" ≠ Jvm.RoadKit.slotOf Z "com/example/arcwise/arcwise/CborReader$Head" "info" "I" := slot_ne (Or.inr (hw _ (List.mem_of_getElem? (i := 17) rfl))) (Or.inr (hw _ (List.mem_of_getElem? (i := 19) rfl))) (by decide) (t := .int) (t' := .int) (by decide) (by decide)
theorem own_sn_17_21 {Z : State} {a0 : Array Value} (hw : ∀ d ∈ tables_1, d.before a0 Z = true) : Jvm.RoadKit.slotOf Z "com/example/arcwise/arcwise/CborReader$Head" "major" "I" ≠ Jvm.RoadKit.slotOf Z "com/example/arcwise/arcwise/CborReader$Head" "argument" "J" := slot_ne (Or.inr (hw _ (List.mem_of_getElem? (i := 17) rfl))) (Or.inr (hw _ (List.mem_of_getElem? (i := 21) rfl))) (by decide) (t := .int) (t' := .long) (by decide) (by decide)
theorem own_sn_19_21 {Z : State} {a0 : Array Value} (hw : ∀ d ∈ tables_1, d.before a0 Z = true) : Jvm.RoadKit.slotOf Z "com/example/arcwise/arcwise/CborReader$Head" "info" "I" ≠ Jvm.RoadKit.slotOf Z "com/example/arcwise/arcwise/CborReader$Head" "argument" "J" := slot_ne (Or.inr (hw _ (List.mem_of_getElem? (i := 19) rfl))) (Or.inr (hw _ (List.mem_of_getElem? (i := 21) rfl))) (by decide) (t := .int) (t' := .long) (by decide) (by decide)
theorem d1_0 : decode prog_8_method_1_code 0 = .ok (.aload_n 0, 1) := by decide +kernel
theorem d1_1 : decode prog_8_method_1_code 1 = .ok (.invokespecial 3, 3) := by decide +kernel
theorem d1_4 : decode prog_8_method_1_code 4 = .ok (.aload_n 0, 1) := by decide +kernel
theorem d1_5 : decode prog_8_method_1_code 5 = .ok (.iload_n 1, 1) := by decide +kernel
theorem d1_6 : decode prog_8_method_1_code 6 = .ok (.putfield 9, 3) := by decide +kernel
theorem d1_9 : decode prog_8_method_1_code 9 = .ok (.aload_n 0, 1) := by decide +kernel
theorem d1_10 : decode prog_8_method_1_code 10 = .ok (.iload_n 2, 1) := by decide +kernel
theorem d1_11 : decode prog_8_method_1_code 11 = .ok (.putfield 15, 3) := by decide +kernel
theorem d1_14 : decode prog_8_method_1_code 14 = .ok (.aload_n 0, 1) := by decide +kernel
theorem d1_15 : decode prog_8_method_1_code 15 = .ok (.iload_n 3, 1) := by decide +kernel
theorem d1_16 : decode prog_8_method_1_code 16 = .ok (.putfield 18, 3) := by decide +kernel
theorem d1_19 : decode prog_8_method_1_code 19 = .ok (.aload_n 0, 1) := by decide +kernel
theorem d1_20 : decode prog_8_method_1_code 20 = .ok (.lload 4, 2) := by decide +kernel
theorem d1_22 : decode prog_8_method_1_code 22 = .ok (.putfield 21, 3) := by decide +kernel
theorem d1_25 : decode prog_8_method_1_code 25 = .ok (.return_, 1) := by decide +kernel
theorem pn_com_example_arcwise_arcwise_CborReader_Head : plainName "com/example/arcwise/arcwise/CborReader$Head" = true := by first | (simp [plainName, overriddenIn]; done) | decide +kernel
theorem ef_1 (m : MethodId) (a1_0 : Addr) (p1_1 : Int32) (p1_2 : Int32) (p1_3 : Int32) (q1_4 : Int64) : entryFrame m #[(.ref a1_0), (.int p1_1), (.int p1_2), (.int p1_3), (.long q1_4)] 6 = mkF m 0 #[.val (.ref a1_0), .val (.int p1_1), .val (.int p1_2), .val (.int p1_3), .val (.long q1_4), .second] [] := by first | (simp [entryFrame, mkF, argsToLocals, Value.category]; done) | rfl
def Q1 (Z : State) (a1_0 : Addr) (p1_1 : Int32) (p1_2 : Int32) (p1_3 : Int32) (q1_4 : Int64) (u1_offset : Int32) (u1_major : Int32) (u1_info : Int32) (v1_argument : Int64) (h0 : Heap) (n0 : Nat) (v : Option Value) (h : Heap) (L : List Loc) : Prop := v = none ∧ Fr n0 L ∧ Keep h0 h [a1_0] ∧ Exa Z h a1_0 "com/example/arcwise/arcwise/CborReader$Head" ∧ Fld Z h a1_0 "com/example/arcwise/arcwise/CborReader$Head" "offset" "I" (.int p1_1) ∧ Fld Z h a1_0 "com/example/arcwise/arcwise/CborReader$Head" "major" "I" (.int p1_2) ∧ Fld Z h a1_0 "com/example/arcwise/arcwise/CborReader$Head" "info" "I" (.int p1_3) ∧ Fld Z h a1_0 "com/example/arcwise/arcwise/CborReader$Head" "argument" "J" (.long q1_4)
set_option maxRecDepth 65536 in
set_option maxHeartbeats 40000000 in
theorem rm1 (l : Launch) (Z : State) (a0 : Array Value) (hw : ∀ d ∈ tables_1, d.before a0 Z = true) (ws : List Jvm.Cond) (a1_0 : Addr) (p1_1 : Int32) (p1_2 : Int32) (p1_3 : Int32) (q1_4 : Int64) (u1_offset : Int32) (u1_major : Int32) (u1_info : Int32) (v1_argument : Int64) (h0 : Heap) (n0 : Nat) (Z0 : n0 ≤ h0.size) (F_offset_a1_0 : Fld Z h0 a1_0 "com/example/arcwise/arcwise/CborReader$Head" "offset" "I" (.int u1_offset)) (F_major_a1_0 : Fld Z h0 a1_0 "com/example/arcwise/arcwise/CborReader$Head" "major" "I" (.int u1_major)) (F_info_a1_0 : Fld Z h0 a1_0 "com/example/arcwise/arcwise/CborReader$Head" "info" "I" (.int u1_info)) (F_argument_a1_0 : Fld Z h0 a1_0 "com/example/arcwise/arcwise/CborReader$Head" "argument" "J" (.long v1_argument)) (E_a1_0 : Exa Z h0 a1_0 "com/example/arcwise/arcwise/CborReader$Head") (g_a1_0 : n0 ≤ a1_0) :
    MetFree l (⟨"com/example/arcwise/arcwise/CborReader$Head", "<init>", "(IIIJ)V"⟩ : MethodName) (head1 (Jvm.Cond.code (⟨"com/example/arcwise/arcwise/CborReader$Head", "<init>", "(IIIJ)V"⟩ : MethodName) prog_8_method_1_code 6 none :: ws) ({ frames := 2, cells := 0, slots := 0, locals := 24 } : Room)) (fun a U => a = #[(.ref a1_0), (.int p1_1), (.int p1_2), (.int p1_3), (.long q1_4)] ∧ Z.Warmed39 U.vm ∧ U.heap = h0) (fun _ _ _ _ _ => True) (fun _ U o U' => ∃ v L, o = .returned v ∧ Q1 Z a1_0 p1_1 p1_2 p1_3 q1_4 u1_offset u1_major u1_info v1_argument h0 n0 v U'.heap L ∧ FrameEnd U o U' L ({ frames := 2, cells := 0, slots := 0, locals := 24 } : Room).cells ({ frames := 2, cells := 0, slots := 0, locals := 24 } : Room).slots) := by
  refine MetFree.of_bodySF (plainFor_of_name pn_com_example_arcwise_arcwise_CborReader_Head) hisR ?_
  intro p e s m args below meth c s₁ Bd hml0 hP hK
  obtain ⟨rfl, hZ, hh⟩ := hP
  have hx := Bd.exec
  have hby := Bd.bytes
  have hlk := Bd.notSynchronized
  have hret := Bd.returns
  have hml : c.maxLocals = 6 := hml0
  have hown : s.vm.findClass "com/example/arcwise/arcwise/CborReader$Head" = some m.cls := findClass_of_methodNamed Bd.named
  have hnm := (name_of_methodNamed Bd.named Bd.method).1
  have X0 : Stand p l e ({ frames := 2, cells := 0, slots := 0, locals := 24 } : Room) s m #[(.ref a1_0), (.int p1_1), (.int p1_2), (.int p1_3), (.long q1_4)] below meth c s₁ [] 0 0 := Stand.of_body Bd
  have e0 : s₁.heap = h0 := by rw [← hh, Bd.state]; rfl
  have N0 := Fr.nil n0
  have K0 : Keep h0 h0 [a1_0] := Keep.refl _ _
  show own_G p e below s (Q1 Z a1_0 p1_1 p1_2 p1_3 q1_4 u1_offset u1_major u1_info v1_argument h0 n0) ({ frames := 2, cells := 0, slots := 0, locals := 24 } : Room).cells ({ frames := 2, cells := 0, slots := 0, locals := 24 } : Room).slots s₁ (entryFrame m #[(.ref a1_0), (.int p1_1), (.int p1_2), (.int p1_3), (.long q1_4)] 6)
  have ww1 := hw _ (List.mem_of_getElem? (i := 1) rfl)
  have ww6 := hw _ (List.mem_of_getElem? (i := 6) rfl)
  have ww7 := hw _ (List.mem_of_getElem? (i := 7) rfl)
  have ww9 := hw _ (List.mem_of_getElem? (i := 9) rfl)
  have ww10 := hw _ (List.mem_of_getElem? (i := 10) rfl)
  have ww14 := hw _ (List.mem_of_getElem? (i := 14) rfl)
  have ww15 := hw _ (List.mem_of_getElem? (i := 15) rfl)
  have ww16 := hw _ (List.mem_of_getElem? (i := 16) rfl)
  have ww17 := hw _ (List.mem_of_getElem? (i := 17) rfl)
  have ww18 := hw _ (List.mem_of_getElem? (i := 18) rfl)
  have ww19 := hw _ (List.mem_of_getElem? (i := 19) rfl)
  have ww20 := hw _ (List.mem_of_getElem? (i := 20) rfl)
  have ww21 := hw _ (List.mem_of_getElem? (i := 21) rfl)
  refine own_cast (ef_1 m a1_0 p1_1 p1_2 p1_3 q1_4) ?_
  refine own_s (g' := (mkF m 1 #[.val (.ref a1_0), .val (.int p1_1), .val (.int p1_2), .val (.int p1_3), .val (.long q1_4), .second] [(.ref a1_0)])) (fun _ k => XS.aloadN X0.here hx rfl (hb hby d1_0) rfl rfl k) ?_
  obtain ⟨_, _, ⟨T2, L2, k2, n2⟩, -, X2, ⟨Lc2, hQ2, l2, y2, z2⟩, st2⟩ := X0.specialBack hx (y := (⟨"java/lang/Record", "<init>", "()V"⟩ : MethodName)) rfl hown (mvT hZ ww6) (mvT hZ ww7) (mvT hZ ww10) (by decide) (backOf (W := 0) (rm2 l Z a0 hw [] a1_0 h0 n0 Z0 ) hZ ww10 ww9 (by decide) (by decide)) (g := (mkF m 1 #[.val (.ref a1_0), .val (.int p1_1), .val (.int p1_2), .val (.int p1_3), .val (.long q1_4), .second] [(.ref a1_0)])) rfl (by rw [hml]; rfl) (Steps.refl _) (a := a1_0) (argsL := []) (rest := []) (lenOf pd___V rfl) rfl (by show 2 * 0 + _ ≤ _; exact Nat.le_of_eq rfl) (hb hby d1_1) (fun _ _ => ⟨rfl, e0, (by decide : 0 + 0 ≤ _), (by decide : 0 + 0 ≤ _)⟩)
  dsimp only [Pt.U, Pt.locs, Pt.cells, Pt.slots] at X2 l2 y2 z2 st2 hQ2
  subst l2 y2 z2
  obtain ⟨rfl, N2q, eh2⟩ := hQ2
  have N2 := Fr.app N0 N2q
  refine own_trans (g' := (mkF m 4 #[.val (.ref a1_0), .val (.int p1_1), .val (.int p1_2), .val (.int p1_3), .val (.long q1_4), .second] [])) st2 ?_
  refine own_s (g' := (mkF m 5 #[.val (.ref a1_0), .val (.int p1_1), .val (.int p1_2), .val (.int p1_3), .val (.long q1_4), .second] [(.ref a1_0)])) (fun _ k => XS.aloadN X2.here hx rfl (hb hby d1_4) rfl rfl k) ?_
  refine own_s (g' := (mkF m 6 #[.val (.ref a1_0), .val (.int p1_1), .val (.int p1_2), .val (.int p1_3), .val (.long q1_4), .second] [(.int p1_1), (.ref a1_0)])) (fun _ k => XS.iloadN X2.here hx rfl (hb hby d1_5) rfl k) ?_
  obtain ⟨T3, h3, X3, e3, W3, st3⟩ := putF X2 hx hZ hown (host := "") (Or.inl ww14) Via.refl eh2 F_offset_a1_0 E_a1_0 (Or.inr ⟨ww15, rfl, hnm⟩) ww1 (ty := .int) (by decide) rfl rfl (g := (mkF m 6 #[.val (.ref a1_0), .val (.int p1_1), .val (.int p1_2), .val (.int p1_3), .val (.long q1_4), .second] [(.int p1_1), (.ref a1_0)])) rfl rfl (hb hby d1_6)
  have f4 := F_offset_a1_0.same W3
  have K3 := K0.wr W3 (Or.inl (List.mem_of_getElem? (i := 0) rfl))
  have N3 := Fr.snoc X3 N2 g_a1_0
  refine own_s (g' := (mkF m 9 #[.val (.ref a1_0), .val (.int p1_1), .val (.int p1_2), .val (.int p1_3), .val (.long q1_4), .second] [])) st3 ?_
  refine own_s (g' := (mkF m 10 #[.val (.ref a1_0), .val (.int p1_1), .val (.int p1_2), .val (.int p1_3), .val (.long q1_4), .second] [(.ref a1_0)])) (fun _ k => XS.aloadN X3.here hx rfl (hb hby d1_9) rfl rfl k) ?_
  refine own_s (g' := (mkF m 11 #[.val (.ref a1_0), .val (.int p1_1), .val (.int p1_2), .val (.int p1_3), .val (.long q1_4), .second] [(.int p1_2), (.ref a1_0)])) (fun _ k => XS.iloadN X3.here hx rfl (hb hby d1_10) rfl k) ?_
  have f5 := (E_a1_0.wr W3)
  have f6 := (F_major_a1_0.other W3 (Or.inr (own_sn_17_15 hw)))
  obtain ⟨T7, h7, X7, e7, W7, st7⟩ := putF X3 hx hZ hown (host := "") (Or.inl ww16) Via.refl e3 f6 f5 (Or.inr ⟨ww17, rfl, hnm⟩) ww1 (ty := .int) (by decide) rfl rfl (g := (mkF m 11 #[.val (.ref a1_0), .val (.int p1_1), .val (.int p1_2), .val (.int p1_3), .val (.long q1_4), .second] [(.int p1_2), (.ref a1_0)])) rfl rfl (hb hby d1_11)
  have f8 := f6.same W7
  have K7 := K3.wr W7 (Or.inl (List.mem_of_getElem? (i := 0) rfl))
  have N7 := Fr.snoc X7 N3 g_a1_0
  refine own_s (g' := (mkF m 14 #[.val (.ref a1_0), .val (.int p1_1), .val (.int p1_2), .val (.int p1_3), .val (.long q1_4), .second] [])) st7 ?_
  refine own_s (g' := (mkF m 15 #[.val (.ref a1_0), .val (.int p1_1), .val (.int p1_2), .val (.int p1_3), .val (.long q1_4), .second] [(.ref a1_0)])) (fun _ k => XS.aloadN X7.here hx rfl (hb hby d1_14) rfl rfl k) ?_
  refine own_s (g' := (mkF m 16 #[.val (.ref a1_0), .val (.int p1_1), .val (.int p1_2), .val (.int p1_3), .val (.long q1_4), .second] [(.int p1_3), (.ref a1_0)])) (fun _ k => XS.iloadN X7.here hx rfl (hb hby d1_15) rfl k) ?_
  have f9 := (f5.wr W7)
  have f10 := ((F_info_a1_0.other W3 (Or.inr (own_sn_19_15 hw))).other W7 (Or.inr (own_sn_19_17 hw)))
  obtain ⟨T11, h11, X11, e11, W11, st11⟩ := putF X7 hx hZ hown (host := "") (Or.inl ww18) Via.refl e7 f10 f9 (Or.inr ⟨ww19, rfl, hnm⟩) ww1 (ty := .int) (by decide) rfl rfl (g := (mkF m 16 #[.val (.ref a1_0), .val (.int p1_1), .val (.int p1_2), .val (.int p1_3), .val (.long q1_4), .second] [(.int p1_3), (.ref a1_0)])) rfl rfl (hb hby d1_16)
  have f12 := f10.same W11
  have K11 := K7.wr W11 (Or.inl (List.mem_of_getElem? (i := 0) rfl))
  have N11 := Fr.snoc X11 N7 g_a1_0
  refine own_s (g' := (mkF m 19 #[.val (.ref a1_0), .val (.int p1_1), .val (.int p1_2), .val (.int p1_3), .val (.long q1_4), .second] [])) st11 ?_
  refine own_s (g' := (mkF m 20 #[.val (.ref a1_0), .val (.int p1_1), .val (.int p1_2), .val (.int p1_3), .val (.long q1_4), .second] [(.ref a1_0)])) (fun _ k => XS.aloadN X11.here hx rfl (hb hby d1_19) rfl rfl k) ?_
  refine own_s (g' := (mkF m 22 #[.val (.ref a1_0), .val (.int p1_1), .val (.int p1_2), .val (.int p1_3), .val (.long q1_4), .second] [(.long q1_4), (.ref a1_0)])) (fun _ k => XS.lload X11.here hx rfl (hb hby d1_20) rfl k) ?_
  have f13 := (f9.wr W11)
  have f14 := (((F_argument_a1_0.other W3 (Or.inr (own_sn_21_15 hw))).other W7 (Or.inr (own_sn_21_17 hw))).other W11 (Or.inr (own_sn_21_19 hw)))
  obtain ⟨T15, h15, X15, e15, W15, st15⟩ := putF X11 hx hZ hown (host := "") (Or.inl ww20) Via.refl e11 f14 f13 (Or.inr ⟨ww21, rfl, hnm⟩) ww1 (ty := .long) (by decide) rfl rfl (g := (mkF m 22 #[.val (.ref a1_0), .val (.int p1_1), .val (.int p1_2), .val (.int p1_3), .val (.long q1_4), .second] [(.long q1_4), (.ref a1_0)])) rfl rfl (hb hby d1_22)
  have f16 := f14.same W15
  have K15 := K11.wr W15 (Or.inl (List.mem_of_getElem? (i := 0) rfl))
  have N15 := Fr.snoc X15 N11 g_a1_0
  refine own_s (g' := (mkF m 25 #[.val (.ref a1_0), .val (.int p1_1), .val (.int p1_2), .val (.int p1_3), .val (.long q1_4), .second] [])) st15 ?_
  have f17 := (f13.wr W15)
  have f18 := (((f4.other W7 (Or.inr (own_sn_15_17 hw))).other W11 (Or.inr (own_sn_15_19 hw))).other W15 (Or.inr (own_sn_15_21 hw)))
  have f19 := ((f8.other W11 (Or.inr (own_sn_17_19 hw))).other W15 (Or.inr (own_sn_17_21 hw)))
  have f20 := (f12.other W15 (Or.inr (own_sn_19_21 hw)))
  refine own_retV X15 hx hlk hret (hb hby d1_25) (by decide) (by decide) ?_
  show Q1 Z a1_0 p1_1 p1_2 p1_3 q1_4 u1_offset u1_major u1_info v1_argument h0 n0 _ T15.heap _
  rw [e15]
  exact ⟨rfl, N15, K15, f17, f18, f19, f20, f16⟩
theorem d4_0 : decode prog_8_method_4_code 0 = .ok (.aload_n 0, 1) := by decide +kernel
theorem d4_1 : decode prog_8_method_4_code 1 = .ok (.getfield 18, 3) := by decide +kernel
theorem d4_4 : decode prog_8_method_4_code 4 = .ok (.bipush 24, 2) := by decide +kernel
theorem d4_6 : decode prog_8_method_4_code 6 = .ok (.if_icmp .lt 26, 3) := by decide +kernel
theorem d4_9 : decode prog_8_method_4_code 9 = .ok (.aload_n 0, 1) := by decide +kernel
theorem d4_10 : decode prog_8_method_4_code 10 = .ok (.getfield 18, 3) := by decide +kernel
theorem d4_13 : decode prog_8_method_4_code 13 = .ok (.bipush 27, 2) := by decide +kernel
theorem d4_15 : decode prog_8_method_4_code 15 = .ok (.if_icmp .gt 17, 3) := by decide +kernel
theorem d4_18 : decode prog_8_method_4_code 18 = .ok (.iconst 1, 1) := by decide +kernel
theorem d4_19 : decode prog_8_method_4_code 19 = .ok (.iconst 1, 1) := by decide +kernel
theorem d4_20 : decode prog_8_method_4_code 20 = .ok (.aload_n 0, 1) := by decide +kernel
theorem d4_21 : decode prog_8_method_4_code 21 = .ok (.getfield 18, 3) := by decide +kernel
theorem d4_24 : decode prog_8_method_4_code 24 = .ok (.bipush 24, 2) := by decide +kernel
theorem d4_26 : decode prog_8_method_4_code 26 = .ok (.isub, 1) := by decide +kernel
theorem d4_27 : decode prog_8_method_4_code 27 = .ok (.ishl, 1) := by decide +kernel
theorem d4_28 : decode prog_8_method_4_code 28 = .ok (.iadd, 1) := by decide +kernel
theorem d4_29 : decode prog_8_method_4_code 29 = .ok (.goto 4, 3) := by decide +kernel
theorem d4_32 : decode prog_8_method_4_code 32 = .ok (.iconst 1, 1) := by decide +kernel
theorem d4_33 : decode prog_8_method_4_code 33 = .ok (.ireturn, 1) := by decide +kernel
theorem ef_4 (m : MethodId) (a4_0 : Addr) : entryFrame m #[(.ref a4_0)] 1 = mkF m 0 #[.val (.ref a4_0)] [] := by first | (simp [entryFrame, mkF, argsToLocals, Value.category]; done) | rfl
def r4 (u4_info : Int32) : Int32 := (if u4_info < (24 : Int32) then (1 : Int32) else (if (27 : Int32) < u4_info then (1 : Int32) else ((1 : Int32) + ((1 : Int32) <<< ((u4_info - (24 : Int32)) &&& 31)))))
def Q4 (Z : State) (a4_0 : Addr) (u4_info : Int32) (h0 : Heap) (n0 : Nat) (v : Option Value) (h : Heap) (L : List Loc) : Prop := v = some (.int (r4 u4_info)) ∧ Fr n0 L ∧ h = h0
set_option maxRecDepth 65536 in
set_option maxHeartbeats 40000000 in
theorem rm4 (l : Launch) (Z : State) (a0 : Array Value) (hw : ∀ d ∈ tables_1, d.before a0 Z = true) (ws : List Jvm.Cond) (a4_0 : Addr) (u4_info : Int32) (h0 : Heap) (n0 : Nat) (Z0 : n0 ≤ h0.size) (F_info_a4_0 : Fld Z h0 a4_0 "com/example/arcwise/arcwise/CborReader$Head" "info" "I" (.int u4_info)) :
    MetFree l (⟨"com/example/arcwise/arcwise/CborReader$Head", "size", "()I"⟩ : MethodName) (head1 (Jvm.Cond.code (⟨"com/example/arcwise/arcwise/CborReader$Head", "size", "()I"⟩ : MethodName) prog_8_method_4_code 1 (some .int) :: ws) ({ frames := 0, cells := 0, slots := 0, locals := 0 } : Room)) (fun a U => a = #[(.ref a4_0)] ∧ Z.Warmed39 U.vm ∧ U.heap = h0) (fun _ _ _ _ _ => True) (fun _ U o U' => ∃ v L, o = .returned v ∧ Q4 Z a4_0 u4_info h0 n0 v U'.heap L ∧ FrameEnd U o U' L ({ frames := 0, cells := 0, slots := 0, locals := 0 } : Room).cells ({ frames := 0, cells := 0, slots := 0, locals := 0 } : Room).slots) := by
  refine MetFree.of_bodySF (plainFor_of_name pn_com_example_arcwise_arcwise_CborReader_Head) hisR ?_
  intro p e s m args below meth c s₁ Bd hml0 hP hK
  obtain ⟨rfl, hZ, hh⟩ := hP
  have hx := Bd.exec
  have hby := Bd.bytes
  have hlk := Bd.notSynchronized
  have hret := Bd.returns
  have hml : c.maxLocals = 1 := hml0
  have hown : s.vm.findClass "com/example/arcwise/arcwise/CborReader$Head" = some m.cls := findClass_of_methodNamed Bd.named
  have hnm := (name_of_methodNamed Bd.named Bd.method).1
  have X0 : Stand p l e ({ frames := 0, cells := 0, slots := 0, locals := 0 } : Room) s m #[(.ref a4_0)] below meth c s₁ [] 0 0 := Stand.of_body Bd
  have e0 : s₁.heap = h0 := by rw [← hh, Bd.state]; rfl
  have N0 := Fr.nil n0
  have K0 : Keep h0 h0 [] := Keep.refl _ _
  show own_G p e below s (Q4 Z a4_0 u4_info h0 n0) ({ frames := 0, cells := 0, slots := 0, locals := 0 } : Room).cells ({ frames := 0, cells := 0, slots := 0, locals := 0 } : Room).slots s₁ (entryFrame m #[(.ref a4_0)] 1)
  have ww18 := hw _ (List.mem_of_getElem? (i := 18) rfl)
  refine own_cast (ef_4 m a4_0) ?_
  refine own_s (g' := (mkF m 1 #[.val (.ref a4_0)] [(.ref a4_0)])) (fun _ k => XS.aloadN X0.here hx rfl (hb hby d4_0) rfl rfl k) ?_
  obtain ⟨T21, X21, e21, st21⟩ := getF X0 hx hZ hown (host := "") (Or.inl ww18) Via.refl e0 F_info_a4_0 (g := (mkF m 1 #[.val (.ref a4_0)] [(.ref a4_0)])) rfl rfl (hb hby d4_1)
  refine own_s (g' := (mkF m 4 #[.val (.ref a4_0)] [(.int u4_info)])) st21 ?_
  refine own_s (g' := (mkF m 6 #[.val (.ref a4_0)] [(.int 24), (.int u4_info)])) (fun _ k => XS.bipush X21.here hx rfl (hb hby d4_4) k) ?_
  by_cases c22 : u4_info < (24 : Int32)
  ·skip
   refine own_s (g' := (mkF m 32 #[.val (.ref a4_0)] [])) (fun _ k => XS.icmpYes X21.here hx rfl (pc0 := 6) (pc' := 32) rfl (hb hby d4_6) rfl (tlt c22).1 (by decide) (by decide) k) ?_
   refine own_s (g' := (mkF m 33 #[.val (.ref a4_0)] [(.int 1)])) (fun _ k => XS.iconst X21.here hx rfl (hb hby d4_32) k) ?_
   refine own_retI X21 hx hlk hret (hb hby d4_33) (by decide) (by decide) ?_
   show Q4 Z a4_0 u4_info h0 n0 _ T21.heap _
   rw [e21]
   exact ⟨(congrArg (fun z => some (Value.int z)) (show (1 : Int32) = (r4 u4_info) from (Eq.symm (if_pos c22)))), N0, rfl⟩
  ·skip
   refine own_s (g' := (mkF m 9 #[.val (.ref a4_0)] [])) (fun _ k => XS.icmpNo X21.here hx rfl (hb hby d4_6) rfl (flt c22).1 k) ?_
   refine own_s (g' := (mkF m 10 #[.val (.ref a4_0)] [(.ref a4_0)])) (fun _ k => XS.aloadN X21.here hx rfl (hb hby d4_9) rfl rfl k) ?_
   obtain ⟨T23, X23, e23, st23⟩ := getF X21 hx hZ hown (host := "") (Or.inl ww18) Via.refl e21 F_info_a4_0 (g := (mkF m 10 #[.val (.ref a4_0)] [(.ref a4_0)])) rfl rfl (hb hby d4_10)
   refine own_s (g' := (mkF m 13 #[.val (.ref a4_0)] [(.int u4_info)])) st23 ?_
   refine own_s (g' := (mkF m 15 #[.val (.ref a4_0)] [(.int 27), (.int u4_info)])) (fun _ k => XS.bipush X23.here hx rfl (hb hby d4_13) k) ?_
   by_cases c24 : (27 : Int32) < u4_info
   ·skip
    refine own_s (g' := (mkF m 32 #[.val (.ref a4_0)] [])) (fun _ k => XS.icmpYes X23.here hx rfl (pc0 := 15) (pc' := 32) rfl (hb hby d4_15) rfl (tlt c24).2.2.1 (by decide) (by decide) k) ?_
    refine own_s (g' := (mkF m 33 #[.val (.ref a4_0)] [(.int 1)])) (fun _ k => XS.iconst X23.here hx rfl (hb hby d4_32) k) ?_
    refine own_retI X23 hx hlk hret (hb hby d4_33) (by decide) (by decide) ?_
    show Q4 Z a4_0 u4_info h0 n0 _ T23.heap _
    rw [e23]
    exact ⟨(congrArg (fun z => some (Value.int z)) (show (1 : Int32) = (r4 u4_info) from (Eq.symm ((if_neg c22).trans (if_pos c24))))), N0, rfl⟩
   ·skip
    refine own_s (g' := (mkF m 18 #[.val (.ref a4_0)] [])) (fun _ k => XS.icmpNo X23.here hx rfl (hb hby d4_15) rfl (flt c24).2.2.1 k) ?_
    refine own_s (g' := (mkF m 19 #[.val (.ref a4_0)] [(.int 1)])) (fun _ k => XS.iconst X23.here hx rfl (hb hby d4_18) k) ?_
    refine own_s (g' := (mkF m 20 #[.val (.ref a4_0)] [(.int 1), (.int 1)])) (fun _ k => XS.iconst X23.here hx rfl (hb hby d4_19) k) ?_
    refine own_s (g' := (mkF m 21 #[.val (.ref a4_0)] [(.ref a4_0), (.int 1), (.int 1)])) (fun _ k => XS.aloadN X23.here hx rfl (hb hby d4_20) rfl rfl k) ?_
    obtain ⟨T25, X25, e25, st25⟩ := getF X23 hx hZ hown (host := "") (Or.inl ww18) Via.refl e23 F_info_a4_0 (g := (mkF m 21 #[.val (.ref a4_0)] [(.ref a4_0), (.int 1), (.int 1)])) rfl rfl (hb hby d4_21)
    refine own_s (g' := (mkF m 24 #[.val (.ref a4_0)] [(.int u4_info), (.int 1), (.int 1)])) st25 ?_
    refine own_s (g' := (mkF m 26 #[.val (.ref a4_0)] [(.int 24), (.int u4_info), (.int 1), (.int 1)])) (fun _ k => XS.bipush X25.here hx rfl (hb hby d4_24) k) ?_
    refine own_s (g' := (mkF m 27 #[.val (.ref a4_0)] [(.int (u4_info - (24 : Int32))), (.int 1), (.int 1)])) (fun _ k => XS.isub X25.here hx rfl (hb hby d4_26) rfl k) ?_
    refine own_s (g' := (mkF m 28 #[.val (.ref a4_0)] [(.int ((1 : Int32) <<< ((u4_info - (24 : Int32)) &&& 31))), (.int 1)])) (fun _ k => XS.ishl X25.here hx rfl (hb hby d4_27) rfl k) ?_
    refine own_s (g' := (mkF m 29 #[.val (.ref a4_0)] [(.int ((1 : Int32) + ((1 : Int32) <<< ((u4_info - (24 : Int32)) &&& 31))))])) (fun _ k => XS.iadd X25.here hx rfl (hb hby d4_28) rfl k) ?_
    refine own_s (g' := (mkF m 33 #[.val (.ref a4_0)] [(.int ((1 : Int32) + ((1 : Int32) <<< ((u4_info - (24 : Int32)) &&& 31))))])) (fun _ k => XS.goto X25.here hx rfl (pc0 := 29) (pc' := 33) rfl (hb hby d4_29) (by decide) (by decide) k) ?_
    refine own_retI X25 hx hlk hret (hb hby d4_33) (by decide) (by decide) ?_
    show Q4 Z a4_0 u4_info h0 n0 _ T25.heap _
    rw [e25]
    exact ⟨(congrArg (fun z => some (Value.int z)) (show ((1 : Int32) + ((1 : Int32) <<< ((u4_info - (24 : Int32)) &&& 31))) = (r4 u4_info) from (Eq.symm ((if_neg c22).trans (if_neg c24))))), N0, rfl⟩
theorem own_rest (x : Int32) (h1 : ¬ (x &&& (31 : Int32)) = (24 : Int32)) (h2 : ¬ (x &&& (31 : Int32)) = (25 : Int32)) (h3 : ¬ (x &&& (31 : Int32)) = (26 : Int32)) (h4 : ¬ (x &&& (31 : Int32)) = (27 : Int32)) : r4 (x &&& (31 : Int32)) = (1 : Int32) := by
  generalize (x &&& (31 : Int32)) = i at h1 h2 h3 h4
  unfold r4
  by_cases c1 : i < (24 : Int32)
  · rw [if_pos c1]
  · rw [if_neg c1]
    by_cases c2 : (27 : Int32) < i
    · rw [if_pos c2]
    · exfalso
      simp only [Int32.lt_iff_toInt_lt, ← Int32.toInt_inj, show (24 : Int32).toInt = 24 from by decide, show (25 : Int32).toInt = 25 from by decide, show (26 : Int32).toInt = 26 from by decide, show (27 : Int32).toInt = 27 from by decide] at *
      omega
theorem pd__IIIJ_V : parseMethodDescriptor "(IIIJ)V" = some ⟨[.int, .int, .int, .long], none⟩ := by decide +kernel
theorem pd___I : parseMethodDescriptor "()I" = some ⟨[], some .int⟩ := by decide +kernel
theorem pn_com_example_arcwise_arcwise_HeadSizePinLaw : plainName "com/example/arcwise/arcwise/HeadSizePinLaw" = true := by first | (simp [plainName, overriddenIn]; done) | decide +kernel
theorem ef_0 (m : MethodId) (p0_0 : Int32) (p0_1 : Int32) (p0_2 : Int32) (q0_3 : Int64) : entryFrame m #[(.int p0_0), (.int p0_1), (.int p0_2), (.long q0_3)] maxLocals = mkF m 0 #[.val (.int p0_0), .val (.int p0_1), .val (.int p0_2), .val (.long q0_3), .second, .unset, .unset, .unset] [] := by first | (simp [entryFrame, mkF, argsToLocals, Value.category, maxLocals]; done) | rfl
def Q0 (Z : State) (p0_0 : Int32) (p0_1 : Int32) (p0_2 : Int32) (q0_3 : Int64) (h0 : Heap) (n0 : Nat) (v : Option Value) (h : Heap) (L : List Loc) : Prop := v = some (.int (1 : Int32)) ∧ Fr n0 L
set_option maxRecDepth 65536 in
set_option maxHeartbeats 40000000 in
theorem rm0 (l : Launch) (Z : State) (a0 : Array Value) (hw : ∀ d ∈ tables_1, d.before a0 Z = true) (ws : List Jvm.Cond) (p0_0 : Int32) (p0_1 : Int32) (p0_2 : Int32) (q0_3 : Int64) (h0 : Heap) (n0 : Nat) (Z0 : n0 ≤ h0.size) :
    MetFree l x (head1 (Jvm.Cond.code x code maxLocals ret :: ws) room_1) (fun a U => a = #[(.int p0_0), (.int p0_1), (.int p0_2), (.long q0_3)] ∧ Z.Warmed39 U.vm ∧ U.heap = h0) (fun _ _ _ _ _ => True) (fun _ U o U' => ∃ v L, o = .returned v ∧ Q0 Z p0_0 p0_1 p0_2 q0_3 h0 n0 v U'.heap L ∧ FrameEnd U o U' L 16 128) := by
  refine MetFree.of_bodySF (plainFor_of_name pn_com_example_arcwise_arcwise_HeadSizePinLaw) hisR ?_
  intro p e s m args below meth c s₁ Bd hml0 hP hK
  obtain ⟨rfl, hZ, hh⟩ := hP
  have hx := Bd.exec
  have hby := Bd.bytes
  have hlk := Bd.notSynchronized
  have hret := Bd.returns
  have hml : c.maxLocals = 8 := hml0
  have hown : s.vm.findClass "com/example/arcwise/arcwise/HeadSizePinLaw" = some m.cls := findClass_of_methodNamed Bd.named
  have hnm := (name_of_methodNamed Bd.named Bd.method).1
  have X0 : Stand p l e room_1 s m #[(.int p0_0), (.int p0_1), (.int p0_2), (.long q0_3)] below meth c s₁ [] 0 0 := Stand.of_body Bd
  have e0 : s₁.heap = h0 := by rw [← hh, Bd.state]; rfl
  have N0 := Fr.nil n0
  have K0 : Keep h0 h0 [] := Keep.refl _ _
  show own_G p e below s (Q0 Z p0_0 p0_1 p0_2 q0_3 h0 n0) 16 128 s₁ (entryFrame m #[(.int p0_0), (.int p0_1), (.int p0_2), (.long q0_3)] maxLocals)
  have ww0 := hw _ (List.mem_of_getElem? (i := 0) rfl)
  have ww1 := hw _ (List.mem_of_getElem? (i := 1) rfl)
  have ww2 := hw _ (List.mem_of_getElem? (i := 2) rfl)
  have ww3 := hw _ (List.mem_of_getElem? (i := 3) rfl)
  have ww4 := hw _ (List.mem_of_getElem? (i := 4) rfl)
  have ww5 := hw _ (List.mem_of_getElem? (i := 5) rfl)
  have ww15 := hw _ (List.mem_of_getElem? (i := 15) rfl)
  have ww17 := hw _ (List.mem_of_getElem? (i := 17) rfl)
  have ww19 := hw _ (List.mem_of_getElem? (i := 19) rfl)
  have ww21 := hw _ (List.mem_of_getElem? (i := 21) rfl)
  have ww22 := hw _ (List.mem_of_getElem? (i := 22) rfl)
  have ww23 := hw _ (List.mem_of_getElem? (i := 23) rfl)
  have ww24 := hw _ (List.mem_of_getElem? (i := 24) rfl)
  have ww25 := hw _ (List.mem_of_getElem? (i := 25) rfl)
  have ww26 := hw _ (List.mem_of_getElem? (i := 26) rfl)
  refine own_cast (ef_0 m p0_0 p0_1 p0_2 q0_3) ?_
  refine own_s (g' := (mkF m 1 #[.val (.int p0_0), .val (.int p0_1), .val (.int p0_2), .val (.long q0_3), .second, .unset, .unset, .unset] [(.int p0_2)])) (fun _ k => XS.iloadN X0.here hx rfl (hb hby at_0) rfl k) ?_
  refine own_s (g' := (mkF m 3 #[.val (.int p0_0), .val (.int p0_1), .val (.int p0_2), .val (.long q0_3), .second, .unset, .unset, .unset] [(.int 31), (.int p0_2)])) (fun _ k => XS.bipush X0.here hx rfl (hb hby at_1) k) ?_
  refine own_s (g' := (mkF m 4 #[.val (.int p0_0), .val (.int p0_1), .val (.int p0_2), .val (.long q0_3), .second, .unset, .unset, .unset] [(.int (p0_2 &&& (31 : Int32)))])) (fun _ k => XS.iand X0.here hx rfl (hb hby at_3) rfl k) ?_
  refine own_s (g' := (mkF m 6 #[.val (.int p0_0), .val (.int p0_1), .val (.int p0_2), .val (.long q0_3), .second, .val (.int (p0_2 &&& (31 : Int32))), .unset, .unset] [])) (fun _ k => XS.istore X0.here hx rfl (hb hby at_4) rfl (l' := #[.val (.int p0_0), .val (.int p0_1), .val (.int p0_2), .val (.long q0_3), .second, .val (.int (p0_2 &&& (31 : Int32))), .unset, .unset]) rfl k) ?_
  obtain ⟨T26, h26, X26, e26, E26, A26, D26, -, st26⟩ := newO X0 hx hZ hown ww0 ww1 ww2 e0 (g := (mkF m 6 #[.val (.int p0_0), .val (.int p0_1), .val (.int p0_2), .val (.long q0_3), .second, .val (.int (p0_2 &&& (31 : Int32))), .unset, .unset] [])) rfl (hb hby at_6) (by decide) (by decide)
  obtain ⟨b26, ga26⟩ : ∃ z, z = h0.size := ⟨_, rfl⟩
  rw [← ga26] at A26 D26 st26
  have g_b26 := Nat.le_trans Z0 (Nat.le_of_eq ga26.symm)
  have sz_b26 := Nat.le_trans K0.1 (Nat.le_of_eq ga26.symm)
  have f26_offset : Fld Z h26 b26 "com/example/arcwise/arcwise/CborReader$Head" "offset" "I" (.int 0) := D26 (Or.inr ww15) (ty := .int) (by decide)
  have f26_major : Fld Z h26 b26 "com/example/arcwise/arcwise/CborReader$Head" "major" "I" (.int 0) := D26 (Or.inr ww17) (ty := .int) (by decide)
  have f26_info : Fld Z h26 b26 "com/example/arcwise/arcwise/CborReader$Head" "info" "I" (.int 0) := D26 (Or.inr ww19) (ty := .int) (by decide)
  have f26_argument : Fld Z h26 b26 "com/example/arcwise/arcwise/CborReader$Head" "argument" "J" (.long 0) := D26 (Or.inr ww21) (ty := .long) (by decide)
  have K26 := K0.ext E26
  refine own_s (g' := (mkF m 9 #[.val (.int p0_0), .val (.int p0_1), .val (.int p0_2), .val (.long q0_3), .second, .val (.int (p0_2 &&& (31 : Int32))), .unset, .unset] [(.ref b26)])) st26 ?_
  refine own_s (g' := (mkF m 10 #[.val (.int p0_0), .val (.int p0_1), .val (.int p0_2), .val (.long q0_3), .second, .val (.int (p0_2 &&& (31 : Int32))), .unset, .unset] [(.ref b26), (.ref b26)])) (fun _ k => XS.dup X26.here hx rfl (hb hby at_9) rfl rfl k) ?_
  refine own_s (g' := (mkF m 11 #[.val (.int p0_0), .val (.int p0_1), .val (.int p0_2), .val (.long q0_3), .second, .val (.int (p0_2 &&& (31 : Int32))), .unset, .unset] [(.int p0_0), (.ref b26), (.ref b26)])) (fun _ k => XS.iloadN X26.here hx rfl (hb hby at_10) rfl k) ?_
  refine own_s (g' := (mkF m 12 #[.val (.int p0_0), .val (.int p0_1), .val (.int p0_2), .val (.long q0_3), .second, .val (.int (p0_2 &&& (31 : Int32))), .unset, .unset] [(.int p0_1), (.int p0_0), (.ref b26), (.ref b26)])) (fun _ k => XS.iloadN X26.here hx rfl (hb hby at_11) rfl k) ?_
  refine own_s (g' := (mkF m 14 #[.val (.int p0_0), .val (.int p0_1), .val (.int p0_2), .val (.long q0_3), .second, .val (.int (p0_2 &&& (31 : Int32))), .unset, .unset] [(.int 7), (.int p0_1), (.int p0_0), (.ref b26), (.ref b26)])) (fun _ k => XS.bipush X26.here hx rfl (hb hby at_12) k) ?_
  refine own_s (g' := (mkF m 15 #[.val (.int p0_0), .val (.int p0_1), .val (.int p0_2), .val (.long q0_3), .second, .val (.int (p0_2 &&& (31 : Int32))), .unset, .unset] [(.int (p0_1 &&& (7 : Int32))), (.int p0_0), (.ref b26), (.ref b26)])) (fun _ k => XS.iand X26.here hx rfl (hb hby at_14) rfl k) ?_
  refine own_s (g' := (mkF m 17 #[.val (.int p0_0), .val (.int p0_1), .val (.int p0_2), .val (.long q0_3), .second, .val (.int (p0_2 &&& (31 : Int32))), .unset, .unset] [(.int (p0_2 &&& (31 : Int32))), (.int (p0_1 &&& (7 : Int32))), (.int p0_0), (.ref b26), (.ref b26)])) (fun _ k => XS.iload X26.here hx rfl (hb hby at_15) rfl k) ?_
  refine own_s (g' := (mkF m 18 #[.val (.int p0_0), .val (.int p0_1), .val (.int p0_2), .val (.long q0_3), .second, .val (.int (p0_2 &&& (31 : Int32))), .unset, .unset] [(.long q0_3), (.int (p0_2 &&& (31 : Int32))), (.int (p0_1 &&& (7 : Int32))), (.int p0_0), (.ref b26), (.ref b26)])) (fun _ k => XS.lloadN X26.here hx rfl (hb hby at_17) rfl k) ?_
  obtain ⟨_, _, ⟨T27, L27, k27, n27⟩, -, X27, ⟨Lc27, hQ27, l27, y27, z27⟩, st27⟩ := X26.specialBack hx (y := (⟨"com/example/arcwise/arcwise/CborReader$Head", "<init>", "(IIIJ)V"⟩ : MethodName)) rfl hown (mvT hZ ww3) (mvT hZ ww4) (mvT hZ ww5) (by decide) (backOf (W := 1) (rm1 l Z a0 hw [] b26 p0_0 (p0_1 &&& (7 : Int32)) (p0_2 &&& (31 : Int32)) q0_3 (0 : Int32) (0 : Int32) (0 : Int32) (0 : Int64) h26 n0 (Nat.le_trans Z0 K26.1) f26_offset f26_major f26_info f26_argument A26 g_b26) hZ ww5 ww2 (by decide) (by decide)) (g := (mkF m 18 #[.val (.int p0_0), .val (.int p0_1), .val (.int p0_2), .val (.long q0_3), .second, .val (.int (p0_2 &&& (31 : Int32))), .unset, .unset] [(.long q0_3), (.int (p0_2 &&& (31 : Int32))), (.int (p0_1 &&& (7 : Int32))), (.int p0_0), (.ref b26), (.ref b26)])) rfl (by rw [hml]; rfl) (Steps.refl _) (a := b26) (argsL := [(.int p0_0), (.int (p0_1 &&& (7 : Int32))), (.int (p0_2 &&& (31 : Int32))), (.long q0_3)]) (rest := [(.ref b26)]) (lenOf pd__IIIJ_V rfl) rfl (by show 2 * 0 + _ ≤ _; exact Nat.le_of_eq rfl) (hb hby at_18) (fun _ _ => ⟨rfl, e26, (by decide : 1 + 0 ≤ _), (by decide : 4 + 0 ≤ _)⟩)
  dsimp only [Pt.U, Pt.locs, Pt.cells, Pt.slots] at X27 l27 y27 z27 st27 hQ27
  subst l27 y27 z27
  obtain ⟨rfl, N27q, K27q, f28, f29, f30, f31, f32⟩ := hQ27
  have K27 := K26.trans K27q (allS (Or.inr sz_b26) all0)
  have N27 := Fr.app N0 N27q
  refine own_trans (g' := (mkF m 21 #[.val (.int p0_0), .val (.int p0_1), .val (.int p0_2), .val (.long q0_3), .second, .val (.int (p0_2 &&& (31 : Int32))), .unset, .unset] [(.ref b26)])) st27 ?_
  refine own_s (g' := (mkF m 23 #[.val (.int p0_0), .val (.int p0_1), .val (.int p0_2), .val (.long q0_3), .second, .val (.int (p0_2 &&& (31 : Int32))), .val (.ref b26), .unset] [])) (fun _ k => XS.astore X27.here hx rfl (hb hby at_21) rfl rfl (l' := #[.val (.int p0_0), .val (.int p0_1), .val (.int p0_2), .val (.long q0_3), .second, .val (.int (p0_2 &&& (31 : Int32))), .val (.ref b26), .unset]) rfl k) ?_
  refine own_s (g' := (mkF m 25 #[.val (.int p0_0), .val (.int p0_1), .val (.int p0_2), .val (.long q0_3), .second, .val (.int (p0_2 &&& (31 : Int32))), .val (.ref b26), .unset] [(.int (p0_2 &&& (31 : Int32)))])) (fun _ k => XS.iload X27.here hx rfl (hb hby at_23) rfl k) ?_
  refine own_s (g' := (mkF m 27 #[.val (.int p0_0), .val (.int p0_1), .val (.int p0_2), .val (.long q0_3), .second, .val (.int (p0_2 &&& (31 : Int32))), .val (.ref b26), .unset] [(.int 24), (.int (p0_2 &&& (31 : Int32)))])) (fun _ k => XS.bipush X27.here hx rfl (hb hby at_25) k) ?_
  by_cases c33 : (p0_2 &&& (31 : Int32)) = (24 : Int32)
  ·skip
   refine own_s (g' := (mkF m 30 #[.val (.int p0_0), .val (.int p0_1), .val (.int p0_2), .val (.long q0_3), .second, .val (.int (p0_2 &&& (31 : Int32))), .val (.ref b26), .unset] [])) (fun _ k => XS.icmpNo X27.here hx rfl (hb hby at_27) rfl (teq c33).2 k) ?_
   refine own_s (g' := (mkF m 31 #[.val (.int p0_0), .val (.int p0_1), .val (.int p0_2), .val (.long q0_3), .second, .val (.int (p0_2 &&& (31 : Int32))), .val (.ref b26), .unset] [(.int 2)])) (fun _ k => XS.iconst X27.here hx rfl (hb hby at_30) k) ?_
   refine own_s (g' := (mkF m 33 #[.val (.int p0_0), .val (.int p0_1), .val (.int p0_2), .val (.long q0_3), .second, .val (.int (p0_2 &&& (31 : Int32))), .val (.ref b26), .val (.int 2)] [])) (fun _ k => XS.istore X27.here hx rfl (hb hby at_31) rfl (l' := #[.val (.int p0_0), .val (.int p0_1), .val (.int p0_2), .val (.long q0_3), .second, .val (.int (p0_2 &&& (31 : Int32))), .val (.ref b26), .val (.int 2)]) rfl k) ?_
   refine own_s (g' := (mkF m 79 #[.val (.int p0_0), .val (.int p0_1), .val (.int p0_2), .val (.long q0_3), .second, .val (.int (p0_2 &&& (31 : Int32))), .val (.ref b26), .val (.int 2)] [])) (fun _ k => XS.goto X27.here hx rfl (pc0 := 33) (pc' := 79) rfl (hb hby at_33) (by decide) (by decide) k) ?_
   refine own_s (g' := (mkF m 81 #[.val (.int p0_0), .val (.int p0_1), .val (.int p0_2), .val (.long q0_3), .second, .val (.int (p0_2 &&& (31 : Int32))), .val (.ref b26), .val (.int 2)] [(.ref b26)])) (fun _ k => XS.aload X27.here hx rfl (hb hby at_79) rfl rfl k) ?_
   obtain ⟨cq34, kq34, q34a, q34b, q34c⟩ := isOf hZ rfl f28
   obtain ⟨_, _, ⟨T34, L34, k34, n34⟩, -, X34, ⟨Lc34, hQ34, l34, y34, z34⟩, st34⟩ := X27.virtualBack hx (y := (⟨"com/example/arcwise/arcwise/CborReader$Head", "size", "()I"⟩ : MethodName)) (z := (⟨"com/example/arcwise/arcwise/CborReader$Head", "size", "()I"⟩ : MethodName)) hown (mvT hZ ww22) (mvT hZ ww23) (notFace_of_selects (args := #[]) (mvT hZ ww25)) (mvT hZ ww25) (mvT hZ ww24) (by decide) (backOf (W := 0) (rm4 l Z a0 hw [] b26 (p0_2 &&& (31 : Int32)) T27.heap n0 (Nat.le_trans Z0 K27.1) f31) hZ ww26 ww2 (by decide) (by decide)) q34a q34c (g := (mkF m 81 #[.val (.int p0_0), .val (.int p0_1), .val (.int p0_2), .val (.long q0_3), .second, .val (.int (p0_2 &&& (31 : Int32))), .val (.ref b26), .val (.int 2)] [(.ref b26)])) rfl (by rw [hml]; rfl) (Steps.refl _) (argsL := []) (rest := []) (lenOf pd___I rfl) rfl (by show 2 * 0 + _ ≤ _; exact Nat.le_of_eq rfl) (hb hby at_81) (fun _ _ => ⟨rfl, rfl, (by decide : 1 + 0 ≤ _), (by decide : 4 + 0 ≤ _)⟩)
   dsimp only [Pt.U, Pt.locs, Pt.cells, Pt.slots] at X34 l34 y34 z34 st34 hQ34
   subst l34 y34 z34
   obtain ⟨rfl, N34q, eh34⟩ := hQ34
   have N34 := Fr.app N27 N34q
   refine own_trans (g' := (mkF m 84 #[.val (.int p0_0), .val (.int p0_1), .val (.int p0_2), .val (.long q0_3), .second, .val (.int (p0_2 &&& (31 : Int32))), .val (.ref b26), .val (.int 2)] [(.int (r4 (p0_2 &&& (31 : Int32))))])) st34 ?_
   rw [show (r4 (p0_2 &&& (31 : Int32))) = ((1 : Int32) + ((1 : Int32) <<< (((p0_2 &&& (31 : Int32)) - (24 : Int32)) &&& 31))) from ((if_neg ((own_eqltI c33) : ¬ (p0_2 &&& (31 : Int32)) < (24 : Int32))).trans (if_neg ((by rw [c33]; decide) : ¬ (27 : Int32) < (p0_2 &&& (31 : Int32)))))]
   refine own_s (g' := (mkF m 86 #[.val (.int p0_0), .val (.int p0_1), .val (.int p0_2), .val (.long q0_3), .second, .val (.int (p0_2 &&& (31 : Int32))), .val (.ref b26), .val (.int 2)] [(.int 2), (.int ((1 : Int32) + ((1 : Int32) <<< (((p0_2 &&& (31 : Int32)) - (24 : Int32)) &&& 31))))])) (fun _ k => XS.iload X34.here hx rfl (hb hby at_84) rfl k) ?_
   refine own_s (g' := (mkF m 89 #[.val (.int p0_0), .val (.int p0_1), .val (.int p0_2), .val (.long q0_3), .second, .val (.int (p0_2 &&& (31 : Int32))), .val (.ref b26), .val (.int 2)] [])) (fun _ k => XS.icmpNo X34.here hx rfl (hb hby at_86) rfl (teq ((by rw [c33]; decide) : ((1 : Int32) + ((1 : Int32) <<< (((p0_2 &&& (31 : Int32)) - (24 : Int32)) &&& 31))) = (2 : Int32))).2 k) ?_
   refine own_s (g' := (mkF m 90 #[.val (.int p0_0), .val (.int p0_1), .val (.int p0_2), .val (.long q0_3), .second, .val (.int (p0_2 &&& (31 : Int32))), .val (.ref b26), .val (.int 2)] [(.int 1)])) (fun _ k => XS.iconst X34.here hx rfl (hb hby at_89) k) ?_
   refine own_s (g' := (mkF m 94 #[.val (.int p0_0), .val (.int p0_1), .val (.int p0_2), .val (.long q0_3), .second, .val (.int (p0_2 &&& (31 : Int32))), .val (.ref b26), .val (.int 2)] [(.int 1)])) (fun _ k => XS.goto X34.here hx rfl (pc0 := 90) (pc' := 94) rfl (hb hby at_90) (by decide) (by decide) k) ?_
   refine own_retN X34 hx hlk (t := .boolean) hret (by simp) (hb hby at_94) (z' := (1 : Int32)) (by decide) (by decide) (by decide) ?_
   show Q0 Z p0_0 p0_1 p0_2 q0_3 h0 n0 _ T34.heap _
   rw [eh34]
   exact ⟨rfl, N34⟩
  ·skip
   refine own_s (g' := (mkF m 36 #[.val (.int p0_0), .val (.int p0_1), .val (.int p0_2), .val (.long q0_3), .second, .val (.int (p0_2 &&& (31 : Int32))), .val (.ref b26), .unset] [])) (fun _ k => XS.icmpYes X27.here hx rfl (pc0 := 27) (pc' := 36) rfl (hb hby at_27) rfl (feq c33).2 (by decide) (by decide) k) ?_
   refine own_s (g' := (mkF m 38 #[.val (.int p0_0), .val (.int p0_1), .val (.int p0_2), .val (.long q0_3), .second, .val (.int (p0_2 &&& (31 : Int32))), .val (.ref b26), .unset] [(.int (p0_2 &&& (31 : Int32)))])) (fun _ k => XS.iload X27.here hx rfl (hb hby at_36) rfl k) ?_
   refine own_s (g' := (mkF m 40 #[.val (.int p0_0), .val (.int p0_1), .val (.int p0_2), .val (.long q0_3), .second, .val (.int (p0_2 &&& (31 : Int32))), .val (.ref b26), .unset] [(.int 25), (.int (p0_2 &&& (31 : Int32)))])) (fun _ k => XS.bipush X27.here hx rfl (hb hby at_38) k) ?_
   by_cases c35 : (p0_2 &&& (31 : Int32)) = (25 : Int32)
   ·skip
    refine own_s (g' := (mkF m 43 #[.val (.int p0_0), .val (.int p0_1), .val (.int p0_2), .val (.long q0_3), .second, .val (.int (p0_2 &&& (31 : Int32))), .val (.ref b26), .unset] [])) (fun _ k => XS.icmpNo X27.here hx rfl (hb hby at_40) rfl (teq c35).2 k) ?_
    refine own_s (g' := (mkF m 44 #[.val (.int p0_0), .val (.int p0_1), .val (.int p0_2), .val (.long q0_3), .second, .val (.int (p0_2 &&& (31 : Int32))), .val (.ref b26), .unset] [(.int 3)])) (fun _ k => XS.iconst X27.here hx rfl (hb hby at_43) k) ?_
    refine own_s (g' := (mkF m 46 #[.val (.int p0_0), .val (.int p0_1), .val (.int p0_2), .val (.long q0_3), .second, .val (.int (p0_2 &&& (31 : Int32))), .val (.ref b26), .val (.int 3)] [])) (fun _ k => XS.istore X27.here hx rfl (hb hby at_44) rfl (l' := #[.val (.int p0_0), .val (.int p0_1), .val (.int p0_2), .val (.long q0_3), .second, .val (.int (p0_2 &&& (31 : Int32))), .val (.ref b26), .val (.int 3)]) rfl k) ?_
    refine own_s (g' := (mkF m 79 #[.val (.int p0_0), .val (.int p0_1), .val (.int p0_2), .val (.long q0_3), .second, .val (.int (p0_2 &&& (31 : Int32))), .val (.ref b26), .val (.int 3)] [])) (fun _ k => XS.goto X27.here hx rfl (pc0 := 46) (pc' := 79) rfl (hb hby at_46) (by decide) (by decide) k) ?_
    refine own_s (g' := (mkF m 81 #[.val (.int p0_0), .val (.int p0_1), .val (.int p0_2), .val (.long q0_3), .second, .val (.int (p0_2 &&& (31 : Int32))), .val (.ref b26), .val (.int 3)] [(.ref b26)])) (fun _ k => XS.aload X27.here hx rfl (hb hby at_79) rfl rfl k) ?_
    obtain ⟨cq36, kq36, q36a, q36b, q36c⟩ := isOf hZ rfl f28
    obtain ⟨_, _, ⟨T36, L36, k36, n36⟩, -, X36, ⟨Lc36, hQ36, l36, y36, z36⟩, st36⟩ := X27.virtualBack hx (y := (⟨"com/example/arcwise/arcwise/CborReader$Head", "size", "()I"⟩ : MethodName)) (z := (⟨"com/example/arcwise/arcwise/CborReader$Head", "size", "()I"⟩ : MethodName)) hown (mvT hZ ww22) (mvT hZ ww23) (notFace_of_selects (args := #[]) (mvT hZ ww25)) (mvT hZ ww25) (mvT hZ ww24) (by decide) (backOf (W := 0) (rm4 l Z a0 hw [] b26 (p0_2 &&& (31 : Int32)) T27.heap n0 (Nat.le_trans Z0 K27.1) f31) hZ ww26 ww2 (by decide) (by decide)) q36a q36c (g := (mkF m 81 #[.val (.int p0_0), .val (.int p0_1), .val (.int p0_2), .val (.long q0_3), .second, .val (.int (p0_2 &&& (31 : Int32))), .val (.ref b26), .val (.int 3)] [(.ref b26)])) rfl (by rw [hml]; rfl) (Steps.refl _) (argsL := []) (rest := []) (lenOf pd___I rfl) rfl (by show 2 * 0 + _ ≤ _; exact Nat.le_of_eq rfl) (hb hby at_81) (fun _ _ => ⟨rfl, rfl, (by decide : 1 + 0 ≤ _), (by decide : 4 + 0 ≤ _)⟩)
    dsimp only [Pt.U, Pt.locs, Pt.cells, Pt.slots] at X36 l36 y36 z36 st36 hQ36
    subst l36 y36 z36
    obtain ⟨rfl, N36q, eh36⟩ := hQ36
    have N36 := Fr.app N27 N36q
    refine own_trans (g' := (mkF m 84 #[.val (.int p0_0), .val (.int p0_1), .val (.int p0_2), .val (.long q0_3), .second, .val (.int (p0_2 &&& (31 : Int32))), .val (.ref b26), .val (.int 3)] [(.int (r4 (p0_2 &&& (31 : Int32))))])) st36 ?_
    rw [show (r4 (p0_2 &&& (31 : Int32))) = ((1 : Int32) + ((1 : Int32) <<< (((p0_2 &&& (31 : Int32)) - (24 : Int32)) &&& 31))) from ((if_neg ((by rw [c35]; decide) : ¬ (p0_2 &&& (31 : Int32)) < (24 : Int32))).trans (if_neg ((by rw [c35]; decide) : ¬ (27 : Int32) < (p0_2 &&& (31 : Int32)))))]
    refine own_s (g' := (mkF m 86 #[.val (.int p0_0), .val (.int p0_1), .val (.int p0_2), .val (.long q0_3), .second, .val (.int (p0_2 &&& (31 : Int32))), .val (.ref b26), .val (.int 3)] [(.int 3), (.int ((1 : Int32) + ((1 : Int32) <<< (((p0_2 &&& (31 : Int32)) - (24 : Int32)) &&& 31))))])) (fun _ k => XS.iload X36.here hx rfl (hb hby at_84) rfl k) ?_
    refine own_s (g' := (mkF m 89 #[.val (.int p0_0), .val (.int p0_1), .val (.int p0_2), .val (.long q0_3), .second, .val (.int (p0_2 &&& (31 : Int32))), .val (.ref b26), .val (.int 3)] [])) (fun _ k => XS.icmpNo X36.here hx rfl (hb hby at_86) rfl (teq ((by rw [c35]; decide) : ((1 : Int32) + ((1 : Int32) <<< (((p0_2 &&& (31 : Int32)) - (24 : Int32)) &&& 31))) = (3 : Int32))).2 k) ?_
    refine own_s (g' := (mkF m 90 #[.val (.int p0_0), .val (.int p0_1), .val (.int p0_2), .val (.long q0_3), .second, .val (.int (p0_2 &&& (31 : Int32))), .val (.ref b26), .val (.int 3)] [(.int 1)])) (fun _ k => XS.iconst X36.here hx rfl (hb hby at_89) k) ?_
    refine own_s (g' := (mkF m 94 #[.val (.int p0_0), .val (.int p0_1), .val (.int p0_2), .val (.long q0_3), .second, .val (.int (p0_2 &&& (31 : Int32))), .val (.ref b26), .val (.int 3)] [(.int 1)])) (fun _ k => XS.goto X36.here hx rfl (pc0 := 90) (pc' := 94) rfl (hb hby at_90) (by decide) (by decide) k) ?_
    refine own_retN X36 hx hlk (t := .boolean) hret (by simp) (hb hby at_94) (z' := (1 : Int32)) (by decide) (by decide) (by decide) ?_
    show Q0 Z p0_0 p0_1 p0_2 q0_3 h0 n0 _ T36.heap _
    rw [eh36]
    exact ⟨rfl, N36⟩
   ·skip
    refine own_s (g' := (mkF m 49 #[.val (.int p0_0), .val (.int p0_1), .val (.int p0_2), .val (.long q0_3), .second, .val (.int (p0_2 &&& (31 : Int32))), .val (.ref b26), .unset] [])) (fun _ k => XS.icmpYes X27.here hx rfl (pc0 := 40) (pc' := 49) rfl (hb hby at_40) rfl (feq c35).2 (by decide) (by decide) k) ?_
    refine own_s (g' := (mkF m 51 #[.val (.int p0_0), .val (.int p0_1), .val (.int p0_2), .val (.long q0_3), .second, .val (.int (p0_2 &&& (31 : Int32))), .val (.ref b26), .unset] [(.int (p0_2 &&& (31 : Int32)))])) (fun _ k => XS.iload X27.here hx rfl (hb hby at_49) rfl k) ?_
    refine own_s (g' := (mkF m 53 #[.val (.int p0_0), .val (.int p0_1), .val (.int p0_2), .val (.long q0_3), .second, .val (.int (p0_2 &&& (31 : Int32))), .val (.ref b26), .unset] [(.int 26), (.int (p0_2 &&& (31 : Int32)))])) (fun _ k => XS.bipush X27.here hx rfl (hb hby at_51) k) ?_
    by_cases c37 : (p0_2 &&& (31 : Int32)) = (26 : Int32)
    ·skip
     refine own_s (g' := (mkF m 56 #[.val (.int p0_0), .val (.int p0_1), .val (.int p0_2), .val (.long q0_3), .second, .val (.int (p0_2 &&& (31 : Int32))), .val (.ref b26), .unset] [])) (fun _ k => XS.icmpNo X27.here hx rfl (hb hby at_53) rfl (teq c37).2 k) ?_
     refine own_s (g' := (mkF m 57 #[.val (.int p0_0), .val (.int p0_1), .val (.int p0_2), .val (.long q0_3), .second, .val (.int (p0_2 &&& (31 : Int32))), .val (.ref b26), .unset] [(.int 5)])) (fun _ k => XS.iconst X27.here hx rfl (hb hby at_56) k) ?_
     refine own_s (g' := (mkF m 59 #[.val (.int p0_0), .val (.int p0_1), .val (.int p0_2), .val (.long q0_3), .second, .val (.int (p0_2 &&& (31 : Int32))), .val (.ref b26), .val (.int 5)] [])) (fun _ k => XS.istore X27.here hx rfl (hb hby at_57) rfl (l' := #[.val (.int p0_0), .val (.int p0_1), .val (.int p0_2), .val (.long q0_3), .second, .val (.int (p0_2 &&& (31 : Int32))), .val (.ref b26), .val (.int 5)]) rfl k) ?_
     refine own_s (g' := (mkF m 79 #[.val (.int p0_0), .val (.int p0_1), .val (.int p0_2), .val (.long q0_3), .second, .val (.int (p0_2 &&& (31 : Int32))), .val (.ref b26), .val (.int 5)] [])) (fun _ k => XS.goto X27.here hx rfl (pc0 := 59) (pc' := 79) rfl (hb hby at_59) (by decide) (by decide) k) ?_
     refine own_s (g' := (mkF m 81 #[.val (.int p0_0), .val (.int p0_1), .val (.int p0_2), .val (.long q0_3), .second, .val (.int (p0_2 &&& (31 : Int32))), .val (.ref b26), .val (.int 5)] [(.ref b26)])) (fun _ k => XS.aload X27.here hx rfl (hb hby at_79) rfl rfl k) ?_
     obtain ⟨cq38, kq38, q38a, q38b, q38c⟩ := isOf hZ rfl f28
     obtain ⟨_, _, ⟨T38, L38, k38, n38⟩, -, X38, ⟨Lc38, hQ38, l38, y38, z38⟩, st38⟩ := X27.virtualBack hx (y := (⟨"com/example/arcwise/arcwise/CborReader$Head", "size", "()I"⟩ : MethodName)) (z := (⟨"com/example/arcwise/arcwise/CborReader$Head", "size", "()I"⟩ : MethodName)) hown (mvT hZ ww22) (mvT hZ ww23) (notFace_of_selects (args := #[]) (mvT hZ ww25)) (mvT hZ ww25) (mvT hZ ww24) (by decide) (backOf (W := 0) (rm4 l Z a0 hw [] b26 (p0_2 &&& (31 : Int32)) T27.heap n0 (Nat.le_trans Z0 K27.1) f31) hZ ww26 ww2 (by decide) (by decide)) q38a q38c (g := (mkF m 81 #[.val (.int p0_0), .val (.int p0_1), .val (.int p0_2), .val (.long q0_3), .second, .val (.int (p0_2 &&& (31 : Int32))), .val (.ref b26), .val (.int 5)] [(.ref b26)])) rfl (by rw [hml]; rfl) (Steps.refl _) (argsL := []) (rest := []) (lenOf pd___I rfl) rfl (by show 2 * 0 + _ ≤ _; exact Nat.le_of_eq rfl) (hb hby at_81) (fun _ _ => ⟨rfl, rfl, (by decide : 1 + 0 ≤ _), (by decide : 4 + 0 ≤ _)⟩)
     dsimp only [Pt.U, Pt.locs, Pt.cells, Pt.slots] at X38 l38 y38 z38 st38 hQ38
     subst l38 y38 z38
     obtain ⟨rfl, N38q, eh38⟩ := hQ38
     have N38 := Fr.app N27 N38q
     refine own_trans (g' := (mkF m 84 #[.val (.int p0_0), .val (.int p0_1), .val (.int p0_2), .val (.long q0_3), .second, .val (.int (p0_2 &&& (31 : Int32))), .val (.ref b26), .val (.int 5)] [(.int (r4 (p0_2 &&& (31 : Int32))))])) st38 ?_
     rw [show (r4 (p0_2 &&& (31 : Int32))) = ((1 : Int32) + ((1 : Int32) <<< (((p0_2 &&& (31 : Int32)) - (24 : Int32)) &&& 31))) from ((if_neg ((by rw [c37]; decide) : ¬ (p0_2 &&& (31 : Int32)) < (24 : Int32))).trans (if_neg ((by rw [c37]; decide) : ¬ (27 : Int32) < (p0_2 &&& (31 : Int32)))))]
     refine own_s (g' := (mkF m 86 #[.val (.int p0_0), .val (.int p0_1), .val (.int p0_2), .val (.long q0_3), .second, .val (.int (p0_2 &&& (31 : Int32))), .val (.ref b26), .val (.int 5)] [(.int 5), (.int ((1 : Int32) + ((1 : Int32) <<< (((p0_2 &&& (31 : Int32)) - (24 : Int32)) &&& 31))))])) (fun _ k => XS.iload X38.here hx rfl (hb hby at_84) rfl k) ?_
     refine own_s (g' := (mkF m 89 #[.val (.int p0_0), .val (.int p0_1), .val (.int p0_2), .val (.long q0_3), .second, .val (.int (p0_2 &&& (31 : Int32))), .val (.ref b26), .val (.int 5)] [])) (fun _ k => XS.icmpNo X38.here hx rfl (hb hby at_86) rfl (teq ((by rw [c37]; decide) : ((1 : Int32) + ((1 : Int32) <<< (((p0_2 &&& (31 : Int32)) - (24 : Int32)) &&& 31))) = (5 : Int32))).2 k) ?_
     refine own_s (g' := (mkF m 90 #[.val (.int p0_0), .val (.int p0_1), .val (.int p0_2), .val (.long q0_3), .second, .val (.int (p0_2 &&& (31 : Int32))), .val (.ref b26), .val (.int 5)] [(.int 1)])) (fun _ k => XS.iconst X38.here hx rfl (hb hby at_89) k) ?_
     refine own_s (g' := (mkF m 94 #[.val (.int p0_0), .val (.int p0_1), .val (.int p0_2), .val (.long q0_3), .second, .val (.int (p0_2 &&& (31 : Int32))), .val (.ref b26), .val (.int 5)] [(.int 1)])) (fun _ k => XS.goto X38.here hx rfl (pc0 := 90) (pc' := 94) rfl (hb hby at_90) (by decide) (by decide) k) ?_
     refine own_retN X38 hx hlk (t := .boolean) hret (by simp) (hb hby at_94) (z' := (1 : Int32)) (by decide) (by decide) (by decide) ?_
     show Q0 Z p0_0 p0_1 p0_2 q0_3 h0 n0 _ T38.heap _
     rw [eh38]
     exact ⟨rfl, N38⟩
    ·skip
     refine own_s (g' := (mkF m 62 #[.val (.int p0_0), .val (.int p0_1), .val (.int p0_2), .val (.long q0_3), .second, .val (.int (p0_2 &&& (31 : Int32))), .val (.ref b26), .unset] [])) (fun _ k => XS.icmpYes X27.here hx rfl (pc0 := 53) (pc' := 62) rfl (hb hby at_53) rfl (feq c37).2 (by decide) (by decide) k) ?_
     refine own_s (g' := (mkF m 64 #[.val (.int p0_0), .val (.int p0_1), .val (.int p0_2), .val (.long q0_3), .second, .val (.int (p0_2 &&& (31 : Int32))), .val (.ref b26), .unset] [(.int (p0_2 &&& (31 : Int32)))])) (fun _ k => XS.iload X27.here hx rfl (hb hby at_62) rfl k) ?_
     refine own_s (g' := (mkF m 66 #[.val (.int p0_0), .val (.int p0_1), .val (.int p0_2), .val (.long q0_3), .second, .val (.int (p0_2 &&& (31 : Int32))), .val (.ref b26), .unset] [(.int 27), (.int (p0_2 &&& (31 : Int32)))])) (fun _ k => XS.bipush X27.here hx rfl (hb hby at_64) k) ?_
     by_cases c39 : (p0_2 &&& (31 : Int32)) = (27 : Int32)
     ·skip
      refine own_s (g' := (mkF m 69 #[.val (.int p0_0), .val (.int p0_1), .val (.int p0_2), .val (.long q0_3), .second, .val (.int (p0_2 &&& (31 : Int32))), .val (.ref b26), .unset] [])) (fun _ k => XS.icmpNo X27.here hx rfl (hb hby at_66) rfl (teq c39).2 k) ?_
      refine own_s (g' := (mkF m 71 #[.val (.int p0_0), .val (.int p0_1), .val (.int p0_2), .val (.long q0_3), .second, .val (.int (p0_2 &&& (31 : Int32))), .val (.ref b26), .unset] [(.int 9)])) (fun _ k => XS.bipush X27.here hx rfl (hb hby at_69) k) ?_
      refine own_s (g' := (mkF m 73 #[.val (.int p0_0), .val (.int p0_1), .val (.int p0_2), .val (.long q0_3), .second, .val (.int (p0_2 &&& (31 : Int32))), .val (.ref b26), .val (.int 9)] [])) (fun _ k => XS.istore X27.here hx rfl (hb hby at_71) rfl (l' := #[.val (.int p0_0), .val (.int p0_1), .val (.int p0_2), .val (.long q0_3), .second, .val (.int (p0_2 &&& (31 : Int32))), .val (.ref b26), .val (.int 9)]) rfl k) ?_
      refine own_s (g' := (mkF m 79 #[.val (.int p0_0), .val (.int p0_1), .val (.int p0_2), .val (.long q0_3), .second, .val (.int (p0_2 &&& (31 : Int32))), .val (.ref b26), .val (.int 9)] [])) (fun _ k => XS.goto X27.here hx rfl (pc0 := 73) (pc' := 79) rfl (hb hby at_73) (by decide) (by decide) k) ?_
      refine own_s (g' := (mkF m 81 #[.val (.int p0_0), .val (.int p0_1), .val (.int p0_2), .val (.long q0_3), .second, .val (.int (p0_2 &&& (31 : Int32))), .val (.ref b26), .val (.int 9)] [(.ref b26)])) (fun _ k => XS.aload X27.here hx rfl (hb hby at_79) rfl rfl k) ?_
      obtain ⟨cq40, kq40, q40a, q40b, q40c⟩ := isOf hZ rfl f28
      obtain ⟨_, _, ⟨T40, L40, k40, n40⟩, -, X40, ⟨Lc40, hQ40, l40, y40, z40⟩, st40⟩ := X27.virtualBack hx (y := (⟨"com/example/arcwise/arcwise/CborReader$Head", "size", "()I"⟩ : MethodName)) (z := (⟨"com/example/arcwise/arcwise/CborReader$Head", "size", "()I"⟩ : MethodName)) hown (mvT hZ ww22) (mvT hZ ww23) (notFace_of_selects (args := #[]) (mvT hZ ww25)) (mvT hZ ww25) (mvT hZ ww24) (by decide) (backOf (W := 0) (rm4 l Z a0 hw [] b26 (p0_2 &&& (31 : Int32)) T27.heap n0 (Nat.le_trans Z0 K27.1) f31) hZ ww26 ww2 (by decide) (by decide)) q40a q40c (g := (mkF m 81 #[.val (.int p0_0), .val (.int p0_1), .val (.int p0_2), .val (.long q0_3), .second, .val (.int (p0_2 &&& (31 : Int32))), .val (.ref b26), .val (.int 9)] [(.ref b26)])) rfl (by rw [hml]; rfl) (Steps.refl _) (argsL := []) (rest := []) (lenOf pd___I rfl) rfl (by show 2 * 0 + _ ≤ _; exact Nat.le_of_eq rfl) (hb hby at_81) (fun _ _ => ⟨rfl, rfl, (by decide : 1 + 0 ≤ _), (by decide : 4 + 0 ≤ _)⟩)
      dsimp only [Pt.U, Pt.locs, Pt.cells, Pt.slots] at X40 l40 y40 z40 st40 hQ40
      subst l40 y40 z40
      obtain ⟨rfl, N40q, eh40⟩ := hQ40
      have N40 := Fr.app N27 N40q
      refine own_trans (g' := (mkF m 84 #[.val (.int p0_0), .val (.int p0_1), .val (.int p0_2), .val (.long q0_3), .second, .val (.int (p0_2 &&& (31 : Int32))), .val (.ref b26), .val (.int 9)] [(.int (r4 (p0_2 &&& (31 : Int32))))])) st40 ?_
      rw [show (r4 (p0_2 &&& (31 : Int32))) = ((1 : Int32) + ((1 : Int32) <<< (((p0_2 &&& (31 : Int32)) - (24 : Int32)) &&& 31))) from ((if_neg ((by rw [c39]; decide) : ¬ (p0_2 &&& (31 : Int32)) < (24 : Int32))).trans (if_neg ((own_eqltI (Eq.symm c39)) : ¬ (27 : Int32) < (p0_2 &&& (31 : Int32)))))]
      refine own_s (g' := (mkF m 86 #[.val (.int p0_0), .val (.int p0_1), .val (.int p0_2), .val (.long q0_3), .second, .val (.int (p0_2 &&& (31 : Int32))), .val (.ref b26), .val (.int 9)] [(.int 9), (.int ((1 : Int32) + ((1 : Int32) <<< (((p0_2 &&& (31 : Int32)) - (24 : Int32)) &&& 31))))])) (fun _ k => XS.iload X40.here hx rfl (hb hby at_84) rfl k) ?_
      refine own_s (g' := (mkF m 89 #[.val (.int p0_0), .val (.int p0_1), .val (.int p0_2), .val (.long q0_3), .second, .val (.int (p0_2 &&& (31 : Int32))), .val (.ref b26), .val (.int 9)] [])) (fun _ k => XS.icmpNo X40.here hx rfl (hb hby at_86) rfl (teq ((by rw [c39]; decide) : ((1 : Int32) + ((1 : Int32) <<< (((p0_2 &&& (31 : Int32)) - (24 : Int32)) &&& 31))) = (9 : Int32))).2 k) ?_
      refine own_s (g' := (mkF m 90 #[.val (.int p0_0), .val (.int p0_1), .val (.int p0_2), .val (.long q0_3), .second, .val (.int (p0_2 &&& (31 : Int32))), .val (.ref b26), .val (.int 9)] [(.int 1)])) (fun _ k => XS.iconst X40.here hx rfl (hb hby at_89) k) ?_
      refine own_s (g' := (mkF m 94 #[.val (.int p0_0), .val (.int p0_1), .val (.int p0_2), .val (.long q0_3), .second, .val (.int (p0_2 &&& (31 : Int32))), .val (.ref b26), .val (.int 9)] [(.int 1)])) (fun _ k => XS.goto X40.here hx rfl (pc0 := 90) (pc' := 94) rfl (hb hby at_90) (by decide) (by decide) k) ?_
      refine own_retN X40 hx hlk (t := .boolean) hret (by simp) (hb hby at_94) (z' := (1 : Int32)) (by decide) (by decide) (by decide) ?_
      show Q0 Z p0_0 p0_1 p0_2 q0_3 h0 n0 _ T40.heap _
      rw [eh40]
      exact ⟨rfl, N40⟩
     ·skip
      refine own_s (g' := (mkF m 76 #[.val (.int p0_0), .val (.int p0_1), .val (.int p0_2), .val (.long q0_3), .second, .val (.int (p0_2 &&& (31 : Int32))), .val (.ref b26), .unset] [])) (fun _ k => XS.icmpYes X27.here hx rfl (pc0 := 66) (pc' := 76) rfl (hb hby at_66) rfl (feq c39).2 (by decide) (by decide) k) ?_
      refine own_s (g' := (mkF m 77 #[.val (.int p0_0), .val (.int p0_1), .val (.int p0_2), .val (.long q0_3), .second, .val (.int (p0_2 &&& (31 : Int32))), .val (.ref b26), .unset] [(.int 1)])) (fun _ k => XS.iconst X27.here hx rfl (hb hby at_76) k) ?_
      refine own_s (g' := (mkF m 79 #[.val (.int p0_0), .val (.int p0_1), .val (.int p0_2), .val (.long q0_3), .second, .val (.int (p0_2 &&& (31 : Int32))), .val (.ref b26), .val (.int 1)] [])) (fun _ k => XS.istore X27.here hx rfl (hb hby at_77) rfl (l' := #[.val (.int p0_0), .val (.int p0_1), .val (.int p0_2), .val (.long q0_3), .second, .val (.int (p0_2 &&& (31 : Int32))), .val (.ref b26), .val (.int 1)]) rfl k) ?_
      refine own_s (g' := (mkF m 81 #[.val (.int p0_0), .val (.int p0_1), .val (.int p0_2), .val (.long q0_3), .second, .val (.int (p0_2 &&& (31 : Int32))), .val (.ref b26), .val (.int 1)] [(.ref b26)])) (fun _ k => XS.aload X27.here hx rfl (hb hby at_79) rfl rfl k) ?_
      obtain ⟨cq41, kq41, q41a, q41b, q41c⟩ := isOf hZ rfl f28
      obtain ⟨_, _, ⟨T41, L41, k41, n41⟩, -, X41, ⟨Lc41, hQ41, l41, y41, z41⟩, st41⟩ := X27.virtualBack hx (y := (⟨"com/example/arcwise/arcwise/CborReader$Head", "size", "()I"⟩ : MethodName)) (z := (⟨"com/example/arcwise/arcwise/CborReader$Head", "size", "()I"⟩ : MethodName)) hown (mvT hZ ww22) (mvT hZ ww23) (notFace_of_selects (args := #[]) (mvT hZ ww25)) (mvT hZ ww25) (mvT hZ ww24) (by decide) (backOf (W := 0) (rm4 l Z a0 hw [] b26 (p0_2 &&& (31 : Int32)) T27.heap n0 (Nat.le_trans Z0 K27.1) f31) hZ ww26 ww2 (by decide) (by decide)) q41a q41c (g := (mkF m 81 #[.val (.int p0_0), .val (.int p0_1), .val (.int p0_2), .val (.long q0_3), .second, .val (.int (p0_2 &&& (31 : Int32))), .val (.ref b26), .val (.int 1)] [(.ref b26)])) rfl (by rw [hml]; rfl) (Steps.refl _) (argsL := []) (rest := []) (lenOf pd___I rfl) rfl (by show 2 * 0 + _ ≤ _; exact Nat.le_of_eq rfl) (hb hby at_81) (fun _ _ => ⟨rfl, rfl, (by decide : 1 + 0 ≤ _), (by decide : 4 + 0 ≤ _)⟩)
      dsimp only [Pt.U, Pt.locs, Pt.cells, Pt.slots] at X41 l41 y41 z41 st41 hQ41
      subst l41 y41 z41
      obtain ⟨rfl, N41q, eh41⟩ := hQ41
      have N41 := Fr.app N27 N41q
      refine own_trans (g' := (mkF m 84 #[.val (.int p0_0), .val (.int p0_1), .val (.int p0_2), .val (.long q0_3), .second, .val (.int (p0_2 &&& (31 : Int32))), .val (.ref b26), .val (.int 1)] [(.int (r4 (p0_2 &&& (31 : Int32))))])) st41 ?_
      refine own_s (g' := (mkF m 86 #[.val (.int p0_0), .val (.int p0_1), .val (.int p0_2), .val (.long q0_3), .second, .val (.int (p0_2 &&& (31 : Int32))), .val (.ref b26), .val (.int 1)] [(.int 1), (.int (r4 (p0_2 &&& (31 : Int32))))])) (fun _ k => XS.iload X41.here hx rfl (hb hby at_84) rfl k) ?_
      refine own_s (g' := (mkF m 89 #[.val (.int p0_0), .val (.int p0_1), .val (.int p0_2), .val (.long q0_3), .second, .val (.int (p0_2 &&& (31 : Int32))), .val (.ref b26), .val (.int 1)] [])) (fun _ k => XS.icmpNo X41.here hx rfl (hb hby at_86) rfl (teq ((own_rest _ c33 c35 c37 c39) : (r4 (p0_2 &&& (31 : Int32))) = (1 : Int32))).2 k) ?_
      refine own_s (g' := (mkF m 90 #[.val (.int p0_0), .val (.int p0_1), .val (.int p0_2), .val (.long q0_3), .second, .val (.int (p0_2 &&& (31 : Int32))), .val (.ref b26), .val (.int 1)] [(.int 1)])) (fun _ k => XS.iconst X41.here hx rfl (hb hby at_89) k) ?_
      refine own_s (g' := (mkF m 94 #[.val (.int p0_0), .val (.int p0_1), .val (.int p0_2), .val (.long q0_3), .second, .val (.int (p0_2 &&& (31 : Int32))), .val (.ref b26), .val (.int 1)] [(.int 1)])) (fun _ k => XS.goto X41.here hx rfl (pc0 := 90) (pc' := 94) rfl (hb hby at_90) (by decide) (by decide) k) ?_
      refine own_retN X41 hx hlk (t := .boolean) hret (by simp) (hb hby at_94) (z' := (1 : Int32)) (by decide) (by decide) (by decide) ?_
      show Q0 Z p0_0 p0_1 p0_2 q0_3 h0 n0 _ T41.heap _
      rw [eh41]
      exact ⟨rfl, N41⟩
set_option maxRecDepth 65536 in
set_option maxHeartbeats 40000000 in
theorem comes_1 {Post : Tables → Env → Array Value → State → Outcome → State → Prop} (hpost : ∀ tb e args s v u, (limb_1_1.after args s (.returned v) u = true ∧ limb_1_2.after args s (.returned v) u = true ∧ True) → FrameEnd s (.returned v) u (Jvm.fieldLocs frame_1_writes args s ++ Jvm.arrayLocs frame_1_arrays args s ++ Jvm.staticLocs frame_1_statics s) 16 128 → Post tb e args s (.returned v) u) :
    ArmFor flags0 classFile x code maxLocals ret World_1 tables_1 room_1 Calls_1 rest_1 Pre_1 Post := by
  intro l hfl _ _ p e ha hc hk s m args below hf hA hF happ hP
  obtain ⟨hcalls, hrest, hpre⟩ := hP
  obtain ⟨-, -, -, hnamed, -, -, -, hat⟩ := (Spec.applies_iff hf).mp happ
  obtain ⟨hg, hn⟩ := and_e (Cond.before_iff.mp (show (Jvm.Cond.and given_1 narrow_1).before args s = true from hpre))
  obtain ⟨gc, hg⟩ := and_e hg
  obtain ⟨gi0, hg⟩ := and_e hg
  obtain ⟨gi1, hg⟩ := and_e hg
  obtain ⟨gi2, hg⟩ := and_e hg
  obtain ⟨w0, w1, w2, w3, rfl⟩ : ∃ w0 w1 w2 w3 : Value, args = #[w0, w1, w2, w3] := by
    have hs : args.size = 4 := by simpa [Cond.value, given_1] using gc
    obtain ⟨L⟩ := args
    match L, hs with
    | [w0, w1, w2, w3], _ => exact ⟨w0, w1, w2, w3, rfl⟩
  have hw := fun d (hd : d ∈ tables_1) => atoms_spec (ws := Jvm.Cond.code x code maxLocals ret :: tables_1) hat d (List.mem_cons_of_mem _ hd)
  obtain ⟨i0, ei0⟩ := is_v gi0
  obtain rfl : w0 = (.int i0) := Option.some.inj ei0
  obtain ⟨i1, ei1⟩ := is_v gi1
  obtain rfl : w1 = (.int i1) := Option.some.inj ei1
  obtain ⟨i2, ei2⟩ := is_v gi2
  obtain rfl : w2 = (.int i2) := Option.some.inj ei2
  obtain ⟨i3, ei3⟩ := isL_v hg
  obtain rfl : w3 = (.long i3) := Option.some.inj ei3
  obtain ⟨n, o, h1, h2, h3, _, L, rfl, ⟨rfl, N⟩, hq⟩ := rm0 l s _ hw tables_1 i0 i1 i2 i3 s.heap s.heap.size (Nat.le_refl _)  p e ha hc hk s m _ below hf ((Spec.applies_iff_loose hf).mp happ).1 ⟨rfl, State.Warmed39.refl s, rfl⟩ trivial
  refine ⟨n, _, h1, h2, h3, hpost _ _ _ _ _ _ ⟨Cond.after_iff.mpr rfl, Cond.after_iff.mpr (eq_i res_at (Term.int_eval (1)) rfl), trivial⟩ ⟨hq.1, hq.2.1, (hq.2.2.sift fun y hy => Or.inr (N y hy)).mono (by decide) (by decide)⟩⟩
theorem main_1_1 : Claimed_1_1 := comes_1 fun _ _ _ _ _ _ h hF => ⟨h.1, hF⟩
theorem main_1_2 : Claimed_1_2 := comes_1 fun _ _ _ _ _ _ h hF => ⟨h.2.1, hF⟩
end Jvm.Pilot.@@N@@
namespace Jvm.Pilot.@@N@@
open Jvm Jvm.ClassFile Sem Op Lib Jvm.Free Jvm.Stand Jvm.Pilot.@@N@@.Jvm.D
/-! MADE BY PROGRAM (witnessworld.py) out of the Statement's table words and the real class files: 10 classes; the members and pool entries that the words name. The judged class is class 1, her method 1. -/
namespace start1
open Jvm.ClassFile
def u (s : String) : CpInfo := .utf8 (stringToUtf16 s)
/-- a pool by its gaps: so many unusable entries, then the entry; so many at the end -/
def gap : Nat → List CpInfo → List CpInfo
  | 0, r => r
  | n + 1, r => .unusable :: gap n r
def poolList (es : List (Nat × CpInfo)) (last : Nat) : List CpInfo := es.foldr (fun e r => gap e.1 (e.2 :: r)) (gap last [])
def pool (es : List (Nat × CpInfo)) (last : Nat) : Array CpInfo := ⟨poolList es last⟩
def fileOf (pool : Array CpInfo) (this : Nat) (attrs : Array Attribute := #[]) (ms : Array MethodInfo := #[]) (fl : Nat := 33) (sup : Nat := 0) (ifs : Array Nat := #[]) (fds : Array FieldInfo := #[]) : ClassFile where
  minorVersion := 0
  majorVersion := 65
  constantPool := pool
  accessFlags := fl
  thisClass := this
  superClass := sup
  interfaces := ifs
  fields := fds
  methods := ms
  attributes := attrs
def plain (name : String) (sup : Option ClassId) : Class where
  name := name
  kind := .ordinary
  loader := none
  accessFlags := 33
  super := sup
  interfaces := #[]
  cf := none
  fields := #[]
  methods := #[]
  instanceTypes := #[]
  staticTypes := #[]
  resolved := #[]
  callSites := []
  init := .initialized
  statics := none
  mirror := none

def pool0 : Array CpInfo := pool [(5, u "<init>"), (0, u "()V"), (1, .class_ 10), (1, u "java/lang/Object")] 113

def k0c0 : Code := { maxStack := 0, maxLocals := 1, code := object_method_1_code, exceptionTable := #[], attributes := #[] }
def k0m0 : Method := { name := "<init>", desc := "()V", sig := { parameters := [], returnType := none }, accessFlags := 1, code := some k0c0 }
/-- java/lang/Object -/
def k0 : Class := { plain "java/lang/Object" none with
  accessFlags := 33
  interfaces := #[]
  cf := some (fileOf pool0 8 #[] #[{ accessFlags := 1, nameIndex := 5, descriptorIndex := 6, attributes := #[] }] 33 0 #[] #[])
  fields := #[]
  methods := #[k0m0]
  instanceTypes := #[]
  staticTypes := #[]
  resolved := Array.replicate 124 none
  statics := none }

def pool1 : Array CpInfo := pool [(2, .class_ 4), (1, u "java/lang/Object"), (0, u "<init>"), (0, u "()V"), (0, .class_ 8), (0, u "com/example/arcwise/arcwise/CborReader$Head"), (0, .methodref 7 10), (0, .nameAndType 5 11), (0, u "(IIIJ)V"), (0, .methodref 7 13), (0, .nameAndType 14 15), (0, u "size"), (0, u "()I"), (0, .class_ 17), (0, u "com/example/arcwise/arcwise/HeadSizePinLaw"), (2, u "law"), (0, u "(IIIJ)Z")] 7

def k1m0 : Method := { name := "<init>", desc := "()V", sig := { parameters := [], returnType := none }, accessFlags := 1, code := none }
def k1c1 : Code := { maxStack := 7, maxLocals := 8, code := code, exceptionTable := #[], attributes := #[] }
def k1m1 : Method := { name := "law", desc := "(IIIJ)Z", sig := { parameters := [.int, .int, .int, .long], returnType := some .boolean }, accessFlags := 9, code := some k1c1 }
/-- com/example/arcwise/arcwise/HeadSizePinLaw -/
def k1 : Class := { plain "com/example/arcwise/arcwise/HeadSizePinLaw" (some 0) with
  accessFlags := 49
  interfaces := #[]
  cf := some (fileOf pool1 16 #[] #[{ accessFlags := 1, nameIndex := 5, descriptorIndex := 6, attributes := #[] }, { accessFlags := 9, nameIndex := 20, descriptorIndex := 21, attributes := #[] }] 49 2 #[] #[])
  fields := #[]
  methods := #[k1m0, k1m1]
  instanceTypes := #[]
  staticTypes := #[]
  resolved := Array.replicate 29 none
  statics := none }

def pool2 : Array CpInfo := pool [(1, .methodref 2 3), (0, .class_ 4), (0, .nameAndType 5 6), (0, u "java/lang/Object"), (0, u "<init>"), (0, u "()V"), (0, .class_ 8), (0, u "java/lang/Record")] 13

def k2c0 : Code := { maxStack := 1, maxLocals := 1, code := jdk_30_method_1_code, exceptionTable := #[], attributes := #[] }
def k2m0 : Method := { name := "<init>", desc := "()V", sig := { parameters := [], returnType := none }, accessFlags := 4, code := some k2c0 }
/-- java/lang/Record -/
def k2 : Class := { plain "java/lang/Record" (some 0) with
  accessFlags := 1057
  interfaces := #[]
  cf := some (fileOf pool2 7 #[] #[{ accessFlags := 4, nameIndex := 5, descriptorIndex := 6, attributes := #[] }] 1057 2 #[] #[])
  fields := #[]
  methods := #[k2m0]
  instanceTypes := #[]
  staticTypes := #[]
  resolved := Array.replicate 22 none
  statics := none }

def pool3 : Array CpInfo := pool [(1, .class_ 2), (0, u "com/example/arcwise/arcwise/CborReader"), (0, .methodref 4 5), (0, .class_ 6), (0, .nameAndType 7 8), (0, u "java/lang/Record"), (0, u "<init>"), (0, u "()V"), (0, .fieldref 10 11), (0, .class_ 12), (0, .nameAndType 13 14), (0, u "com/example/arcwise/arcwise/CborReader$Head"), (0, u "offset"), (0, u "I"), (0, .fieldref 10 16), (0, .nameAndType 17 14), (0, u "major"), (0, .fieldref 10 19), (0, .nameAndType 20 14), (0, u "info"), (0, .fieldref 10 22), (0, .nameAndType 23 24), (0, u "argument"), (0, u "J"), (18, u "(IIIJ)V"), (7, u "size"), (0, u "()I")] 31

def k3c0 : Code := { maxStack := 3, maxLocals := 6, code := prog_8_method_1_code, exceptionTable := #[], attributes := #[] }
def k3m0 : Method := { name := "<init>", desc := "(IIIJ)V", sig := { parameters := [.int, .int, .int, .long], returnType := none }, accessFlags := 0, code := some k3c0 }
def k3c1 : Code := { maxStack := 4, maxLocals := 1, code := prog_8_method_4_code, exceptionTable := #[], attributes := #[] }
def k3m1 : Method := { name := "size", desc := "()I", sig := { parameters := [], returnType := some .int }, accessFlags := 0, code := some k3c1 }
/-- com/example/arcwise/arcwise/CborReader$Head -/
def k3 : Class := { plain "com/example/arcwise/arcwise/CborReader$Head" (some 2) with
  accessFlags := 48
  interfaces := #[]
  cf := some (fileOf pool3 10 #[.nestHost 1] #[{ accessFlags := 0, nameIndex := 7, descriptorIndex := 43, attributes := #[] }, { accessFlags := 0, nameIndex := 51, descriptorIndex := 52, attributes := #[] }] 48 4 #[] #[{ accessFlags := 18, nameIndex := 13, descriptorIndex := 14, attributes := #[] }, { accessFlags := 18, nameIndex := 17, descriptorIndex := 14, attributes := #[] }, { accessFlags := 18, nameIndex := 20, descriptorIndex := 14, attributes := #[] }, { accessFlags := 18, nameIndex := 23, descriptorIndex := 24, attributes := #[] }])
  fields := #[{ name := "offset", type := .int, accessFlags := 18, slot := 0, constantValue := 0 }, { name := "major", type := .int, accessFlags := 18, slot := 1, constantValue := 0 }, { name := "info", type := .int, accessFlags := 18, slot := 2, constantValue := 0 }, { name := "argument", type := .long, accessFlags := 18, slot := 3, constantValue := 0 }]
  methods := #[k3m0, k3m1]
  instanceTypes := #[.int, .int, .int, .long]
  staticTypes := #[]
  resolved := Array.replicate 84 none
  statics := none }

def pool4 : Array CpInfo := pool [(1, u "java/lang/Cloneable"), (0, .class_ 1), (0, u "java/lang/Object"), (0, .class_ 3)] 3

/-- java/lang/Cloneable -/
def k4 : Class := { plain "java/lang/Cloneable" (some 0) with
  accessFlags := 1537
  interfaces := #[]
  cf := some (fileOf pool4 2 #[] #[] 1537 4 #[] #[])
  fields := #[]
  methods := #[]
  instanceTypes := #[]
  staticTypes := #[]
  resolved := Array.replicate 8 none
  statics := none }

def pool5 : Array CpInfo := pool [(1, u "java/io/Serializable"), (0, .class_ 1), (0, u "java/lang/Object"), (0, .class_ 3)] 3

/-- java/io/Serializable -/
def k5 : Class := { plain "java/io/Serializable" (some 0) with
  accessFlags := 1537
  interfaces := #[]
  cf := some (fileOf pool5 2 #[] #[] 1537 4 #[] #[])
  fields := #[]
  methods := #[]
  instanceTypes := #[]
  staticTypes := #[]
  resolved := Array.replicate 8 none
  statics := none }

/-- the primitive byte -/
def k6 : Class := { plain "byte" none with kind := .primitive 'B', accessFlags := 0x411 }
/-- [B -/
def k7 : Class := { plain "[B" (some 0) with kind := .array 6 .byte, interfaces := #[4, 5], accessFlags := 1041 }

/-- the primitive int -/
def k8 : Class := { plain "int" none with kind := .primitive 'I', accessFlags := 0x411 }
/-- [I -/
def k9 : Class := { plain "[I" (some 0) with kind := .array 8 .int, interfaces := #[4, 5], accessFlags := 1041 }

def heap : Heap := #[]
def classes : Array Class := #[k0, k1, k2, k3, k4, k5, k6, k7, k8, k9]
def interned : List (Array UInt16 × Addr) := []
def slotsUsed : Nat := 0
def theMethod : MethodId := ⟨1, 1⟩
def args0 : Array Value := #[.int 5, .int 5, .int 5, .long 7]
def aboutOver (below : List Frame) : State where
  vm := { classes := classes, interned := interned.toArray }
  heap := heap
  slotsUsed := slotsUsed
  threads := #[{ frames := .invoking theMethod args0 :: below }]
def below0 : List Frame := [.native { method := ⟨0, 0⟩, args := #[] }]
def about1 : State := aboutOver below0
def p0 : Program := .bare "" "" ""
def e0 : Env := launch0.env 0 0 0
theorem w_frames : about1.frames = Frame.invoking theMethod args0 :: below0 := rfl
set_option maxRecDepth 65536 in
theorem w_args : argsFit about1.vm theMethod args0 = true := by decide +kernel
set_option maxRecDepth 65536 in
theorem w_heap : heapFits about1 = true := by decide +kernel
set_option maxRecDepth 65536 in
theorem w_runnable : about1.curStatus? = some .runnable := by decide +kernel
set_option maxRecDepth 65536 in
theorem w_alone : about1.alone = true := by decide +kernel
set_option maxRecDepth 65536 in
theorem w_named : about1.methodNamed? x = some theMethod := by decide +kernel
set_option maxRecDepth 65536 in
theorem w_hears : about1.hears theMethod below0 = true := by decide +kernel
set_option maxRecDepth 65536 in
theorem w_ripe : about1.ripe theMethod args0 below0 = true := by decide +kernel
theorem w_running : about1.status = .running := rfl
set_option maxRecDepth 65536 in
theorem w_room : about1.hasRoom e0.platform room_1 = true :=
  launch0.hasRoom_least _ room_1 (by decide +kernel) (by decide +kernel) (by decide +kernel) (by decide +kernel) (by decide +kernel) (by decide +kernel)
theorem allAtoms_all (ts : List Jvm.Cond) (a : Array Jvm.Value) (st : Jvm.State) : (allAtoms ts).before a st = ts.all (fun c => c.before a st) := by
  induction ts with
  | nil => rfl
  | cons c t ih =>
    show (Jvm.Cond.and c (allAtoms t)).before a st = _
    rw [Jvm.Cond.before_and, ih, List.all_cons]
def words1 : List Jvm.Cond := Jvm.Cond.code x code maxLocals ret :: tables_1
/-- a 'code' word, met by the world's own term for the bytes: nothing is compared byte by byte -/
theorem code_word {y : MethodName} {bytes : ByteArray} {mx : Nat} {rt : Option FieldType} {a : Array Value} {s : State} {m : MethodId} {meth : Method} {c : Code} (h1 : s.methodNamed? y = some m) (h2 : s.vm.method? m = some meth) (h3 : meth.code = some c) (h4 : c.code = bytes)
    (h5 : (c.maxLocals == mx && c.exceptionTable.isEmpty && decide (c.maxStack ≤ mostOperands) && decide (meth.sig.returnType = rt) && !meth.locks && decide (parseMethodDescriptor y.desc = some meth.sig)) = true) : (Jvm.Cond.code y bytes mx rt).before a s = true := by
  simp only [Bool.and_eq_true, beq_iff_eq, Bool.not_eq_true', decide_eq_true_eq] at h5
  obtain ⟨⟨⟨⟨⟨g1, g2⟩, g3⟩, g4⟩, g5⟩, g6⟩ := h5
  simp [Cond.before, Cond.holds, Cond.value, h1, h2, h3, h4, g1, g2, g3, g4, g5, g6]
def isCode : Jvm.Cond → Bool
  | .code _ _ _ _ => true
  | _ => false
theorem all_split {L : List Jvm.Cond} {P : Jvm.Cond → Bool} (h1 : L.all (fun c => isCode c || P c) = true) (h2 : ∀ c ∈ L.filter isCode, P c = true) : L.all P = true := by
  refine List.all_eq_true.mpr fun c hc => ?_
  have h := List.all_eq_true.mp h1 c hc
  rcases Bool.eq_false_or_eq_true (isCode c) with hi | hi
  · exact h2 c (List.mem_filter.mpr ⟨hc, hi⟩)
  · simpa [hi] using h
set_option maxRecDepth 65536 in
theorem w_c0 : (Jvm.Cond.code x code maxLocals ret).before args0 about1 = true := code_word (m := ⟨1, 1⟩) (meth := k1m1) (c := k1c1) (by decide +kernel) rfl rfl rfl (by decide +kernel)
set_option maxRecDepth 65536 in
theorem w_c1 : (Jvm.Cond.code ({ cls := "com/example/arcwise/arcwise/CborReader$Head", name := "<init>", desc := "(IIIJ)V" } : Jvm.MethodName) prog_8_method_1_code (6 : Nat) (Option.none : Option Jvm.ClassFile.FieldType)).before args0 about1 = true := code_word (m := ⟨3, 0⟩) (meth := k3m0) (c := k3c0) (by decide +kernel) rfl rfl rfl (by decide +kernel)
set_option maxRecDepth 65536 in
theorem w_c2 : (Jvm.Cond.code ({ cls := "java/lang/Record", name := "<init>", desc := "()V" } : Jvm.MethodName) jdk_30_method_1_code (1 : Nat) (Option.none : Option Jvm.ClassFile.FieldType)).before args0 about1 = true := code_word (m := ⟨2, 0⟩) (meth := k2m0) (c := k2c0) (by decide +kernel) rfl rfl rfl (by decide +kernel)
set_option maxRecDepth 65536 in
theorem w_c3 : (Jvm.Cond.code ({ cls := "java/lang/Object", name := "<init>", desc := "()V" } : Jvm.MethodName) object_method_1_code (1 : Nat) (Option.none : Option Jvm.ClassFile.FieldType)).before args0 about1 = true := code_word (m := ⟨0, 0⟩) (meth := k0m0) (c := k0c0) (by decide +kernel) rfl rfl rfl (by decide +kernel)
set_option maxRecDepth 65536 in
theorem w_c4 : (Jvm.Cond.code ({ cls := "com/example/arcwise/arcwise/CborReader$Head", name := "size", desc := "()I" } : Jvm.MethodName) prog_8_method_4_code (1 : Nat) (Option.some Jvm.ClassFile.FieldType.int)).before args0 about1 = true := code_word (m := ⟨3, 1⟩) (meth := k3m1) (c := k3c1) (by decide +kernel) rfl rfl rfl (by decide +kernel)
def codes1 : List Jvm.Cond := [Jvm.Cond.code x code maxLocals ret, Jvm.Cond.code ({ cls := "com/example/arcwise/arcwise/CborReader$Head", name := "<init>", desc := "(IIIJ)V" } : Jvm.MethodName) prog_8_method_1_code (6 : Nat) (Option.none : Option Jvm.ClassFile.FieldType), Jvm.Cond.code ({ cls := "java/lang/Record", name := "<init>", desc := "()V" } : Jvm.MethodName) jdk_30_method_1_code (1 : Nat) (Option.none : Option Jvm.ClassFile.FieldType), Jvm.Cond.code ({ cls := "java/lang/Object", name := "<init>", desc := "()V" } : Jvm.MethodName) object_method_1_code (1 : Nat) (Option.none : Option Jvm.ClassFile.FieldType), Jvm.Cond.code ({ cls := "com/example/arcwise/arcwise/CborReader$Head", name := "size", desc := "()I" } : Jvm.MethodName) prog_8_method_4_code (1 : Nat) (Option.some Jvm.ClassFile.FieldType.int)]
set_option maxRecDepth 65536 in
theorem codes_eq : words1.filter isCode = codes1 := rfl
theorem w_codes : ∀ c ∈ words1.filter isCode, c.before args0 about1 = true := by
  rw [codes_eq]
  intro c hc
  simp only [codes1, List.mem_cons, List.not_mem_nil, or_false] at hc
  rcases hc with rfl | rfl | rfl | rfl | rfl
  · exact w_c0
  · exact w_c1
  · exact w_c2
  · exact w_c3
  · exact w_c4
set_option maxRecDepth 65536 in
theorem w_t1 : (words1.take 24).all (fun c => isCode c || c.before args0 about1) = true := by decide +kernel
set_option maxRecDepth 65536 in
theorem w_t2 : (words1.drop 24).all (fun c => isCode c || c.before args0 about1) = true := by decide +kernel
theorem w_tables : (allAtoms (Jvm.Cond.code x code maxLocals ret :: tables_1)).before args0 about1 = true := by
  rw [allAtoms_all]
  show words1.all (fun c => c.before args0 about1) = true
  refine all_split ?_ w_codes
  rw [← List.take_append_drop 24 words1, List.all_append, w_t1, w_t2]
  rfl
set_option maxRecDepth 65536 in
theorem w_case : (Jvm.Cond.and given_1 narrow_1).before args0 about1 = true := by decide +kernel
theorem w_applies : (headSpec (Jvm.Cond.code x code maxLocals ret :: tables_1) room_1).applies x e0.platform about1 = true :=
  (Spec.applies_iff w_frames).mpr ⟨w_running, w_runnable, w_alone, w_named, w_hears, w_ripe, w_room, w_tables⟩
theorem atStart : AtStart classFile x code maxLocals ret World_1 tables_1 room_1 Calls_1 rest_1 Pre_1 launch0 p0 e0 about1 theMethod args0 below0 :=
  ⟨lists_1, trivial, launch0.admits_env _ _ _, launch0.least_env, fairChoices_fair.cas, fairChoices_fair.clock, w_frames, w_args, w_heap, w_applies, trivial, trivial, w_case⟩
end start1
theorem witness_1 : WitnessClaimed_1 := ⟨start1.p0, start1.e0, start1.about1, start1.theMethod, start1.args0, start1.below0, start1.atStart⟩
end Jvm.Pilot.@@N@@
