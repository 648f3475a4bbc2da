import JvmDerived
import JvmDerived.Pilot.@@N@@Statement
import JvmDerived.Pilot.@@N@@Code
set_option linter.unusedVariables false
set_option linter.unusedSimpArgs false
namespace Jvm.Pilot.@@N@@
open Jvm Jvm.ClassFile Sem Op Lib Jvm.Free Jvm.Stand Jvm.LawKit Jvm.RoadKit Bundle Jvm.Pilot.@@N@@.Jvm.D
/-- what is left of a walk: from the frame g on, the run ends as K says -/
def own_G (p : Program) (e : Env) (below : List Frame) (s : State) (K : Option Value → Heap → List Loc → Prop) (nc ns : Nat) (T : State) (g : JFrame) : Prop :=
  ∃ s₂ o, Steps p.tables e below (T.setTop g) s₂ ∧ s₂.status = .running ∧ Ended s₂ below o ∧ ∃ v L, o = .returned v ∧ K v s₂.heap L ∧ FrameEnd s o s₂ L nc ns
section Own
variable {p : Program} {l : Launch} {e : Env} {R : Room} {s : State} {m : MethodId} {args : Array Value} {below : List Frame} {meth : Method} {c : Code} {T T' : State} {locs : List Loc} {cells slots : Nat} {K : Option Value → Heap → List Loc → Prop} {nc ns : Nat} {g g' : JFrame}
theorem own_s (h : ∀ t, Steps p.tables e below (T'.setTop g') t → Steps p.tables e below (T.setTop g) t) (k : own_G p e below s K nc ns T' g') : own_G p e below s K nc ns T g := by
  obtain ⟨s₂, o, h1, r⟩ := k
  exact ⟨s₂, o, h _ h1, r⟩
theorem own_trans (h : Steps p.tables e below (T.setTop g) (T'.setTop g')) (k : own_G p e below s K nc ns T' g') : own_G p e below s K nc ns T g := by
  obtain ⟨s₂, o, h1, r⟩ := k
  exact ⟨s₂, o, h.trans h1, r⟩
theorem own_cast (q : g = g') (k : own_G p e below s K nc ns T g') : own_G p e below s K nc ns T g := q ▸ k
theorem own_leave (X : Stand p l e R s m args below meth c T locs cells slots) {v : Option Value} (hlk : meth.locks = false) (hv : meth.sig.returnType = none → v = none) (hc : cells ≤ nc) (hn : slots ≤ ns) (hq : K v T.heap locs)
    (st : ∀ fs, (∀ (f : JFrame) (acts : List Action), f.method = m → f.locked = none → f.entered = [] → (doReturn e (T.setTop f) acts v).1 = T.setFrames fs) → Steps p.tables e below (T.setTop g) (T.setFrames fs)) : own_G p e below s K nc ns T g := by
  obtain ⟨fs, hr, hrun, hended, hW, hsame⟩ := X.leave (v := v) hv hlk
  exact ⟨_, _, st fs hr, hrun, hended, _, _, rfl, hq, ⟨_, rfl⟩, hW, hsame.mono hc hn⟩
theorem own_retN (X : Stand p l e R s m args below meth c T locs cells slots) (hx : p.tables.exec = Jvm.exec) (hlk : meth.locks = false) {pc : Nat} {Ls : Array Slot} {z z' : Int32} {t : FieldType} {rest : List Value} (hret : meth.sig.returnType = some t) (ht : t = .boolean ∨ t = .byte ∨ t = .char ∨ t = .short)
    (hd : decode c.code pc = .ok (.ireturn, 1)) (hz : nar t z = z') (hc : cells ≤ nc) (hn : slots ≤ ns) (hq : K (some (.int z')) T.heap locs) : own_G p e below s K nc ns T (mkF m pc Ls (.int z :: rest)) := by
  subst hz
  exact own_leave X hlk (fun h => by rw [hret] at h; cases h) hc hn hq fun fs hr => retN X hx hret ht hd hr
theorem own_retI (X : Stand p l e R s m args below meth c T locs cells slots) (hx : p.tables.exec = Jvm.exec) (hlk : meth.locks = false) {pc : Nat} {Ls : Array Slot} {z : Int32} {rest : List Value} (hret : meth.sig.returnType = some .int)
    (hd : decode c.code pc = .ok (.ireturn, 1)) (hc : cells ≤ nc) (hn : slots ≤ ns) (hq : K (some (.int z)) T.heap locs) : own_G p e below s K nc ns T (mkF m pc Ls (.int z :: rest)) :=
  own_leave X hlk (fun h => by rw [hret] at h; cases h) hc hn hq fun fs hr => retOut X hx hret rfl (Or.inl ⟨rfl, Or.inl rfl, _, rfl⟩) hd hr
theorem own_retJ (X : Stand p l e R s m args below meth c T locs cells slots) (hx : p.tables.exec = Jvm.exec) (hlk : meth.locks = false) {pc : Nat} {Ls : Array Slot} {z : Int64} {rest : List Value} (hret : meth.sig.returnType = some .long)
    (hd : decode c.code pc = .ok (.lreturn, 1)) (hc : cells ≤ nc) (hn : slots ≤ ns) (hq : K (some (.long z)) T.heap locs) : own_G p e below s K nc ns T (mkF m pc Ls (.long z :: rest)) :=
  own_leave X hlk (fun h => by rw [hret] at h; cases h) hc hn hq fun fs hr => retOut X hx hret rfl (Or.inr (Or.inl ⟨rfl, rfl, _, rfl⟩)) hd hr
theorem own_retR (X : Stand p l e R s m args below meth c T locs cells slots) (hx : p.tables.exec = Jvm.exec) (hlk : meth.locks = false) {pc : Nat} {Ls : Array Slot} {v : Value} {t : FieldType} {rest : List Value} (hret : meth.sig.returnType = some t) (ht : t.isReference = true) (hv : v.isRef = true) (hnv : narrow t v = v)
    (hd : decode c.code pc = .ok (.areturn, 1)) (hc : cells ≤ nc) (hn : slots ≤ ns) (hq : K (some v) T.heap locs) : own_G p e below s K nc ns T (mkF m pc Ls (v :: rest)) :=
  own_leave X hlk (fun h => by rw [hret] at h; cases h) hc hn hq fun fs hr => retOut X hx hret hnv (Or.inr (Or.inr (Or.inr (Or.inr ⟨rfl, ht, hv⟩)))) hd hr
theorem own_retV (X : Stand p l e R s m args below meth c T locs cells slots) (hx : p.tables.exec = Jvm.exec) (hlk : meth.locks = false) {pc : Nat} {Ls : Array Slot} (hret : meth.sig.returnType = none)
    (hd : decode c.code pc = .ok (.return_, 1)) (hc : cells ≤ nc) (hn : slots ≤ ns) (hq : K none T.heap locs) : own_G p e below s K nc ns T (mkF m pc Ls []) :=
  own_leave X hlk (fun _ => rfl) hc hn hq fun fs hr => X.returnOut hx hret hd hr
theorem own_selp {s : State} {args : Array Value} {y : MethodName} {n : Nat} (wi : (Jvm.Cond.instantiable y.cls n).before args s = true) (hp : (Jvm.Cond.privateMethod y).before args s = true) (hi : (Jvm.Cond.instanceMethod y).before args s = true)
    (hy : y.cls ≠ "java/lang/invoke/MethodHandle" ∧ y.cls ≠ "java/lang/invoke/VarHandle") : (Jvm.Cond.selects y.cls y y).before args s = true := by
  obtain ⟨c, k, h1, h2, h3, h4, -⟩ := Cond.instantiable_spec wi
  exact Jvm.Stand.selects_self_of_private h1 h2 (Bool.or_eq_false_iff.mp h4).1 (Cond.privateMethod_at hp) hi hy
theorem own_miss {k : Int32} (i : Int) (n : Int32) (e : n.toInt = i) (hc : ¬ k = n) : i ≠ k.toInt := fun h => hc (Int32.toInt_inj.mp (h.symm.trans e.symm))
theorem own_posI {x : Int32} (h : (0 : Int32) < x) : x ≠ 0 := fun q => by rw [q] at h; exact absurd h (by decide)
theorem own_posJ {x : Int64} (h : (0 : Int64) < x) : x ≠ 0 := fun q => by rw [q] at h; exact absurd h (by decide)
theorem own_asI {x y : Int32} (h : y < x) : ¬ x < y := fun q => Int32.lt_irrefl (Int32.lt_trans h q)
theorem own_asJ {x y : Int64} (h : y < x) : ¬ x < y := fun q => Int64.lt_irrefl (Int64.lt_trans h q)
theorem own_eqltI {x y : Int32} (h : x = y) : ¬ x < y := fun q => by rw [h] at q; exact Int32.lt_irrefl q
theorem own_eqltJ {x y : Int64} (h : x = y) : ¬ x < y := fun q => by rw [h] at q; exact Int64.lt_irrefl q
theorem own_triI {x y : Int32} (h : ¬ x = y) (q : ¬ y < x) : x < y := by
  rw [Int32.lt_iff_toInt_lt] at *
  rw [← Int32.toInt_inj] at h
  omega
theorem own_triJ {x y : Int64} (h : ¬ x = y) (q : ¬ y < x) : x < y := by
  rw [Int64.lt_iff_toInt_lt] at *
  rw [← Int64.toInt_inj] at h
  omega
theorem own_ltneI {x y : Int32} (h : x < y) : ¬ x = y := fun q => by rw [q] at h; exact Int32.lt_irrefl h
theorem own_ltneJ {x y : Int64} (h : x < y) : ¬ x = y := fun q => by rw [q] at h; exact Int64.lt_irrefl h
theorem own_ltne'I {x y : Int32} (h : y < x) : ¬ x = y := fun q => by rw [q] at h; exact Int32.lt_irrefl h
theorem own_ltne'J {x y : Int64} (h : y < x) : ¬ x = y := fun q => by rw [q] at h; exact Int64.lt_irrefl h
theorem own_nnI {x y : Int32} (h : ¬ x < y) (q : ¬ y < x) : x = y := by
  rw [Int32.lt_iff_toInt_lt] at *
  rw [← Int32.toInt_inj]
  omega
theorem own_nnJ {x y : Int64} (h : ¬ x < y) (q : ¬ y < x) : x = y := by
  rw [Int64.lt_iff_toInt_lt] at *
  rw [← Int64.toInt_inj]
  omega
end Own
theorem d2_0 : decode jdk_30_method_1_code 0 = .ok (.aload_n 0, 1) := by decide +kernel
theorem d2_1 : decode jdk_30_method_1_code 1 = .ok (.invokespecial 1, 3) := by decide +kernel
theorem d2_4 : decode jdk_30_method_1_code 4 = .ok (.return_, 1) := by decide +kernel
theorem pn_java_lang_Record : plainName "java/lang/Record" = true := by first | (simp [plainName, overriddenIn]; done) | decide +kernel
theorem ef_2 (m : MethodId) (a2_0 : Addr) : entryFrame m #[(.ref a2_0)] 1 = mkF m 0 #[.val (.ref a2_0)] [] := by first | (simp [entryFrame, mkF, argsToLocals, Value.category]; done) | rfl
def Q2 (Z : State) (a2_0 : Addr) (h0 : Heap) (n0 : Nat) (v : Option Value) (h : Heap) (L : List Loc) : Prop := v = none ∧ Fr n0 L ∧ h = h0
set_option maxRecDepth 65536 in
set_option maxHeartbeats 40000000 in
theorem rm2 (l : Launch) (Z : State) (a0 : Array Value) (hw : ∀ d ∈ tables_1, d.before a0 Z = true) (ws : List Jvm.Cond) (a2_0 : Addr) (h0 : Heap) (n0 : Nat) (Z0 : n0 ≤ h0.size) :
    MetFree l (⟨"java/lang/Record", "<init>", "()V"⟩ : MethodName) (head1 (Jvm.Cond.code (⟨"java/lang/Record", "<init>", "()V"⟩ : MethodName) jdk_30_method_1_code 1 none :: ws) ({ frames := 1, cells := 0, slots := 0, locals := 12 } : Room)) (fun a U => a = #[(.ref a2_0)] ∧ Z.Warmed39 U.vm ∧ U.heap = h0) (fun _ _ _ _ _ => True) (fun _ U o U' => ∃ v L, o = .returned v ∧ Q2 Z a2_0 h0 n0 v U'.heap L ∧ FrameEnd U o U' L ({ frames := 1, cells := 0, slots := 0, locals := 12 } : Room).cells ({ frames := 1, cells := 0, slots := 0, locals := 12 } : Room).slots) := by
  refine MetFree.of_bodySF (plainFor_of_name pn_java_lang_Record) hisR ?_
  intro p e s m args below meth c s₁ Bd hml0 hP hK
  obtain ⟨rfl, hZ, hh⟩ := hP
  have hx := Bd.exec
  have hby := Bd.bytes
  have hlk := Bd.notSynchronized
  have hret := Bd.returns
  have hml : c.maxLocals = 1 := hml0
  have hown : s.vm.findClass "java/lang/Record" = some m.cls := findClass_of_methodNamed Bd.named
  have hnm := (name_of_methodNamed Bd.named Bd.method).1
  have X0 : Stand p l e ({ frames := 1, cells := 0, slots := 0, locals := 12 } : Room) s m #[(.ref a2_0)] below meth c s₁ [] 0 0 := Stand.of_body Bd
  have e0 : s₁.heap = h0 := by rw [← hh, Bd.state]; rfl
  have N0 := Fr.nil n0
  have K0 : Keep h0 h0 [] := Keep.refl _ _
  show own_G p e below s (Q2 Z a2_0 h0 n0) ({ frames := 1, cells := 0, slots := 0, locals := 12 } : Room).cells ({ frames := 1, cells := 0, slots := 0, locals := 12 } : Room).slots s₁ (entryFrame m #[(.ref a2_0)] 1)
  have ww12 := hw _ (List.mem_of_getElem? (i := 12) rfl)
  have ww13 := hw _ (List.mem_of_getElem? (i := 13) rfl)
  have ww14 := hw _ (List.mem_of_getElem? (i := 14) rfl)
  refine own_cast (ef_2 m a2_0) ?_
  refine own_s (g' := (mkF m 1 #[.val (.ref a2_0)] [(.ref a2_0)])) (fun _ k => XS.aloadN X0.here hx rfl (hb hby d2_0) rfl rfl k) ?_
  obtain ⟨T1, X1, e1, st1⟩ := initO X0 hx hZ hown ww12 ww13 ww14 e0 (g := (mkF m 1 #[.val (.ref a2_0)] [(.ref a2_0)])) rfl (by rw [hml]; rfl) rfl (hb hby d2_1) (by decide) (W := 0) (by show 2 * 0 + _ ≤ _; exact Nat.le_of_eq rfl) (by decide)
  refine own_s (g' := (mkF m 4 #[.val (.ref a2_0)] [])) st1 ?_
  refine own_retV X1 hx hlk hret (hb hby d2_4) (by decide) (by decide) ?_
  show Q2 Z a2_0 h0 n0 _ T1.heap _
  rw [e1]
  exact ⟨rfl, N0, rfl⟩
theorem pd___V : parseMethodDescriptor "()V" = some ⟨[], none⟩ := by decide +kernel
theorem own_sn_18_16 {Z : State} {a0 : Array Value} (hw : ∀ d ∈ tables_1, d.before a0 Z = true) : Jvm.RoadKit.slotOf Z "com/example/epochwise/epochwise/bench/Transaction" "type" "Lcom/example/epochwise/epochwise/bench/Transaction$Type;" ≠ Jvm.RoadKit.slotOf Z "com/example/epochwise/epochwise/bench/Transaction" "phase" "Lcom/example/epochwise/epochwise/bench/Transaction$Phase;" := slot_ne (Or.inr (hw _ (List.mem_of_getElem? (i := 18) rfl))) (Or.inr (hw _ (List.mem_of_getElem? (i := 16) rfl))) (by decide +kernel) (t := (.object "com/example/epochwise/epochwise/bench/Transaction$Type")) (t' := (.object "com/example/epochwise/epochwise/bench/Transaction$Phase")) (by decide +kernel) (by decide +kernel)
theorem own_sn_20_16 {Z : State} {a0 : Array Value} (hw : ∀ d ∈ tables_1, d.before a0 Z = true) : Jvm.RoadKit.slotOf Z "com/example/epochwise/epochwise/bench/Transaction" "client" "I" ≠ Jvm.RoadKit.slotOf Z "com/example/epochwise/epochwise/bench/Transaction" "phase" "Lcom/example/epochwise/epochwise/bench/Transaction$Phase;" := slot_ne (Or.inr (hw _ (List.mem_of_getElem? (i := 20) rfl))) (Or.inr (hw _ (List.mem_of_getElem? (i := 16) rfl))) (by decide +kernel) (t := .int) (t' := (.object "com/example/epochwise/epochwise/bench/Transaction$Phase")) (by decide +kernel) (by decide +kernel)
theorem own_sn_20_18 {Z : State} {a0 : Array Value} (hw : ∀ d ∈ tables_1, d.before a0 Z = true) : Jvm.RoadKit.slotOf Z "com/example/epochwise/epochwise/bench/Transaction" "client" "I" ≠ Jvm.RoadKit.slotOf Z "com/example/epochwise/epochwise/bench/Transaction" "type" "Lcom/example/epochwise/epochwise/bench/Transaction$Type;" := slot_ne (Or.inr (hw _ (List.mem_of_getElem? (i := 20) rfl))) (Or.inr (hw _ (List.mem_of_getElem? (i := 18) rfl))) (by decide +kernel) (t := .int) (t' := (.object "com/example/epochwise/epochwise/bench/Transaction$Type")) (by decide +kernel) (by decide +kernel)
theorem own_sn_22_16 {Z : State} {a0 : Array Value} (hw : ∀ d ∈ tables_1, d.before a0 Z = true) : Jvm.RoadKit.slotOf Z "com/example/epochwise/epochwise/bench/Transaction" "arrival" "J" ≠ Jvm.RoadKit.slotOf Z "com/example/epochwise/epochwise/bench/Transaction" "phase" "Lcom/example/epochwise/epochwise/bench/Transaction$Phase;" := slot_ne (Or.inr (hw _ (List.mem_of_getElem? (i := 22) rfl))) (Or.inr (hw _ (List.mem_of_getElem? (i := 16) rfl))) (by decide +kernel) (t := .long) (t' := (.object "com/example/epochwise/epochwise/bench/Transaction$Phase")) (by decide +kernel) (by decide +kernel)
theorem own_sn_22_18 {Z : State} {a0 : Array Value} (hw : ∀ d ∈ tables_1, d.before a0 Z = true) : Jvm.RoadKit.slotOf Z "com/example/epochwise/epochwise/bench/Transaction" "arrival" "J" ≠ Jvm.RoadKit.slotOf Z "com/example/epochwise/epochwise/bench/Transaction" "type" "Lcom/example/epochwise/epochwise/bench/Transaction$Type;" := slot_ne (Or.inr (hw _ (List.mem_of_getElem? (i := 22) rfl))) (Or.inr (hw _ (List.mem_of_getElem? (i := 18) rfl))) (by decide +kernel) (t := .long) (t' := (.object "com/example/epochwise/epochwise/bench/Transaction$Type")) (by decide +kernel) (by decide +kernel)
theorem own_sn_22_20 {Z : State} {a0 : Array Value} (hw : ∀ d ∈ tables_1, d.before a0 Z = true) : Jvm.RoadKit.slotOf Z "com/example/epochwise/epochwise/bench/Transaction" "arrival" "J" ≠ Jvm.RoadKit.slotOf Z "com/example/epochwise/epochwise/bench/Transaction" "client" "I" := slot_ne (Or.inr (hw _ (List.mem_of_getElem? (i := 22) rfl))) (Or.inr (hw _ (List.mem_of_getElem? (i := 20) rfl))) (by decide +kernel) (t := .long) (t' := .int) (by decide +kernel) (by decide +kernel)
theorem own_sn_24_16 {Z : State} {a0 : Array Value} (hw : ∀ d ∈ tables_1, d.before a0 Z = true) : Jvm.RoadKit.slotOf Z "com/example/epochwise/epochwise/bench/Transaction" "start" "J" ≠ Jvm.RoadKit.slotOf Z "com/example/epochwise/epochwise/bench/Transaction" "phase" "Lcom/example/epochwise/epochwise/bench/Transaction$Phase;" := slot_ne (Or.inr (hw _ (List.mem_of_getElem? (i := 24) rfl))) (Or.inr (hw _ (List.mem_of_getElem? (i := 16) rfl))) (by decide +kernel) (t := .long) (t' := (.object "com/example/epochwise/epochwise/bench/Transaction$Phase")) (by decide +kernel) (by decide +kernel)
theorem own_sn_24_18 {Z : State} {a0 : Array Value} (hw : ∀ d ∈ tables_1, d.before a0 Z = true) : Jvm.RoadKit.slotOf Z "com/example/epochwise/epochwise/bench/Transaction" "start" "J" ≠ Jvm.RoadKit.slotOf Z "com/example/epochwise/epochwise/bench/Transaction" "type" "Lcom/example/epochwise/epochwise/bench/Transaction$Type;" := slot_ne (Or.inr (hw _ (List.mem_of_getElem? (i := 24) rfl))) (Or.inr (hw _ (List.mem_of_getElem? (i := 18) rfl))) (by decide +kernel) (t := .long) (t' := (.object "com/example/epochwise/epochwise/bench/Transaction$Type")) (by decide +kernel) (by decide +kernel)
theorem own_sn_24_20 {Z : State} {a0 : Array Value} (hw : ∀ d ∈ tables_1, d.before a0 Z = true) : Jvm.RoadKit.slotOf Z "com/example/epochwise/epochwise/bench/Transaction" "start" "J" ≠ Jvm.RoadKit.slotOf Z "com/example/epochwise/epochwise/bench/Transaction" "client" "I" := slot_ne (Or.inr (hw _ (List.mem_of_getElem? (i := 24) rfl))) (Or.inr (hw _ (List.mem_of_getElem? (i := 20) rfl))) (by decide +kernel) (t := .long) (t' := .int) (by decide +kernel) (by decide +kernel)
theorem own_sn_24_22 {Z : State} {a0 : Array Value} (hw : ∀ d ∈ tables_1, d.before a0 Z = true) : Jvm.RoadKit.slotOf Z "com/example/epochwise/epochwise/bench/Transaction" "start" "J" ≠ Jvm.RoadKit.slotOf Z "com/example/epochwise/epochwise/bench/Transaction" "arrival" "J" := slot_ne (Or.inr (hw _ (List.mem_of_getElem? (i := 24) rfl))) (Or.inr (hw _ (List.mem_of_getElem? (i := 22) rfl))) (by decide +kernel) (t := .long) (t' := .long) (by decide +kernel) (by decide +kernel)
theorem own_sn_26_16 {Z : State} {a0 : Array Value} (hw : ∀ d ∈ tables_1, d.before a0 Z = true) : Jvm.RoadKit.slotOf Z "com/example/epochwise/epochwise/bench/Transaction" "end" "J" ≠ Jvm.RoadKit.slotOf Z "com/example/epochwise/epochwise/bench/Transaction" "phase" "Lcom/example/epochwise/epochwise/bench/Transaction$Phase;" := slot_ne (Or.inr (hw _ (List.mem_of_getElem? (i := 26) rfl))) (Or.inr (hw _ (List.mem_of_getElem? (i := 16) rfl))) (by decide +kernel) (t := .long) (t' := (.object "com/example/epochwise/epochwise/bench/Transaction$Phase")) (by decide +kernel) (by decide +kernel)
theorem own_sn_26_18 {Z : State} {a0 : Array Value} (hw : ∀ d ∈ tables_1, d.before a0 Z = true) : Jvm.RoadKit.slotOf Z "com/example/epochwise/epochwise/bench/Transaction" "end" "J" ≠ Jvm.RoadKit.slotOf Z "com/example/epochwise/epochwise/bench/Transaction" "type" "Lcom/example/epochwise/epochwise/bench/Transaction$Type;" := slot_ne (Or.inr (hw _ (List.mem_of_getElem? (i := 26) rfl))) (Or.inr (hw _ (List.mem_of_getElem? (i := 18) rfl))) (by decide +kernel) (t := .long) (t' := (.object "com/example/epochwise/epochwise/bench/Transaction$Type")) (by decide +kernel) (by decide +kernel)
theorem own_sn_26_20 {Z : State} {a0 : Array Value} (hw : ∀ d ∈ tables_1, d.before a0 Z = true) : Jvm.RoadKit.slotOf Z "com/example/epochwise/epochwise/bench/Transaction" "end" "J" ≠ Jvm.RoadKit.slotOf Z "com/example/epochwise/epochwise/bench/Transaction" "client" "I" := slot_ne (Or.inr (hw _ (List.mem_of_getElem? (i := 26) rfl))) (Or.inr (hw _ (List.mem_of_getElem? (i := 20) rfl))) (by decide +kernel) (t := .long) (t' := .int) (by decide +kernel) (by decide +kernel)
theorem own_sn_26_22 {Z : State} {a0 : Array Value} (hw : ∀ d ∈ tables_1, d.before a0 Z = true) : Jvm.RoadKit.slotOf Z "com/example/epochwise/epochwise/bench/Transaction" "end" "J" ≠ Jvm.RoadKit.slotOf Z "com/example/epochwise/epochwise/bench/Transaction" "arrival" "J" := slot_ne (Or.inr (hw _ (List.mem_of_getElem? (i := 26) rfl))) (Or.inr (hw _ (List.mem_of_getElem? (i := 22) rfl))) (by decide +kernel) (t := .long) (t' := .long) (by decide +kernel) (by decide +kernel)
theorem own_sn_26_24 {Z : State} {a0 : Array Value} (hw : ∀ d ∈ tables_1, d.before a0 Z = true) : Jvm.RoadKit.slotOf Z "com/example/epochwise/epochwise/bench/Transaction" "end" "J" ≠ Jvm.RoadKit.slotOf Z "com/example/epochwise/epochwise/bench/Transaction" "start" "J" := slot_ne (Or.inr (hw _ (List.mem_of_getElem? (i := 26) rfl))) (Or.inr (hw _ (List.mem_of_getElem? (i := 24) rfl))) (by decide +kernel) (t := .long) (t' := .long) (by decide +kernel) (by decide +kernel)
theorem own_sn_28_16 {Z : State} {a0 : Array Value} (hw : ∀ d ∈ tables_1, d.before a0 Z = true) : Jvm.RoadKit.slotOf Z "com/example/epochwise/epochwise/bench/Transaction" "status" "Lcom/example/epochwise/epochwise/bench/Transaction$Status;" ≠ Jvm.RoadKit.slotOf Z "com/example/epochwise/epochwise/bench/Transaction" "phase" "Lcom/example/epochwise/epochwise/bench/Transaction$Phase;" := slot_ne (Or.inr (hw _ (List.mem_of_getElem? (i := 28) rfl))) (Or.inr (hw _ (List.mem_of_getElem? (i := 16) rfl))) (by decide +kernel) (t := (.object "com/example/epochwise/epochwise/bench/Transaction$Status")) (t' := (.object "com/example/epochwise/epochwise/bench/Transaction$Phase")) (by decide +kernel) (by decide +kernel)
theorem own_sn_28_18 {Z : State} {a0 : Array Value} (hw : ∀ d ∈ tables_1, d.before a0 Z = true) : Jvm.RoadKit.slotOf Z "com/example/epochwise/epochwise/bench/Transaction" "status" "Lcom/example/epochwise/epochwise/bench/Transaction$Status;" ≠ Jvm.RoadKit.slotOf Z "com/example/epochwise/epochwise/bench/Transaction" "type" "Lcom/example/epochwise/epochwise/bench/Transaction$Type;" := slot_ne (Or.inr (hw _ (List.mem_of_getElem? (i := 28) rfl))) (Or.inr (hw _ (List.mem_of_getElem? (i := 18) rfl))) (by decide +kernel) (t := (.object "com/example/epochwise/epochwise/bench/Transaction$Status")) (t' := (.object "com/example/epochwise/epochwise/bench/Transaction$Type")) (by decide +kernel) (by decide +kernel)
theorem own_sn_28_20 {Z : State} {a0 : Array Value} (hw : ∀ d ∈ tables_1, d.before a0 Z = true) : Jvm.RoadKit.slotOf Z "com/example/epochwise/epochwise/bench/Transaction" "status" "Lcom/example/epochwise/epochwise/bench/Transaction$Status;" ≠ Jvm.RoadKit.slotOf Z "com/example/epochwise/epochwise/bench/Transaction" "client" "I" := slot_ne (Or.inr (hw _ (List.mem_of_getElem? (i := 28) rfl))) (Or.inr (hw _ (List.mem_of_getElem? (i := 20) rfl))) (by decide +kernel) (t := (.object "com/example/epochwise/epochwise/bench/Transaction$Status")) (t' := .int) (by decide +kernel) (by decide +kernel)
theorem own_sn_28_22 {Z : State} {a0 : Array Value} (hw : ∀ d ∈ tables_1, d.before a0 Z = true) : Jvm.RoadKit.slotOf Z "com/example/epochwise/epochwise/bench/Transaction" "status" "Lcom/example/epochwise/epochwise/bench/Transaction$Status;" ≠ Jvm.RoadKit.slotOf Z "com/example/epochwise/epochwise/bench/Transaction" "arrival" "J" := slot_ne (Or.inr (hw _ (List.mem_of_getElem? (i := 28) rfl))) (Or.inr (hw _ (List.mem_of_getElem? (i := 22) rfl))) (by decide +kernel) (t := (.object "com/example/epochwise/epochwise/bench/Transaction$Status")) (t' := .long) (by decide +kernel) (by decide +kernel)
theorem own_sn_28_24 {Z : State} {a0 : Array Value} (hw : ∀ d ∈ tables_1, d.before a0 Z = true) : Jvm.RoadKit.slotOf Z "com/example/epochwise/epochwise/bench/Transaction" "status" "Lcom/example/epochwise/epochwise/bench/Transaction$Status;" ≠ Jvm.RoadKit.slotOf Z "com/example/epochwise/epochwise/bench/Transaction" "start" "J" := slot_ne (Or.inr (hw _ (List.mem_of_getElem? (i := 28) rfl))) (Or.inr (hw _ (List.mem_of_getElem? (i := 24) rfl))) (by decide +kernel) (t := (.object "com/example/epochwise/epochwise/bench/Transaction$Status")) (t' := .long) (by decide +kernel) (by decide +kernel)
theorem own_sn_28_26 {Z : State} {a0 : Array Value} (hw : ∀ d ∈ tables_1, d.before a0 Z = true) : Jvm.RoadKit.slotOf Z "com/example/epochwise/epochwise/bench/Transaction" "status" "Lcom/example/epochwise/epochwise/bench/Transaction$Status;" ≠ Jvm.RoadKit.slotOf Z "com/example/epochwise/epochwise/bench/Transaction" "end" "J" := slot_ne (Or.inr (hw _ (List.mem_of_getElem? (i := 28) rfl))) (Or.inr (hw _ (List.mem_of_getElem? (i := 26) rfl))) (by decide +kernel) (t := (.object "com/example/epochwise/epochwise/bench/Transaction$Status")) (t' := .long) (by decide +kernel) (by decide +kernel)
theorem own_sn_30_16 {Z : State} {a0 : Array Value} (hw : ∀ d ∈ tables_1, d.before a0 Z = true) : Jvm.RoadKit.slotOf Z "com/example/epochwise/epochwise/bench/Transaction" "timestamp" "J" ≠ Jvm.RoadKit.slotOf Z "com/example/epochwise/epochwise/bench/Transaction" "phase" "Lcom/example/epochwise/epochwise/bench/Transaction$Phase;" := slot_ne (Or.inr (hw _ (List.mem_of_getElem? (i := 30) rfl))) (Or.inr (hw _ (List.mem_of_getElem? (i := 16) rfl))) (by decide +kernel) (t := .long) (t' := (.object "com/example/epochwise/epochwise/bench/Transaction$Phase")) (by decide +kernel) (by decide +kernel)
theorem own_sn_30_18 {Z : State} {a0 : Array Value} (hw : ∀ d ∈ tables_1, d.before a0 Z = true) : Jvm.RoadKit.slotOf Z "com/example/epochwise/epochwise/bench/Transaction" "timestamp" "J" ≠ Jvm.RoadKit.slotOf Z "com/example/epochwise/epochwise/bench/Transaction" "type" "Lcom/example/epochwise/epochwise/bench/Transaction$Type;" := slot_ne (Or.inr (hw _ (List.mem_of_getElem? (i := 30) rfl))) (Or.inr (hw _ (List.mem_of_getElem? (i := 18) rfl))) (by decide +kernel) (t := .long) (t' := (.object "com/example/epochwise/epochwise/bench/Transaction$Type")) (by decide +kernel) (by decide +kernel)
theorem own_sn_30_20 {Z : State} {a0 : Array Value} (hw : ∀ d ∈ tables_1, d.before a0 Z = true) : Jvm.RoadKit.slotOf Z "com/example/epochwise/epochwise/bench/Transaction" "timestamp" "J" ≠ Jvm.RoadKit.slotOf Z "com/example/epochwise/epochwise/bench/Transaction" "client" "I" := slot_ne (Or.inr (hw _ (List.mem_of_getElem? (i := 30) rfl))) (Or.inr (hw _ (List.mem_of_getElem? (i := 20) rfl))) (by decide +kernel) (t := .long) (t' := .int) (by decide +kernel) (by decide +kernel)
theorem own_sn_30_22 {Z : State} {a0 : Array Value} (hw : ∀ d ∈ tables_1, d.before a0 Z = true) : Jvm.RoadKit.slotOf Z "com/example/epochwise/epochwise/bench/Transaction" "timestamp" "J" ≠ Jvm.RoadKit.slotOf Z "com/example/epochwise/epochwise/bench/Transaction" "arrival" "J" := slot_ne (Or.inr (hw _ (List.mem_of_getElem? (i := 30) rfl))) (Or.inr (hw _ (List.mem_of_getElem? (i := 22) rfl))) (by decide +kernel) (t := .long) (t' := .long) (by decide +kernel) (by decide +kernel)
theorem own_sn_30_24 {Z : State} {a0 : Array Value} (hw : ∀ d ∈ tables_1, d.before a0 Z = true) : Jvm.RoadKit.slotOf Z "com/example/epochwise/epochwise/bench/Transaction" "timestamp" "J" ≠ Jvm.RoadKit.slotOf Z "com/example/epochwise/epochwise/bench/Transaction" "start" "J" := slot_ne (Or.inr (hw _ (List.mem_of_getElem? (i := 30) rfl))) (Or.inr (hw _ (List.mem_of_getElem? (i := 24) rfl))) (by decide +kernel) (t := .long) (t' := .long) (by decide +kernel) (by decide +kernel)
theorem own_sn_30_26 {Z : State} {a0 : Array Value} (hw : ∀ d ∈ tables_1, d.before a0 Z = true) : Jvm.RoadKit.slotOf Z "com/example/epochwise/epochwise/bench/Transaction" "timestamp" "J" ≠ Jvm.RoadKit.slotOf Z "com/example/epochwise/epochwise/bench/Transaction" "end" "J" := slot_ne (Or.inr (hw _ (List.mem_of_getElem? (i := 30) rfl))) (Or.inr (hw _ (List.mem_of_getElem? (i := 26) rfl))) (by decide +kernel) (t := .long) (t' := .long) (by decide +kernel) (by decide +kernel)
theorem own_sn_30_28 {Z : State} {a0 : Array Value} (hw : ∀ d ∈ tables_1, d.before a0 Z = true) : Jvm.RoadKit.slotOf Z "com/example/epochwise/epochwise/bench/Transaction" "timestamp" "J" ≠ Jvm.RoadKit.slotOf Z "com/example/epochwise/epochwise/bench/Transaction" "status" "Lcom/example/epochwise/epochwise/bench/Transaction$Status;" := slot_ne (Or.inr (hw _ (List.mem_of_getElem? (i := 30) rfl))) (Or.inr (hw _ (List.mem_of_getElem? (i := 28) rfl))) (by decide +kernel) (t := .long) (t' := (.object "com/example/epochwise/epochwise/bench/Transaction$Status")) (by decide +kernel) (by decide +kernel)
theorem own_sn_32_16 {Z : State} {a0 : Array Value} (hw : ∀ d ∈ tables_1, d.before a0 Z = true) : Jvm.RoadKit.slotOf Z "com/example/epochwise/epochwise/bench/Transaction" "rounds" "I" ≠ Jvm.RoadKit.slotOf Z "com/example/epochwise/epochwise/bench/Transaction" "phase" "Lcom/example/epochwise/epochwise/bench/Transaction$Phase;" := slot_ne (Or.inr (hw _ (List.mem_of_getElem? (i := 32) rfl))) (Or.inr (hw _ (List.mem_of_getElem? (i := 16) rfl))) (by decide +kernel) (t := .int) (t' := (.object "com/example/epochwise/epochwise/bench/Transaction$Phase")) (by decide +kernel) (by decide +kernel)
theorem own_sn_32_18 {Z : State} {a0 : Array Value} (hw : ∀ d ∈ tables_1, d.before a0 Z = true) : Jvm.RoadKit.slotOf Z "com/example/epochwise/epochwise/bench/Transaction" "rounds" "I" ≠ Jvm.RoadKit.slotOf Z "com/example/epochwise/epochwise/bench/Transaction" "type" "Lcom/example/epochwise/epochwise/bench/Transaction$Type;" := slot_ne (Or.inr (hw _ (List.mem_of_getElem? (i := 32) rfl))) (Or.inr (hw _ (List.mem_of_getElem? (i := 18) rfl))) (by decide +kernel) (t := .int) (t' := (.object "com/example/epochwise/epochwise/bench/Transaction$Type")) (by decide +kernel) (by decide +kernel)
theorem own_sn_32_20 {Z : State} {a0 : Array Value} (hw : ∀ d ∈ tables_1, d.before a0 Z = true) : Jvm.RoadKit.slotOf Z "com/example/epochwise/epochwise/bench/Transaction" "rounds" "I" ≠ Jvm.RoadKit.slotOf Z "com/example/epochwise/epochwise/bench/Transaction" "client" "I" := slot_ne (Or.inr (hw _ (List.mem_of_getElem? (i := 32) rfl))) (Or.inr (hw _ (List.mem_of_getElem? (i := 20) rfl))) (by decide +kernel) (t := .int) (t' := .int) (by decide +kernel) (by decide +kernel)
theorem own_sn_32_22 {Z : State} {a0 : Array Value} (hw : ∀ d ∈ tables_1, d.before a0 Z = true) : Jvm.RoadKit.slotOf Z "com/example/epochwise/epochwise/bench/Transaction" "rounds" "I" ≠ Jvm.RoadKit.slotOf Z "com/example/epochwise/epochwise/bench/Transaction" "arrival" "J" := slot_ne (Or.inr (hw _ (List.mem_of_getElem? (i := 32) rfl))) (Or.inr (hw _ (List.mem_of_getElem? (i := 22) rfl))) (by decide +kernel) (t := .int) (t' := .long) (by decide +kernel) (by decide +kernel)
theorem own_sn_32_24 {Z : State} {a0 : Array Value} (hw : ∀ d ∈ tables_1, d.before a0 Z = true) : Jvm.RoadKit.slotOf Z "com/example/epochwise/epochwise/bench/Transaction" "rounds" "I" ≠ Jvm.RoadKit.slotOf Z "com/example/epochwise/epochwise/bench/Transaction" "start" "J" := slot_ne (Or.inr (hw _ (List.mem_of_getElem? (i := 32) rfl))) (Or.inr (hw _ (List.mem_of_getElem? (i := 24) rfl))) (by decide +kernel) (t := .int) (t' := .long) (by decide +kernel) (by decide +kernel)
theorem own_sn_32_26 {Z : State} {a0 : Array Value} (hw : ∀ d ∈ tables_1, d.before a0 Z = true) : Jvm.RoadKit.slotOf Z "com/example/epochwise/epochwise/bench/Transaction" "rounds" "I" ≠ Jvm.RoadKit.slotOf Z "com/example/epochwise/epochwise/bench/Transaction" "end" "J" := slot_ne (Or.inr (hw _ (List.mem_of_getElem? (i := 32) rfl))) (Or.inr (hw _ (List.mem_of_getElem? (i := 26) rfl))) (by decide +kernel) (t := .int) (t' := .long) (by decide +kernel) (by decide +kernel)
theorem own_sn_32_28 {Z : State} {a0 : Array Value} (hw : ∀ d ∈ tables_1, d.before a0 Z = true) : Jvm.RoadKit.slotOf Z "com/example/epochwise/epochwise/bench/Transaction" "rounds" "I" ≠ Jvm.RoadKit.slotOf Z "com/example/epochwise/epochwise/bench/Transaction" "status" "Lcom/example/epochwise/epochwise/bench/Transaction$Status;" := slot_ne (Or.inr (hw _ (List.mem_of_getElem? (i := 32) rfl))) (Or.inr (hw _ (List.mem_of_getElem? (i := 28) rfl))) (by decide +kernel) (t := .int) (t' := (.object "com/example/epochwise/epochwise/bench/Transaction$Status")) (by decide +kernel) (by decide +kernel)
theorem own_sn_32_30 {Z : State} {a0 : Array Value} (hw : ∀ d ∈ tables_1, d.before a0 Z = true) : Jvm.RoadKit.slotOf Z "com/example/epochwise/epochwise/bench/Transaction" "rounds" "I" ≠ Jvm.RoadKit.slotOf Z "com/example/epochwise/epochwise/bench/Transaction" "timestamp" "J" := slot_ne (Or.inr (hw _ (List.mem_of_getElem? (i := 32) rfl))) (Or.inr (hw _ (List.mem_of_getElem? (i := 30) rfl))) (by decide +kernel) (t := .int) (t' := .long) (by decide +kernel) (by decide +kernel)
theorem own_sn_34_16 {Z : State} {a0 : Array Value} (hw : ∀ d ∈ tables_1, d.before a0 Z = true) : Jvm.RoadKit.slotOf Z "com/example/epochwise/epochwise/bench/Transaction" "keys" "[I" ≠ Jvm.RoadKit.slotOf Z "com/example/epochwise/epochwise/bench/Transaction" "phase" "Lcom/example/epochwise/epochwise/bench/Transaction$Phase;" := slot_ne (Or.inr (hw _ (List.mem_of_getElem? (i := 34) rfl))) (Or.inr (hw _ (List.mem_of_getElem? (i := 16) rfl))) (by decide +kernel) (t := (.array .int)) (t' := (.object "com/example/epochwise/epochwise/bench/Transaction$Phase")) (by decide +kernel) (by decide +kernel)
theorem own_sn_34_18 {Z : State} {a0 : Array Value} (hw : ∀ d ∈ tables_1, d.before a0 Z = true) : Jvm.RoadKit.slotOf Z "com/example/epochwise/epochwise/bench/Transaction" "keys" "[I" ≠ Jvm.RoadKit.slotOf Z "com/example/epochwise/epochwise/bench/Transaction" "type" "Lcom/example/epochwise/epochwise/bench/Transaction$Type;" := slot_ne (Or.inr (hw _ (List.mem_of_getElem? (i := 34) rfl))) (Or.inr (hw _ (List.mem_of_getElem? (i := 18) rfl))) (by decide +kernel) (t := (.array .int)) (t' := (.object "com/example/epochwise/epochwise/bench/Transaction$Type")) (by decide +kernel) (by decide +kernel)
theorem own_sn_34_20 {Z : State} {a0 : Array Value} (hw : ∀ d ∈ tables_1, d.before a0 Z = true) : Jvm.RoadKit.slotOf Z "com/example/epochwise/epochwise/bench/Transaction" "keys" "[I" ≠ Jvm.RoadKit.slotOf Z "com/example/epochwise/epochwise/bench/Transaction" "client" "I" := slot_ne (Or.inr (hw _ (List.mem_of_getElem? (i := 34) rfl))) (Or.inr (hw _ (List.mem_of_getElem? (i := 20) rfl))) (by decide +kernel) (t := (.array .int)) (t' := .int) (by decide +kernel) (by decide +kernel)
theorem own_sn_34_22 {Z : State} {a0 : Array Value} (hw : ∀ d ∈ tables_1, d.before a0 Z = true) : Jvm.RoadKit.slotOf Z "com/example/epochwise/epochwise/bench/Transaction" "keys" "[I" ≠ Jvm.RoadKit.slotOf Z "com/example/epochwise/epochwise/bench/Transaction" "arrival" "J" := slot_ne (Or.inr (hw _ (List.mem_of_getElem? (i := 34) rfl))) (Or.inr (hw _ (List.mem_of_getElem? (i := 22) rfl))) (by decide +kernel) (t := (.array .int)) (t' := .long) (by decide +kernel) (by decide +kernel)
theorem own_sn_34_24 {Z : State} {a0 : Array Value} (hw : ∀ d ∈ tables_1, d.before a0 Z = true) : Jvm.RoadKit.slotOf Z "com/example/epochwise/epochwise/bench/Transaction" "keys" "[I" ≠ Jvm.RoadKit.slotOf Z "com/example/epochwise/epochwise/bench/Transaction" "start" "J" := slot_ne (Or.inr (hw _ (List.mem_of_getElem? (i := 34) rfl))) (Or.inr (hw _ (List.mem_of_getElem? (i := 24) rfl))) (by decide +kernel) (t := (.array .int)) (t' := .long) (by decide +kernel) (by decide +kernel)
theorem own_sn_34_26 {Z : State} {a0 : Array Value} (hw : ∀ d ∈ tables_1, d.before a0 Z = true) : Jvm.RoadKit.slotOf Z "com/example/epochwise/epochwise/bench/Transaction" "keys" "[I" ≠ Jvm.RoadKit.slotOf Z "com/example/epochwise/epochwise/bench/Transaction" "end" "J" := slot_ne (Or.inr (hw _ (List.mem_of_getElem? (i := 34) rfl))) (Or.inr (hw _ (List.mem_of_getElem? (i := 26) rfl))) (by decide +kernel) (t := (.array .int)) (t' := .long) (by decide +kernel) (by decide +kernel)
theorem own_sn_34_28 {Z : State} {a0 : Array Value} (hw : ∀ d ∈ tables_1, d.before a0 Z = true) : Jvm.RoadKit.slotOf Z "com/example/epochwise/epochwise/bench/Transaction" "keys" "[I" ≠ Jvm.RoadKit.slotOf Z "com/example/epochwise/epochwise/bench/Transaction" "status" "Lcom/example/epochwise/epochwise/bench/Transaction$Status;" := slot_ne (Or.inr (hw _ (List.mem_of_getElem? (i := 34) rfl))) (Or.inr (hw _ (List.mem_of_getElem? (i := 28) rfl))) (by decide +kernel) (t := (.array .int)) (t' := (.object "com/example/epochwise/epochwise/bench/Transaction$Status")) (by decide +kernel) (by decide +kernel)
theorem own_sn_34_30 {Z : State} {a0 : Array Value} (hw : ∀ d ∈ tables_1, d.before a0 Z = true) : Jvm.RoadKit.slotOf Z "com/example/epochwise/epochwise/bench/Transaction" "keys" "[I" ≠ Jvm.RoadKit.slotOf Z "com/example/epochwise/epochwise/bench/Transaction" "timestamp" "J" := slot_ne (Or.inr (hw _ (List.mem_of_getElem? (i := 34) rfl))) (Or.inr (hw _ (List.mem_of_getElem? (i := 30) rfl))) (by decide +kernel) (t := (.array .int)) (t' := .long) (by decide +kernel) (by decide +kernel)
theorem own_sn_34_32 {Z : State} {a0 : Array Value} (hw : ∀ d ∈ tables_1, d.before a0 Z = true) : Jvm.RoadKit.slotOf Z "com/example/epochwise/epochwise/bench/Transaction" "keys" "[I" ≠ Jvm.RoadKit.slotOf Z "com/example/epochwise/epochwise/bench/Transaction" "rounds" "I" := slot_ne (Or.inr (hw _ (List.mem_of_getElem? (i := 34) rfl))) (Or.inr (hw _ (List.mem_of_getElem? (i := 32) rfl))) (by decide +kernel) (t := (.array .int)) (t' := .int) (by decide +kernel) (by decide +kernel)
theorem own_sn_36_16 {Z : State} {a0 : Array Value} (hw : ∀ d ∈ tables_1, d.before a0 Z = true) : Jvm.RoadKit.slotOf Z "com/example/epochwise/epochwise/bench/Transaction" "value" "J" ≠ Jvm.RoadKit.slotOf Z "com/example/epochwise/epochwise/bench/Transaction" "phase" "Lcom/example/epochwise/epochwise/bench/Transaction$Phase;" := slot_ne (Or.inr (hw _ (List.mem_of_getElem? (i := 36) rfl))) (Or.inr (hw _ (List.mem_of_getElem? (i := 16) rfl))) (by decide +kernel) (t := .long) (t' := (.object "com/example/epochwise/epochwise/bench/Transaction$Phase")) (by decide +kernel) (by decide +kernel)
theorem own_sn_36_18 {Z : State} {a0 : Array Value} (hw : ∀ d ∈ tables_1, d.before a0 Z = true) : Jvm.RoadKit.slotOf Z "com/example/epochwise/epochwise/bench/Transaction" "value" "J" ≠ Jvm.RoadKit.slotOf Z "com/example/epochwise/epochwise/bench/Transaction" "type" "Lcom/example/epochwise/epochwise/bench/Transaction$Type;" := slot_ne (Or.inr (hw _ (List.mem_of_getElem? (i := 36) rfl))) (Or.inr (hw _ (List.mem_of_getElem? (i := 18) rfl))) (by decide +kernel) (t := .long) (t' := (.object "com/example/epochwise/epochwise/bench/Transaction$Type")) (by decide +kernel) (by decide +kernel)
theorem own_sn_36_20 {Z : State} {a0 : Array Value} (hw : ∀ d ∈ tables_1, d.before a0 Z = true) : Jvm.RoadKit.slotOf Z "com/example/epochwise/epochwise/bench/Transaction" "value" "J" ≠ Jvm.RoadKit.slotOf Z "com/example/epochwise/epochwise/bench/Transaction" "client" "I" := slot_ne (Or.inr (hw _ (List.mem_of_getElem? (i := 36) rfl))) (Or.inr (hw _ (List.mem_of_getElem? (i := 20) rfl))) (by decide +kernel) (t := .long) (t' := .int) (by decide +kernel) (by decide +kernel)
theorem own_sn_36_22 {Z : State} {a0 : Array Value} (hw : ∀ d ∈ tables_1, d.before a0 Z = true) : Jvm.RoadKit.slotOf Z "com/example/epochwise/epochwise/bench/Transaction" "value" "J" ≠ Jvm.RoadKit.slotOf Z "com/example/epochwise/epochwise/bench/Transaction" "arrival" "J" := slot_ne (Or.inr (hw _ (List.mem_of_getElem? (i := 36) rfl))) (Or.inr (hw _ (List.mem_of_getElem? (i := 22) rfl))) (by decide +kernel) (t := .long) (t' := .long) (by decide +kernel) (by decide +kernel)
theorem own_sn_36_24 {Z : State} {a0 : Array Value} (hw : ∀ d ∈ tables_1, d.before a0 Z = true) : Jvm.RoadKit.slotOf Z "com/example/epochwise/epochwise/bench/Transaction" "value" "J" ≠ Jvm.RoadKit.slotOf Z "com/example/epochwise/epochwise/bench/Transaction" "start" "J" := slot_ne (Or.inr (hw _ (List.mem_of_getElem? (i := 36) rfl))) (Or.inr (hw _ (List.mem_of_getElem? (i := 24) rfl))) (by decide +kernel) (t := .long) (t' := .long) (by decide +kernel) (by decide +kernel)
theorem own_sn_36_26 {Z : State} {a0 : Array Value} (hw : ∀ d ∈ tables_1, d.before a0 Z = true) : Jvm.RoadKit.slotOf Z "com/example/epochwise/epochwise/bench/Transaction" "value" "J" ≠ Jvm.RoadKit.slotOf Z "com/example/epochwise/epochwise/bench/Transaction" "end" "J" := slot_ne (Or.inr (hw _ (List.mem_of_getElem? (i := 36) rfl))) (Or.inr (hw _ (List.mem_of_getElem? (i := 26) rfl))) (by decide +kernel) (t := .long) (t' := .long) (by decide +kernel) (by decide +kernel)
theorem own_sn_36_28 {Z : State} {a0 : Array Value} (hw : ∀ d ∈ tables_1, d.before a0 Z = true) : Jvm.RoadKit.slotOf Z "com/example/epochwise/epochwise/bench/Transaction" "value" "J" ≠ Jvm.RoadKit.slotOf Z "com/example/epochwise/epochwise/bench/Transaction" "status" "Lcom/example/epochwise/epochwise/bench/Transaction$Status;" := slot_ne (Or.inr (hw _ (List.mem_of_getElem? (i := 36) rfl))) (Or.inr (hw _ (List.mem_of_getElem? (i := 28) rfl))) (by decide +kernel) (t := .long) (t' := (.object "com/example/epochwise/epochwise/bench/Transaction$Status")) (by decide +kernel) (by decide +kernel)
theorem own_sn_36_30 {Z : State} {a0 : Array Value} (hw : ∀ d ∈ tables_1, d.before a0 Z = true) : Jvm.RoadKit.slotOf Z "com/example/epochwise/epochwise/bench/Transaction" "value" "J" ≠ Jvm.RoadKit.slotOf Z "com/example/epochwise/epochwise/bench/Transaction" "timestamp" "J" := slot_ne (Or.inr (hw _ (List.mem_of_getElem? (i := 36) rfl))) (Or.inr (hw _ (List.mem_of_getElem? (i := 30) rfl))) (by decide +kernel) (t := .long) (t' := .long) (by decide +kernel) (by decide +kernel)
theorem own_sn_36_32 {Z : State} {a0 : Array Value} (hw : ∀ d ∈ tables_1, d.before a0 Z = true) : Jvm.RoadKit.slotOf Z "com/example/epochwise/epochwise/bench/Transaction" "value" "J" ≠ Jvm.RoadKit.slotOf Z "com/example/epochwise/epochwise/bench/Transaction" "rounds" "I" := slot_ne (Or.inr (hw _ (List.mem_of_getElem? (i := 36) rfl))) (Or.inr (hw _ (List.mem_of_getElem? (i := 32) rfl))) (by decide +kernel) (t := .long) (t' := .int) (by decide +kernel) (by decide +kernel)
theorem own_sn_36_34 {Z : State} {a0 : Array Value} (hw : ∀ d ∈ tables_1, d.before a0 Z = true) : Jvm.RoadKit.slotOf Z "com/example/epochwise/epochwise/bench/Transaction" "value" "J" ≠ Jvm.RoadKit.slotOf Z "com/example/epochwise/epochwise/bench/Transaction" "keys" "[I" := slot_ne (Or.inr (hw _ (List.mem_of_getElem? (i := 36) rfl))) (Or.inr (hw _ (List.mem_of_getElem? (i := 34) rfl))) (by decide +kernel) (t := .long) (t' := (.array .int)) (by decide +kernel) (by decide +kernel)
theorem own_sn_38_16 {Z : State} {a0 : Array Value} (hw : ∀ d ∈ tables_1, d.before a0 Z = true) : Jvm.RoadKit.slotOf Z "com/example/epochwise/epochwise/bench/Transaction" "values" "[J" ≠ Jvm.RoadKit.slotOf Z "com/example/epochwise/epochwise/bench/Transaction" "phase" "Lcom/example/epochwise/epochwise/bench/Transaction$Phase;" := slot_ne (Or.inr (hw _ (List.mem_of_getElem? (i := 38) rfl))) (Or.inr (hw _ (List.mem_of_getElem? (i := 16) rfl))) (by decide +kernel) (t := (.array .long)) (t' := (.object "com/example/epochwise/epochwise/bench/Transaction$Phase")) (by decide +kernel) (by decide +kernel)
theorem own_sn_38_18 {Z : State} {a0 : Array Value} (hw : ∀ d ∈ tables_1, d.before a0 Z = true) : Jvm.RoadKit.slotOf Z "com/example/epochwise/epochwise/bench/Transaction" "values" "[J" ≠ Jvm.RoadKit.slotOf Z "com/example/epochwise/epochwise/bench/Transaction" "type" "Lcom/example/epochwise/epochwise/bench/Transaction$Type;" := slot_ne (Or.inr (hw _ (List.mem_of_getElem? (i := 38) rfl))) (Or.inr (hw _ (List.mem_of_getElem? (i := 18) rfl))) (by decide +kernel) (t := (.array .long)) (t' := (.object "com/example/epochwise/epochwise/bench/Transaction$Type")) (by decide +kernel) (by decide +kernel)
theorem own_sn_38_20 {Z : State} {a0 : Array Value} (hw : ∀ d ∈ tables_1, d.before a0 Z = true) : Jvm.RoadKit.slotOf Z "com/example/epochwise/epochwise/bench/Transaction" "values" "[J" ≠ Jvm.RoadKit.slotOf Z "com/example/epochwise/epochwise/bench/Transaction" "client" "I" := slot_ne (Or.inr (hw _ (List.mem_of_getElem? (i := 38) rfl))) (Or.inr (hw _ (List.mem_of_getElem? (i := 20) rfl))) (by decide +kernel) (t := (.array .long)) (t' := .int) (by decide +kernel) (by decide +kernel)
theorem own_sn_38_22 {Z : State} {a0 : Array Value} (hw : ∀ d ∈ tables_1, d.before a0 Z = true) : Jvm.RoadKit.slotOf Z "com/example/epochwise/epochwise/bench/Transaction" "values" "[J" ≠ Jvm.RoadKit.slotOf Z "com/example/epochwise/epochwise/bench/Transaction" "arrival" "J" := slot_ne (Or.inr (hw _ (List.mem_of_getElem? (i := 38) rfl))) (Or.inr (hw _ (List.mem_of_getElem? (i := 22) rfl))) (by decide +kernel) (t := (.array .long)) (t' := .long) (by decide +kernel) (by decide +kernel)
theorem own_sn_38_24 {Z : State} {a0 : Array Value} (hw : ∀ d ∈ tables_1, d.before a0 Z = true) : Jvm.RoadKit.slotOf Z "com/example/epochwise/epochwise/bench/Transaction" "values" "[J" ≠ Jvm.RoadKit.slotOf Z "com/example/epochwise/epochwise/bench/Transaction" "start" "J" := slot_ne (Or.inr (hw _ (List.mem_of_getElem? (i := 38) rfl))) (Or.inr (hw _ (List.mem_of_getElem? (i := 24) rfl))) (by decide +kernel) (t := (.array .long)) (t' := .long) (by decide +kernel) (by decide +kernel)
theorem own_sn_38_26 {Z : State} {a0 : Array Value} (hw : ∀ d ∈ tables_1, d.before a0 Z = true) : Jvm.RoadKit.slotOf Z "com/example/epochwise/epochwise/bench/Transaction" "values" "[J" ≠ Jvm.RoadKit.slotOf Z "com/example/epochwise/epochwise/bench/Transaction" "end" "J" := slot_ne (Or.inr (hw _ (List.mem_of_getElem? (i := 38) rfl))) (Or.inr (hw _ (List.mem_of_getElem? (i := 26) rfl))) (by decide +kernel) (t := (.array .long)) (t' := .long) (by decide +kernel) (by decide +kernel)
theorem own_sn_38_28 {Z : State} {a0 : Array Value} (hw : ∀ d ∈ tables_1, d.before a0 Z = true) : Jvm.RoadKit.slotOf Z "com/example/epochwise/epochwise/bench/Transaction" "values" "[J" ≠ Jvm.RoadKit.slotOf Z "com/example/epochwise/epochwise/bench/Transaction" "status" "Lcom/example/epochwise/epochwise/bench/Transaction$Status;" := slot_ne (Or.inr (hw _ (List.mem_of_getElem? (i := 38) rfl))) (Or.inr (hw _ (List.mem_of_getElem? (i := 28) rfl))) (by decide +kernel) (t := (.array .long)) (t' := (.object "com/example/epochwise/epochwise/bench/Transaction$Status")) (by decide +kernel) (by decide +kernel)
theorem own_sn_38_30 {Z : State} {a0 : Array Value} (hw : ∀ d ∈ tables_1, d.before a0 Z = true) : Jvm.RoadKit.slotOf Z "com/example/epochwise/epochwise/bench/Transaction" "values" "[J" ≠ Jvm.RoadKit.slotOf Z "com/example/epochwise/epochwise/bench/Transaction" "timestamp" "J" := slot_ne (Or.inr (hw _ (List.mem_of_getElem? (i := 38) rfl))) (Or.inr (hw _ (List.mem_of_getElem? (i := 30) rfl))) (by decide +kernel) (t := (.array .long)) (t' := .long) (by decide +kernel) (by decide +kernel)
theorem own_sn_38_32 {Z : State} {a0 : Array Value} (hw : ∀ d ∈ tables_1, d.before a0 Z = true) : Jvm.RoadKit.slotOf Z "com/example/epochwise/epochwise/bench/Transaction" "values" "[J" ≠ Jvm.RoadKit.slotOf Z "com/example/epochwise/epochwise/bench/Transaction" "rounds" "I" := slot_ne (Or.inr (hw _ (List.mem_of_getElem? (i := 38) rfl))) (Or.inr (hw _ (List.mem_of_getElem? (i := 32) rfl))) (by decide +kernel) (t := (.array .long)) (t' := .int) (by decide +kernel) (by decide +kernel)
theorem own_sn_38_34 {Z : State} {a0 : Array Value} (hw : ∀ d ∈ tables_1, d.before a0 Z = true) : Jvm.RoadKit.slotOf Z "com/example/epochwise/epochwise/bench/Transaction" "values" "[J" ≠ Jvm.RoadKit.slotOf Z "com/example/epochwise/epochwise/bench/Transaction" "keys" "[I" := slot_ne (Or.inr (hw _ (List.mem_of_getElem? (i := 38) rfl))) (Or.inr (hw _ (List.mem_of_getElem? (i := 34) rfl))) (by decide +kernel) (t := (.array .long)) (t' := (.array .int)) (by decide +kernel) (by decide +kernel)
theorem own_sn_38_36 {Z : State} {a0 : Array Value} (hw : ∀ d ∈ tables_1, d.before a0 Z = true) : Jvm.RoadKit.slotOf Z "com/example/epochwise/epochwise/bench/Transaction" "values" "[J" ≠ Jvm.RoadKit.slotOf Z "com/example/epochwise/epochwise/bench/Transaction" "value" "J" := slot_ne (Or.inr (hw _ (List.mem_of_getElem? (i := 38) rfl))) (Or.inr (hw _ (List.mem_of_getElem? (i := 36) rfl))) (by decide +kernel) (t := (.array .long)) (t' := .long) (by decide +kernel) (by decide +kernel)
theorem own_sn_16_18 {Z : State} {a0 : Array Value} (hw : ∀ d ∈ tables_1, d.before a0 Z = true) : Jvm.RoadKit.slotOf Z "com/example/epochwise/epochwise/bench/Transaction" "phase" "Lcom/example/epochwise/epochwise/bench/Transaction$Phase;" ≠ Jvm.RoadKit.slotOf Z "com/example/epochwise/epochwise/bench/Transaction" "type" "Lcom/example/epochwise/epochwise/bench/Transaction$Type;" := slot_ne (Or.inr (hw _ (List.mem_of_getElem? (i := 16) rfl))) (Or.inr (hw _ (List.mem_of_getElem? (i := 18) rfl))) (by decide +kernel) (t := (.object "com/example/epochwise/epochwise/bench/Transaction$Phase")) (t' := (.object "com/example/epochwise/epochwise/bench/Transaction$Type")) (by decide +kernel) (by decide +kernel)
theorem own_sn_16_20 {Z : State} {a0 : Array Value} (hw : ∀ d ∈ tables_1, d.before a0 Z = true) : Jvm.RoadKit.slotOf Z "com/example/epochwise/epochwise/bench/Transaction" "phase" "Lcom/example/epochwise/epochwise/bench/Transaction$Phase;" ≠ Jvm.RoadKit.slotOf Z "com/example/epochwise/epochwise/bench/Transaction" "client" "I" := slot_ne (Or.inr (hw _ (List.mem_of_getElem? (i := 16) rfl))) (Or.inr (hw _ (List.mem_of_getElem? (i := 20) rfl))) (by decide +kernel) (t := (.object "com/example/epochwise/epochwise/bench/Transaction$Phase")) (t' := .int) (by decide +kernel) (by decide +kernel)
theorem own_sn_16_22 {Z : State} {a0 : Array Value} (hw : ∀ d ∈ tables_1, d.before a0 Z = true) : Jvm.RoadKit.slotOf Z "com/example/epochwise/epochwise/bench/Transaction" "phase" "Lcom/example/epochwise/epochwise/bench/Transaction$Phase;" ≠ Jvm.RoadKit.slotOf Z "com/example/epochwise/epochwise/bench/Transaction" "arrival" "J" := slot_ne (Or.inr (hw _ (List.mem_of_getElem? (i := 16) rfl))) (Or.inr (hw _ (List.mem_of_getElem? (i := 22) rfl))) (by decide +kernel) (t := (.object "com/example/epochwise/epochwise/bench/Transaction$Phase")) (t' := .long) (by decide +kernel) (by decide +kernel)
theorem own_sn_16_24 {Z : State} {a0 : Array Value} (hw : ∀ d ∈ tables_1, d.before a0 Z = true) : Jvm.RoadKit.slotOf Z "com/example/epochwise/epochwise/bench/Transaction" "phase" "Lcom/example/epochwise/epochwise/bench/Transaction$Phase;" ≠ Jvm.RoadKit.slotOf Z "com/example/epochwise/epochwise/bench/Transaction" "start" "J" := slot_ne (Or.inr (hw _ (List.mem_of_getElem? (i := 16) rfl))) (Or.inr (hw _ (List.mem_of_getElem? (i := 24) rfl))) (by decide +kernel) (t := (.object "com/example/epochwise/epochwise/bench/Transaction$Phase")) (t' := .long) (by decide +kernel) (by decide +kernel)
theorem own_sn_16_26 {Z : State} {a0 : Array Value} (hw : ∀ d ∈ tables_1, d.before a0 Z = true) : Jvm.RoadKit.slotOf Z "com/example/epochwise/epochwise/bench/Transaction" "phase" "Lcom/example/epochwise/epochwise/bench/Transaction$Phase;" ≠ Jvm.RoadKit.slotOf Z "com/example/epochwise/epochwise/bench/Transaction" "end" "J" := slot_ne (Or.inr (hw _ (List.mem_of_getElem? (i := 16) rfl))) (Or.inr (hw _ (List.mem_of_getElem? (i := 26) rfl))) (by decide +kernel) (t := (.object "com/example/epochwise/epochwise/bench/Transaction$Phase")) (t' := .long) (by decide +kernel) (by decide +kernel)
theorem own_sn_16_28 {Z : State} {a0 : Array Value} (hw : ∀ d ∈ tables_1, d.before a0 Z = true) : Jvm.RoadKit.slotOf Z "com/example/epochwise/epochwise/bench/Transaction" "phase" "Lcom/example/epochwise/epochwise/bench/Transaction$Phase;" ≠ Jvm.RoadKit.slotOf Z "com/example/epochwise/epochwise/bench/Transaction" "status" "Lcom/example/epochwise/epochwise/bench/Transaction$Status;" := slot_ne (Or.inr (hw _ (List.mem_of_getElem? (i := 16) rfl))) (Or.inr (hw _ (List.mem_of_getElem? (i := 28) rfl))) (by decide +kernel) (t := (.object "com/example/epochwise/epochwise/bench/Transaction$Phase")) (t' := (.object "com/example/epochwise/epochwise/bench/Transaction$Status")) (by decide +kernel) (by decide +kernel)
theorem own_sn_16_30 {Z : State} {a0 : Array Value} (hw : ∀ d ∈ tables_1, d.before a0 Z = true) : Jvm.RoadKit.slotOf Z "com/example/epochwise/epochwise/bench/Transaction" "phase" "Lcom/example/epochwise/epochwise/bench/Transaction$Phase;" ≠ Jvm.RoadKit.slotOf Z "com/example/epochwise/epochwise/bench/Transaction" "timestamp" "J" := slot_ne (Or.inr (hw _ (List.mem_of_getElem? (i := 16) rfl))) (Or.inr (hw _ (List.mem_of_getElem? (i := 30) rfl))) (by decide +kernel) (t := (.object "com/example/epochwise/epochwise/bench/Transaction$Phase")) (t' := .long) (by decide +kernel) (by decide +kernel)
theorem own_sn_16_32 {Z : State} {a0 : Array Value} (hw : ∀ d ∈ tables_1, d.before a0 Z = true) : Jvm.RoadKit.slotOf Z "com/example/epochwise/epochwise/bench/Transaction" "phase" "Lcom/example/epochwise/epochwise/bench/Transaction$Phase;" ≠ Jvm.RoadKit.slotOf Z "com/example/epochwise/epochwise/bench/Transaction" "rounds" "I" := slot_ne (Or.inr (hw _ (List.mem_of_getElem? (i := 16) rfl))) (Or.inr (hw _ (List.mem_of_getElem? (i := 32) rfl))) (by decide +kernel) (t := (.object "com/example/epochwise/epochwise/bench/Transaction$Phase")) (t' := .int) (by decide +kernel) (by decide +kernel)
theorem own_sn_16_34 {Z : State} {a0 : Array Value} (hw : ∀ d ∈ tables_1, d.before a0 Z = true) : Jvm.RoadKit.slotOf Z "com/example/epochwise/epochwise/bench/Transaction" "phase" "Lcom/example/epochwise/epochwise/bench/Transaction$Phase;" ≠ Jvm.RoadKit.slotOf Z "com/example/epochwise/epochwise/bench/Transaction" "keys" "[I" := slot_ne (Or.inr (hw _ (List.mem_of_getElem? (i := 16) rfl))) (Or.inr (hw _ (List.mem_of_getElem? (i := 34) rfl))) (by decide +kernel) (t := (.object "com/example/epochwise/epochwise/bench/Transaction$Phase")) (t' := (.array .int)) (by decide +kernel) (by decide +kernel)
theorem own_sn_16_36 {Z : State} {a0 : Array Value} (hw : ∀ d ∈ tables_1, d.before a0 Z = true) : Jvm.RoadKit.slotOf Z "com/example/epochwise/epochwise/bench/Transaction" "phase" "Lcom/example/epochwise/epochwise/bench/Transaction$Phase;" ≠ Jvm.RoadKit.slotOf Z "com/example/epochwise/epochwise/bench/Transaction" "value" "J" := slot_ne (Or.inr (hw _ (List.mem_of_getElem? (i := 16) rfl))) (Or.inr (hw _ (List.mem_of_getElem? (i := 36) rfl))) (by decide +kernel) (t := (.object "com/example/epochwise/epochwise/bench/Transaction$Phase")) (t' := .long) (by decide +kernel) (by decide +kernel)
theorem own_sn_16_38 {Z : State} {a0 : Array Value} (hw : ∀ d ∈ tables_1, d.before a0 Z = true) : Jvm.RoadKit.slotOf Z "com/example/epochwise/epochwise/bench/Transaction" "phase" "Lcom/example/epochwise/epochwise/bench/Transaction$Phase;" ≠ Jvm.RoadKit.slotOf Z "com/example/epochwise/epochwise/bench/Transaction" "values" "[J" := slot_ne (Or.inr (hw _ (List.mem_of_getElem? (i := 16) rfl))) (Or.inr (hw _ (List.mem_of_getElem? (i := 38) rfl))) (by decide +kernel) (t := (.object "com/example/epochwise/epochwise/bench/Transaction$Phase")) (t' := (.array .long)) (by decide +kernel) (by decide +kernel)
theorem own_sn_18_20 {Z : State} {a0 : Array Value} (hw : ∀ d ∈ tables_1, d.before a0 Z = true) : Jvm.RoadKit.slotOf Z "com/example/epochwise/epochwise/bench/Transaction" "type" "Lcom/example/epochwise/epochwise/bench/Transaction$Type;" ≠ Jvm.RoadKit.slotOf Z "com/example/epochwise/epochwise/bench/Transaction" "client" "I" := slot_ne (Or.inr (hw _ (List.mem_of_getElem? (i := 18) rfl))) (Or.inr (hw _ (List.mem_of_getElem? (i := 20) rfl))) (by decide +kernel) (t := (.object "com/example/epochwise/epochwise/bench/Transaction$Type")) (t' := .int) (by decide +kernel) (by decide +kernel)
theorem own_sn_18_22 {Z : State} {a0 : Array Value} (hw : ∀ d ∈ tables_1, d.before a0 Z = true) : Jvm.RoadKit.slotOf Z "com/example/epochwise/epochwise/bench/Transaction" "type" "Lcom/example/epochwise/epochwise/bench/Transaction$Type;" ≠ Jvm.RoadKit.slotOf Z "com/example/epochwise/epochwise/bench/Transaction" "arrival" "J" := slot_ne (Or.inr (hw _ (List.mem_of_getElem? (i := 18) rfl))) (Or.inr (hw _ (List.mem_of_getElem? (i := 22) rfl))) (by decide +kernel) (t := (.object "com/example/epochwise/epochwise/bench/Transaction$Type")) (t' := .long) (by decide +kernel) (by decide +kernel)
theorem own_sn_18_24 {Z : State} {a0 : Array Value} (hw : ∀ d ∈ tables_1, d.before a0 Z = true) : Jvm.RoadKit.slotOf Z "com/example/epochwise/epochwise/bench/Transaction" "type" "Lcom/example/epochwise/epochwise/bench/Transaction$Type;" ≠ Jvm.RoadKit.slotOf Z "com/example/epochwise/epochwise/bench/Transaction" "start" "J" := slot_ne (Or.inr (hw _ (List.mem_of_getElem? (i := 18) rfl))) (Or.inr (hw _ (List.mem_of_getElem? (i := 24) rfl))) (by decide +kernel) (t := (.object "com/example/epochwise/epochwise/bench/Transaction$Type")) (t' := .long) (by decide +kernel) (by decide +kernel)
theorem own_sn_18_26 {Z : State} {a0 : Array Value} (hw : ∀ d ∈ tables_1, d.before a0 Z = true) : Jvm.RoadKit.slotOf Z "com/example/epochwise/epochwise/bench/Transaction" "type" "Lcom/example/epochwise/epochwise/bench/Transaction$Type;" ≠ Jvm.RoadKit.slotOf Z "com/example/epochwise/epochwise/bench/Transaction" "end" "J" := slot_ne (Or.inr (hw _ (List.mem_of_getElem? (i := 18) rfl))) (Or.inr (hw _ (List.mem_of_getElem? (i := 26) rfl))) (by decide +kernel) (t := (.object "com/example/epochwise/epochwise/bench/Transaction$Type")) (t' := .long) (by decide +kernel) (by decide +kernel)
theorem own_sn_18_28 {Z : State} {a0 : Array Value} (hw : ∀ d ∈ tables_1, d.before a0 Z = true) : Jvm.RoadKit.slotOf Z "com/example/epochwise/epochwise/bench/Transaction" "type" "Lcom/example/epochwise/epochwise/bench/Transaction$Type;" ≠ Jvm.RoadKit.slotOf Z "com/example/epochwise/epochwise/bench/Transaction" "status" "Lcom/example/epochwise/epochwise/bench/Transaction$Status;" := slot_ne (Or.inr (hw _ (List.mem_of_getElem? (i := 18) rfl))) (Or.inr (hw _ (List.mem_of_getElem? (i := 28) rfl))) (by decide +kernel) (t := (.object "com/example/epochwise/epochwise/bench/Transaction$Type")) (t' := (.object "com/example/epochwise/epochwise/bench/Transaction$Status")) (by decide +kernel) (by decide +kernel)
theorem own_sn_18_30 {Z : State} {a0 : Array Value} (hw : ∀ d ∈ tables_1, d.before a0 Z = true) : Jvm.RoadKit.slotOf Z "com/example/epochwise/epochwise/bench/Transaction" "type" "Lcom/example/epochwise/epochwise/bench/Transaction$Type;" ≠ Jvm.RoadKit.slotOf Z "com/example/epochwise/epochwise/bench/Transaction" "timestamp" "J" := slot_ne (Or.inr (hw _ (List.mem_of_getElem? (i := 18) rfl))) (Or.inr (hw _ (List.mem_of_getElem? (i := 30) rfl))) (by decide +kernel) (t := (.object "com/example/epochwise/epochwise/bench/Transaction$Type")) (t' := .long) (by decide +kernel) (by decide +kernel)
theorem own_sn_18_32 {Z : State} {a0 : Array Value} (hw : ∀ d ∈ tables_1, d.before a0 Z = true) : Jvm.RoadKit.slotOf Z "com/example/epochwise/epochwise/bench/Transaction" "type" "Lcom/example/epochwise/epochwise/bench/Transaction$Type;" ≠ Jvm.RoadKit.slotOf Z "com/example/epochwise/epochwise/bench/Transaction" "rounds" "I" := slot_ne (Or.inr (hw _ (List.mem_of_getElem? (i := 18) rfl))) (Or.inr (hw _ (List.mem_of_getElem? (i := 32) rfl))) (by decide +kernel) (t := (.object "com/example/epochwise/epochwise/bench/Transaction$Type")) (t' := .int) (by decide +kernel) (by decide +kernel)
theorem own_sn_18_34 {Z : State} {a0 : Array Value} (hw : ∀ d ∈ tables_1, d.before a0 Z = true) : Jvm.RoadKit.slotOf Z "com/example/epochwise/epochwise/bench/Transaction" "type" "Lcom/example/epochwise/epochwise/bench/Transaction$Type;" ≠ Jvm.RoadKit.slotOf Z "com/example/epochwise/epochwise/bench/Transaction" "keys" "[I" := slot_ne (Or.inr (hw _ (List.mem_of_getElem? (i := 18) rfl))) (Or.inr (hw _ (List.mem_of_getElem? (i := 34) rfl))) (by decide +kernel) (t := (.object "com/example/epochwise/epochwise/bench/Transaction$Type")) (t' := (.array .int)) (by decide +kernel) (by decide +kernel)
theorem own_sn_18_36 {Z : State} {a0 : Array Value} (hw : ∀ d ∈ tables_1, d.before a0 Z = true) : Jvm.RoadKit.slotOf Z "com/example/epochwise/epochwise/bench/Transaction" "type" "Lcom/example/epochwise/epochwise/bench/Transaction$Type;" ≠ Jvm.RoadKit.slotOf Z "com/example/epochwise/epochwise/bench/Transaction" "value" "J" := slot_ne (Or.inr (hw _ (List.mem_of_getElem? (i := 18) rfl))) (Or.inr (hw _ (List.mem_of_getElem? (i := 36) rfl))) (by decide +kernel) (t := (.object "com/example/epochwise/epochwise/bench/Transaction$Type")) (t' := .long) (by decide +kernel) (by decide +kernel)
theorem own_sn_18_38 {Z : State} {a0 : Array Value} (hw : ∀ d ∈ tables_1, d.before a0 Z = true) : Jvm.RoadKit.slotOf Z "com/example/epochwise/epochwise/bench/Transaction" "type" "Lcom/example/epochwise/epochwise/bench/Transaction$Type;" ≠ Jvm.RoadKit.slotOf Z "com/example/epochwise/epochwise/bench/Transaction" "values" "[J" := slot_ne (Or.inr (hw _ (List.mem_of_getElem? (i := 18) rfl))) (Or.inr (hw _ (List.mem_of_getElem? (i := 38) rfl))) (by decide +kernel) (t := (.object "com/example/epochwise/epochwise/bench/Transaction$Type")) (t' := (.array .long)) (by decide +kernel) (by decide +kernel)
theorem own_sn_20_22 {Z : State} {a0 : Array Value} (hw : ∀ d ∈ tables_1, d.before a0 Z = true) : Jvm.RoadKit.slotOf Z "com/example/epochwise/epochwise/bench/Transaction" "client" "I" ≠ Jvm.RoadKit.slotOf Z "com/example/epochwise/epochwise/bench/Transaction" "arrival" "J" := slot_ne (Or.inr (hw _ (List.mem_of_getElem? (i := 20) rfl))) (Or.inr (hw _ (List.mem_of_getElem? (i := 22) rfl))) (by decide +kernel) (t := .int) (t' := .long) (by decide +kernel) (by decide +kernel)
theorem own_sn_20_24 {Z : State} {a0 : Array Value} (hw : ∀ d ∈ tables_1, d.before a0 Z = true) : Jvm.RoadKit.slotOf Z "com/example/epochwise/epochwise/bench/Transaction" "client" "I" ≠ Jvm.RoadKit.slotOf Z "com/example/epochwise/epochwise/bench/Transaction" "start" "J" := slot_ne (Or.inr (hw _ (List.mem_of_getElem? (i := 20) rfl))) (Or.inr (hw _ (List.mem_of_getElem? (i := 24) rfl))) (by decide +kernel) (t := .int) (t' := .long) (by decide +kernel) (by decide +kernel)
theorem own_sn_20_26 {Z : State} {a0 : Array Value} (hw : ∀ d ∈ tables_1, d.before a0 Z = true) : Jvm.RoadKit.slotOf Z "com/example/epochwise/epochwise/bench/Transaction" "client" "I" ≠ Jvm.RoadKit.slotOf Z "com/example/epochwise/epochwise/bench/Transaction" "end" "J" := slot_ne (Or.inr (hw _ (List.mem_of_getElem? (i := 20) rfl))) (Or.inr (hw _ (List.mem_of_getElem? (i := 26) rfl))) (by decide +kernel) (t := .int) (t' := .long) (by decide +kernel) (by decide +kernel)
theorem own_sn_20_28 {Z : State} {a0 : Array Value} (hw : ∀ d ∈ tables_1, d.before a0 Z = true) : Jvm.RoadKit.slotOf Z "com/example/epochwise/epochwise/bench/Transaction" "client" "I" ≠ Jvm.RoadKit.slotOf Z "com/example/epochwise/epochwise/bench/Transaction" "status" "Lcom/example/epochwise/epochwise/bench/Transaction$Status;" := slot_ne (Or.inr (hw _ (List.mem_of_getElem? (i := 20) rfl))) (Or.inr (hw _ (List.mem_of_getElem? (i := 28) rfl))) (by decide +kernel) (t := .int) (t' := (.object "com/example/epochwise/epochwise/bench/Transaction$Status")) (by decide +kernel) (by decide +kernel)
theorem own_sn_20_30 {Z : State} {a0 : Array Value} (hw : ∀ d ∈ tables_1, d.before a0 Z = true) : Jvm.RoadKit.slotOf Z "com/example/epochwise/epochwise/bench/Transaction" "client" "I" ≠ Jvm.RoadKit.slotOf Z "com/example/epochwise/epochwise/bench/Transaction" "timestamp" "J" := slot_ne (Or.inr (hw _ (List.mem_of_getElem? (i := 20) rfl))) (Or.inr (hw _ (List.mem_of_getElem? (i := 30) rfl))) (by decide +kernel) (t := .int) (t' := .long) (by decide +kernel) (by decide +kernel)
theorem own_sn_20_32 {Z : State} {a0 : Array Value} (hw : ∀ d ∈ tables_1, d.before a0 Z = true) : Jvm.RoadKit.slotOf Z "com/example/epochwise/epochwise/bench/Transaction" "client" "I" ≠ Jvm.RoadKit.slotOf Z "com/example/epochwise/epochwise/bench/Transaction" "rounds" "I" := slot_ne (Or.inr (hw _ (List.mem_of_getElem? (i := 20) rfl))) (Or.inr (hw _ (List.mem_of_getElem? (i := 32) rfl))) (by decide +kernel) (t := .int) (t' := .int) (by decide +kernel) (by decide +kernel)
theorem own_sn_20_34 {Z : State} {a0 : Array Value} (hw : ∀ d ∈ tables_1, d.before a0 Z = true) : Jvm.RoadKit.slotOf Z "com/example/epochwise/epochwise/bench/Transaction" "client" "I" ≠ Jvm.RoadKit.slotOf Z "com/example/epochwise/epochwise/bench/Transaction" "keys" "[I" := slot_ne (Or.inr (hw _ (List.mem_of_getElem? (i := 20) rfl))) (Or.inr (hw _ (List.mem_of_getElem? (i := 34) rfl))) (by decide +kernel) (t := .int) (t' := (.array .int)) (by decide +kernel) (by decide +kernel)
theorem own_sn_20_36 {Z : State} {a0 : Array Value} (hw : ∀ d ∈ tables_1, d.before a0 Z = true) : Jvm.RoadKit.slotOf Z "com/example/epochwise/epochwise/bench/Transaction" "client" "I" ≠ Jvm.RoadKit.slotOf Z "com/example/epochwise/epochwise/bench/Transaction" "value" "J" := slot_ne (Or.inr (hw _ (List.mem_of_getElem? (i := 20) rfl))) (Or.inr (hw _ (List.mem_of_getElem? (i := 36) rfl))) (by decide +kernel) (t := .int) (t' := .long) (by decide +kernel) (by decide +kernel)
theorem own_sn_20_38 {Z : State} {a0 : Array Value} (hw : ∀ d ∈ tables_1, d.before a0 Z = true) : Jvm.RoadKit.slotOf Z "com/example/epochwise/epochwise/bench/Transaction" "client" "I" ≠ Jvm.RoadKit.slotOf Z "com/example/epochwise/epochwise/bench/Transaction" "values" "[J" := slot_ne (Or.inr (hw _ (List.mem_of_getElem? (i := 20) rfl))) (Or.inr (hw _ (List.mem_of_getElem? (i := 38) rfl))) (by decide +kernel) (t := .int) (t' := (.array .long)) (by decide +kernel) (by decide +kernel)
theorem own_sn_22_24 {Z : State} {a0 : Array Value} (hw : ∀ d ∈ tables_1, d.before a0 Z = true) : Jvm.RoadKit.slotOf Z "com/example/epochwise/epochwise/bench/Transaction" "arrival" "J" ≠ Jvm.RoadKit.slotOf Z "com/example/epochwise/epochwise/bench/Transaction" "start" "J" := slot_ne (Or.inr (hw _ (List.mem_of_getElem? (i := 22) rfl))) (Or.inr (hw _ (List.mem_of_getElem? (i := 24) rfl))) (by decide +kernel) (t := .long) (t' := .long) (by decide +kernel) (by decide +kernel)
theorem own_sn_22_26 {Z : State} {a0 : Array Value} (hw : ∀ d ∈ tables_1, d.before a0 Z = true) : Jvm.RoadKit.slotOf Z "com/example/epochwise/epochwise/bench/Transaction" "arrival" "J" ≠ Jvm.RoadKit.slotOf Z "com/example/epochwise/epochwise/bench/Transaction" "end" "J" := slot_ne (Or.inr (hw _ (List.mem_of_getElem? (i := 22) rfl))) (Or.inr (hw _ (List.mem_of_getElem? (i := 26) rfl))) (by decide +kernel) (t := .long) (t' := .long) (by decide +kernel) (by decide +kernel)
theorem own_sn_22_28 {Z : State} {a0 : Array Value} (hw : ∀ d ∈ tables_1, d.before a0 Z = true) : Jvm.RoadKit.slotOf Z "com/example/epochwise/epochwise/bench/Transaction" "arrival" "J" ≠ Jvm.RoadKit.slotOf Z "com/example/epochwise/epochwise/bench/Transaction" "status" "Lcom/example/epochwise/epochwise/bench/Transaction$Status;" := slot_ne (Or.inr (hw _ (List.mem_of_getElem? (i := 22) rfl))) (Or.inr (hw _ (List.mem_of_getElem? (i := 28) rfl))) (by decide +kernel) (t := .long) (t' := (.object "com/example/epochwise/epochwise/bench/Transaction$Status")) (by decide +kernel) (by decide +kernel)
theorem own_sn_22_30 {Z : State} {a0 : Array Value} (hw : ∀ d ∈ tables_1, d.before a0 Z = true) : Jvm.RoadKit.slotOf Z "com/example/epochwise/epochwise/bench/Transaction" "arrival" "J" ≠ Jvm.RoadKit.slotOf Z "com/example/epochwise/epochwise/bench/Transaction" "timestamp" "J" := slot_ne (Or.inr (hw _ (List.mem_of_getElem? (i := 22) rfl))) (Or.inr (hw _ (List.mem_of_getElem? (i := 30) rfl))) (by decide +kernel) (t := .long) (t' := .long) (by decide +kernel) (by decide +kernel)
theorem own_sn_22_32 {Z : State} {a0 : Array Value} (hw : ∀ d ∈ tables_1, d.before a0 Z = true) : Jvm.RoadKit.slotOf Z "com/example/epochwise/epochwise/bench/Transaction" "arrival" "J" ≠ Jvm.RoadKit.slotOf Z "com/example/epochwise/epochwise/bench/Transaction" "rounds" "I" := slot_ne (Or.inr (hw _ (List.mem_of_getElem? (i := 22) rfl))) (Or.inr (hw _ (List.mem_of_getElem? (i := 32) rfl))) (by decide +kernel) (t := .long) (t' := .int) (by decide +kernel) (by decide +kernel)
theorem own_sn_22_34 {Z : State} {a0 : Array Value} (hw : ∀ d ∈ tables_1, d.before a0 Z = true) : Jvm.RoadKit.slotOf Z "com/example/epochwise/epochwise/bench/Transaction" "arrival" "J" ≠ Jvm.RoadKit.slotOf Z "com/example/epochwise/epochwise/bench/Transaction" "keys" "[I" := slot_ne (Or.inr (hw _ (List.mem_of_getElem? (i := 22) rfl))) (Or.inr (hw _ (List.mem_of_getElem? (i := 34) rfl))) (by decide +kernel) (t := .long) (t' := (.array .int)) (by decide +kernel) (by decide +kernel)
theorem own_sn_22_36 {Z : State} {a0 : Array Value} (hw : ∀ d ∈ tables_1, d.before a0 Z = true) : Jvm.RoadKit.slotOf Z "com/example/epochwise/epochwise/bench/Transaction" "arrival" "J" ≠ Jvm.RoadKit.slotOf Z "com/example/epochwise/epochwise/bench/Transaction" "value" "J" := slot_ne (Or.inr (hw _ (List.mem_of_getElem? (i := 22) rfl))) (Or.inr (hw _ (List.mem_of_getElem? (i := 36) rfl))) (by decide +kernel) (t := .long) (t' := .long) (by decide +kernel) (by decide +kernel)
theorem own_sn_22_38 {Z : State} {a0 : Array Value} (hw : ∀ d ∈ tables_1, d.before a0 Z = true) : Jvm.RoadKit.slotOf Z "com/example/epochwise/epochwise/bench/Transaction" "arrival" "J" ≠ Jvm.RoadKit.slotOf Z "com/example/epochwise/epochwise/bench/Transaction" "values" "[J" := slot_ne (Or.inr (hw _ (List.mem_of_getElem? (i := 22) rfl))) (Or.inr (hw _ (List.mem_of_getElem? (i := 38) rfl))) (by decide +kernel) (t := .long) (t' := (.array .long)) (by decide +kernel) (by decide +kernel)
theorem own_sn_24_26 {Z : State} {a0 : Array Value} (hw : ∀ d ∈ tables_1, d.before a0 Z = true) : Jvm.RoadKit.slotOf Z "com/example/epochwise/epochwise/bench/Transaction" "start" "J" ≠ Jvm.RoadKit.slotOf Z "com/example/epochwise/epochwise/bench/Transaction" "end" "J" := slot_ne (Or.inr (hw _ (List.mem_of_getElem? (i := 24) rfl))) (Or.inr (hw _ (List.mem_of_getElem? (i := 26) rfl))) (by decide +kernel) (t := .long) (t' := .long) (by decide +kernel) (by decide +kernel)
theorem own_sn_24_28 {Z : State} {a0 : Array Value} (hw : ∀ d ∈ tables_1, d.before a0 Z = true) : Jvm.RoadKit.slotOf Z "com/example/epochwise/epochwise/bench/Transaction" "start" "J" ≠ Jvm.RoadKit.slotOf Z "com/example/epochwise/epochwise/bench/Transaction" "status" "Lcom/example/epochwise/epochwise/bench/Transaction$Status;" := slot_ne (Or.inr (hw _ (List.mem_of_getElem? (i := 24) rfl))) (Or.inr (hw _ (List.mem_of_getElem? (i := 28) rfl))) (by decide +kernel) (t := .long) (t' := (.object "com/example/epochwise/epochwise/bench/Transaction$Status")) (by decide +kernel) (by decide +kernel)
theorem own_sn_24_30 {Z : State} {a0 : Array Value} (hw : ∀ d ∈ tables_1, d.before a0 Z = true) : Jvm.RoadKit.slotOf Z "com/example/epochwise/epochwise/bench/Transaction" "start" "J" ≠ Jvm.RoadKit.slotOf Z "com/example/epochwise/epochwise/bench/Transaction" "timestamp" "J" := slot_ne (Or.inr (hw _ (List.mem_of_getElem? (i := 24) rfl))) (Or.inr (hw _ (List.mem_of_getElem? (i := 30) rfl))) (by decide +kernel) (t := .long) (t' := .long) (by decide +kernel) (by decide +kernel)
theorem own_sn_24_32 {Z : State} {a0 : Array Value} (hw : ∀ d ∈ tables_1, d.before a0 Z = true) : Jvm.RoadKit.slotOf Z "com/example/epochwise/epochwise/bench/Transaction" "start" "J" ≠ Jvm.RoadKit.slotOf Z "com/example/epochwise/epochwise/bench/Transaction" "rounds" "I" := slot_ne (Or.inr (hw _ (List.mem_of_getElem? (i := 24) rfl))) (Or.inr (hw _ (List.mem_of_getElem? (i := 32) rfl))) (by decide +kernel) (t := .long) (t' := .int) (by decide +kernel) (by decide +kernel)
theorem own_sn_24_34 {Z : State} {a0 : Array Value} (hw : ∀ d ∈ tables_1, d.before a0 Z = true) : Jvm.RoadKit.slotOf Z "com/example/epochwise/epochwise/bench/Transaction" "start" "J" ≠ Jvm.RoadKit.slotOf Z "com/example/epochwise/epochwise/bench/Transaction" "keys" "[I" := slot_ne (Or.inr (hw _ (List.mem_of_getElem? (i := 24) rfl))) (Or.inr (hw _ (List.mem_of_getElem? (i := 34) rfl))) (by decide +kernel) (t := .long) (t' := (.array .int)) (by decide +kernel) (by decide +kernel)
theorem own_sn_24_36 {Z : State} {a0 : Array Value} (hw : ∀ d ∈ tables_1, d.before a0 Z = true) : Jvm.RoadKit.slotOf Z "com/example/epochwise/epochwise/bench/Transaction" "start" "J" ≠ Jvm.RoadKit.slotOf Z "com/example/epochwise/epochwise/bench/Transaction" "value" "J" := slot_ne (Or.inr (hw _ (List.mem_of_getElem? (i := 24) rfl))) (Or.inr (hw _ (List.mem_of_getElem? (i := 36) rfl))) (by decide +kernel) (t := .long) (t' := .long) (by decide +kernel) (by decide +kernel)
theorem own_sn_24_38 {Z : State} {a0 : Array Value} (hw : ∀ d ∈ tables_1, d.before a0 Z = true) : Jvm.RoadKit.slotOf Z "com/example/epochwise/epochwise/bench/Transaction" "start" "J" ≠ Jvm.RoadKit.slotOf Z "com/example/epochwise/epochwise/bench/Transaction" "values" "[J" := slot_ne (Or.inr (hw _ (List.mem_of_getElem? (i := 24) rfl))) (Or.inr (hw _ (List.mem_of_getElem? (i := 38) rfl))) (by decide +kernel) (t := .long) (t' := (.array .long)) (by decide +kernel) (by decide +kernel)
theorem own_sn_26_28 {Z : State} {a0 : Array Value} (hw : ∀ d ∈ tables_1, d.before a0 Z = true) : Jvm.RoadKit.slotOf Z "com/example/epochwise/epochwise/bench/Transaction" "end" "J" ≠ Jvm.RoadKit.slotOf Z "com/example/epochwise/epochwise/bench/Transaction" "status" "Lcom/example/epochwise/epochwise/bench/Transaction$Status;" := slot_ne (Or.inr (hw _ (List.mem_of_getElem? (i := 26) rfl))) (Or.inr (hw _ (List.mem_of_getElem? (i := 28) rfl))) (by decide +kernel) (t := .long) (t' := (.object "com/example/epochwise/epochwise/bench/Transaction$Status")) (by decide +kernel) (by decide +kernel)
theorem own_sn_26_30 {Z : State} {a0 : Array Value} (hw : ∀ d ∈ tables_1, d.before a0 Z = true) : Jvm.RoadKit.slotOf Z "com/example/epochwise/epochwise/bench/Transaction" "end" "J" ≠ Jvm.RoadKit.slotOf Z "com/example/epochwise/epochwise/bench/Transaction" "timestamp" "J" := slot_ne (Or.inr (hw _ (List.mem_of_getElem? (i := 26) rfl))) (Or.inr (hw _ (List.mem_of_getElem? (i := 30) rfl))) (by decide +kernel) (t := .long) (t' := .long) (by decide +kernel) (by decide +kernel)
theorem own_sn_26_32 {Z : State} {a0 : Array Value} (hw : ∀ d ∈ tables_1, d.before a0 Z = true) : Jvm.RoadKit.slotOf Z "com/example/epochwise/epochwise/bench/Transaction" "end" "J" ≠ Jvm.RoadKit.slotOf Z "com/example/epochwise/epochwise/bench/Transaction" "rounds" "I" := slot_ne (Or.inr (hw _ (List.mem_of_getElem? (i := 26) rfl))) (Or.inr (hw _ (List.mem_of_getElem? (i := 32) rfl))) (by decide +kernel) (t := .long) (t' := .int) (by decide +kernel) (by decide +kernel)
theorem own_sn_26_34 {Z : State} {a0 : Array Value} (hw : ∀ d ∈ tables_1, d.before a0 Z = true) : Jvm.RoadKit.slotOf Z "com/example/epochwise/epochwise/bench/Transaction" "end" "J" ≠ Jvm.RoadKit.slotOf Z "com/example/epochwise/epochwise/bench/Transaction" "keys" "[I" := slot_ne (Or.inr (hw _ (List.mem_of_getElem? (i := 26) rfl))) (Or.inr (hw _ (List.mem_of_getElem? (i := 34) rfl))) (by decide +kernel) (t := .long) (t' := (.array .int)) (by decide +kernel) (by decide +kernel)
theorem own_sn_26_36 {Z : State} {a0 : Array Value} (hw : ∀ d ∈ tables_1, d.before a0 Z = true) : Jvm.RoadKit.slotOf Z "com/example/epochwise/epochwise/bench/Transaction" "end" "J" ≠ Jvm.RoadKit.slotOf Z "com/example/epochwise/epochwise/bench/Transaction" "value" "J" := slot_ne (Or.inr (hw _ (List.mem_of_getElem? (i := 26) rfl))) (Or.inr (hw _ (List.mem_of_getElem? (i := 36) rfl))) (by decide +kernel) (t := .long) (t' := .long) (by decide +kernel) (by decide +kernel)
theorem own_sn_26_38 {Z : State} {a0 : Array Value} (hw : ∀ d ∈ tables_1, d.before a0 Z = true) : Jvm.RoadKit.slotOf Z "com/example/epochwise/epochwise/bench/Transaction" "end" "J" ≠ Jvm.RoadKit.slotOf Z "com/example/epochwise/epochwise/bench/Transaction" "values" "[J" := slot_ne (Or.inr (hw _ (List.mem_of_getElem? (i := 26) rfl))) (Or.inr (hw _ (List.mem_of_getElem? (i := 38) rfl))) (by decide +kernel) (t := .long) (t' := (.array .long)) (by decide +kernel) (by decide +kernel)
theorem own_sn_28_30 {Z : State} {a0 : Array Value} (hw : ∀ d ∈ tables_1, d.before a0 Z = true) : Jvm.RoadKit.slotOf Z "com/example/epochwise/epochwise/bench/Transaction" "status" "Lcom/example/epochwise/epochwise/bench/Transaction$Status;" ≠ Jvm.RoadKit.slotOf Z "com/example/epochwise/epochwise/bench/Transaction" "timestamp" "J" := slot_ne (Or.inr (hw _ (List.mem_of_getElem? (i := 28) rfl))) (Or.inr (hw _ (List.mem_of_getElem? (i := 30) rfl))) (by decide +kernel) (t := (.object "com/example/epochwise/epochwise/bench/Transaction$Status")) (t' := .long) (by decide +kernel) (by decide +kernel)
theorem own_sn_28_32 {Z : State} {a0 : Array Value} (hw : ∀ d ∈ tables_1, d.before a0 Z = true) : Jvm.RoadKit.slotOf Z "com/example/epochwise/epochwise/bench/Transaction" "status" "Lcom/example/epochwise/epochwise/bench/Transaction$Status;" ≠ Jvm.RoadKit.slotOf Z "com/example/epochwise/epochwise/bench/Transaction" "rounds" "I" := slot_ne (Or.inr (hw _ (List.mem_of_getElem? (i := 28) rfl))) (Or.inr (hw _ (List.mem_of_getElem? (i := 32) rfl))) (by decide +kernel) (t := (.object "com/example/epochwise/epochwise/bench/Transaction$Status")) (t' := .int) (by decide +kernel) (by decide +kernel)
theorem own_sn_28_34 {Z : State} {a0 : Array Value} (hw : ∀ d ∈ tables_1, d.before a0 Z = true) : Jvm.RoadKit.slotOf Z "com/example/epochwise/epochwise/bench/Transaction" "status" "Lcom/example/epochwise/epochwise/bench/Transaction$Status;" ≠ Jvm.RoadKit.slotOf Z "com/example/epochwise/epochwise/bench/Transaction" "keys" "[I" := slot_ne (Or.inr (hw _ (List.mem_of_getElem? (i := 28) rfl))) (Or.inr (hw _ (List.mem_of_getElem? (i := 34) rfl))) (by decide +kernel) (t := (.object "com/example/epochwise/epochwise/bench/Transaction$Status")) (t' := (.array .int)) (by decide +kernel) (by decide +kernel)
theorem own_sn_28_36 {Z : State} {a0 : Array Value} (hw : ∀ d ∈ tables_1, d.before a0 Z = true) : Jvm.RoadKit.slotOf Z "com/example/epochwise/epochwise/bench/Transaction" "status" "Lcom/example/epochwise/epochwise/bench/Transaction$Status;" ≠ Jvm.RoadKit.slotOf Z "com/example/epochwise/epochwise/bench/Transaction" "value" "J" := slot_ne (Or.inr (hw _ (List.mem_of_getElem? (i := 28) rfl))) (Or.inr (hw _ (List.mem_of_getElem? (i := 36) rfl))) (by decide +kernel) (t := (.object "com/example/epochwise/epochwise/bench/Transaction$Status")) (t' := .long) (by decide +kernel) (by decide +kernel)
theorem own_sn_28_38 {Z : State} {a0 : Array Value} (hw : ∀ d ∈ tables_1, d.before a0 Z = true) : Jvm.RoadKit.slotOf Z "com/example/epochwise/epochwise/bench/Transaction" "status" "Lcom/example/epochwise/epochwise/bench/Transaction$Status;" ≠ Jvm.RoadKit.slotOf Z "com/example/epochwise/epochwise/bench/Transaction" "values" "[J" := slot_ne (Or.inr (hw _ (List.mem_of_getElem? (i := 28) rfl))) (Or.inr (hw _ (List.mem_of_getElem? (i := 38) rfl))) (by decide +kernel) (t := (.object "com/example/epochwise/epochwise/bench/Transaction$Status")) (t' := (.array .long)) (by decide +kernel) (by decide +kernel)
theorem own_sn_30_32 {Z : State} {a0 : Array Value} (hw : ∀ d ∈ tables_1, d.before a0 Z = true) : Jvm.RoadKit.slotOf Z "com/example/epochwise/epochwise/bench/Transaction" "timestamp" "J" ≠ Jvm.RoadKit.slotOf Z "com/example/epochwise/epochwise/bench/Transaction" "rounds" "I" := slot_ne (Or.inr (hw _ (List.mem_of_getElem? (i := 30) rfl))) (Or.inr (hw _ (List.mem_of_getElem? (i := 32) rfl))) (by decide +kernel) (t := .long) (t' := .int) (by decide +kernel) (by decide +kernel)
theorem own_sn_30_34 {Z : State} {a0 : Array Value} (hw : ∀ d ∈ tables_1, d.before a0 Z = true) : Jvm.RoadKit.slotOf Z "com/example/epochwise/epochwise/bench/Transaction" "timestamp" "J" ≠ Jvm.RoadKit.slotOf Z "com/example/epochwise/epochwise/bench/Transaction" "keys" "[I" := slot_ne (Or.inr (hw _ (List.mem_of_getElem? (i := 30) rfl))) (Or.inr (hw _ (List.mem_of_getElem? (i := 34) rfl))) (by decide +kernel) (t := .long) (t' := (.array .int)) (by decide +kernel) (by decide +kernel)
theorem own_sn_30_36 {Z : State} {a0 : Array Value} (hw : ∀ d ∈ tables_1, d.before a0 Z = true) : Jvm.RoadKit.slotOf Z "com/example/epochwise/epochwise/bench/Transaction" "timestamp" "J" ≠ Jvm.RoadKit.slotOf Z "com/example/epochwise/epochwise/bench/Transaction" "value" "J" := slot_ne (Or.inr (hw _ (List.mem_of_getElem? (i := 30) rfl))) (Or.inr (hw _ (List.mem_of_getElem? (i := 36) rfl))) (by decide +kernel) (t := .long) (t' := .long) (by decide +kernel) (by decide +kernel)
theorem own_sn_30_38 {Z : State} {a0 : Array Value} (hw : ∀ d ∈ tables_1, d.before a0 Z = true) : Jvm.RoadKit.slotOf Z "com/example/epochwise/epochwise/bench/Transaction" "timestamp" "J" ≠ Jvm.RoadKit.slotOf Z "com/example/epochwise/epochwise/bench/Transaction" "values" "[J" := slot_ne (Or.inr (hw _ (List.mem_of_getElem? (i := 30) rfl))) (Or.inr (hw _ (List.mem_of_getElem? (i := 38) rfl))) (by decide +kernel) (t := .long) (t' := (.array .long)) (by decide +kernel) (by decide +kernel)
theorem own_sn_32_34 {Z : State} {a0 : Array Value} (hw : ∀ d ∈ tables_1, d.before a0 Z = true) : Jvm.RoadKit.slotOf Z "com/example/epochwise/epochwise/bench/Transaction" "rounds" "I" ≠ Jvm.RoadKit.slotOf Z "com/example/epochwise/epochwise/bench/Transaction" "keys" "[I" := slot_ne (Or.inr (hw _ (List.mem_of_getElem? (i := 32) rfl))) (Or.inr (hw _ (List.mem_of_getElem? (i := 34) rfl))) (by decide +kernel) (t := .int) (t' := (.array .int)) (by decide +kernel) (by decide +kernel)
theorem own_sn_32_36 {Z : State} {a0 : Array Value} (hw : ∀ d ∈ tables_1, d.before a0 Z = true) : Jvm.RoadKit.slotOf Z "com/example/epochwise/epochwise/bench/Transaction" "rounds" "I" ≠ Jvm.RoadKit.slotOf Z "com/example/epochwise/epochwise/bench/Transaction" "value" "J" := slot_ne (Or.inr (hw _ (List.mem_of_getElem? (i := 32) rfl))) (Or.inr (hw _ (List.mem_of_getElem? (i := 36) rfl))) (by decide +kernel) (t := .int) (t' := .long) (by decide +kernel) (by decide +kernel)
theorem own_sn_32_38 {Z : State} {a0 : Array Value} (hw : ∀ d ∈ tables_1, d.before a0 Z = true) : Jvm.RoadKit.slotOf Z "com/example/epochwise/epochwise/bench/Transaction" "rounds" "I" ≠ Jvm.RoadKit.slotOf Z "com/example/epochwise/epochwise/bench/Transaction" "values" "[J" := slot_ne (Or.inr (hw _ (List.mem_of_getElem? (i := 32) rfl))) (Or.inr (hw _ (List.mem_of_getElem? (i := 38) rfl))) (by decide +kernel) (t := .int) (t' := (.array .long)) (by decide +kernel) (by decide +kernel)
theorem own_sn_34_36 {Z : State} {a0 : Array Value} (hw : ∀ d ∈ tables_1, d.before a0 Z = true) : Jvm.RoadKit.slotOf Z "com/example/epochwise/epochwise/bench/Transaction" "keys" "[I" ≠ Jvm.RoadKit.slotOf Z "com/example/epochwise/epochwise/bench/Transaction" "value" "J" := slot_ne (Or.inr (hw _ (List.mem_of_getElem? (i := 34) rfl))) (Or.inr (hw _ (List.mem_of_getElem? (i := 36) rfl))) (by decide +kernel) (t := (.array .int)) (t' := .long) (by decide +kernel) (by decide +kernel)
theorem own_sn_34_38 {Z : State} {a0 : Array Value} (hw : ∀ d ∈ tables_1, d.before a0 Z = true) : Jvm.RoadKit.slotOf Z "com/example/epochwise/epochwise/bench/Transaction" "keys" "[I" ≠ Jvm.RoadKit.slotOf Z "com/example/epochwise/epochwise/bench/Transaction" "values" "[J" := slot_ne (Or.inr (hw _ (List.mem_of_getElem? (i := 34) rfl))) (Or.inr (hw _ (List.mem_of_getElem? (i := 38) rfl))) (by decide +kernel) (t := (.array .int)) (t' := (.array .long)) (by decide +kernel) (by decide +kernel)
theorem own_sn_36_38 {Z : State} {a0 : Array Value} (hw : ∀ d ∈ tables_1, d.before a0 Z = true) : Jvm.RoadKit.slotOf Z "com/example/epochwise/epochwise/bench/Transaction" "value" "J" ≠ Jvm.RoadKit.slotOf Z "com/example/epochwise/epochwise/bench/Transaction" "values" "[J" := slot_ne (Or.inr (hw _ (List.mem_of_getElem? (i := 36) rfl))) (Or.inr (hw _ (List.mem_of_getElem? (i := 38) rfl))) (by decide +kernel) (t := .long) (t' := (.array .long)) (by decide +kernel) (by decide +kernel)
theorem d1_0 : decode prog_6_method_2_code 0 = .ok (.aload_n 0, 1) := by decide +kernel
theorem d1_1 : decode prog_6_method_2_code 1 = .ok (.invokespecial 1, 3) := by decide +kernel
theorem d1_4 : decode prog_6_method_2_code 4 = .ok (.aload_n 0, 1) := by decide +kernel
theorem d1_5 : decode prog_6_method_2_code 5 = .ok (.aload_n 1, 1) := by decide +kernel
theorem d1_6 : decode prog_6_method_2_code 6 = .ok (.putfield 7, 3) := by decide +kernel
theorem d1_9 : decode prog_6_method_2_code 9 = .ok (.aload_n 0, 1) := by decide +kernel
theorem d1_10 : decode prog_6_method_2_code 10 = .ok (.aload_n 2, 1) := by decide +kernel
theorem d1_11 : decode prog_6_method_2_code 11 = .ok (.putfield 13, 3) := by decide +kernel
theorem d1_14 : decode prog_6_method_2_code 14 = .ok (.aload_n 0, 1) := by decide +kernel
theorem d1_15 : decode prog_6_method_2_code 15 = .ok (.iload_n 3, 1) := by decide +kernel
theorem d1_16 : decode prog_6_method_2_code 16 = .ok (.putfield 17, 3) := by decide +kernel
theorem d1_19 : decode prog_6_method_2_code 19 = .ok (.aload_n 0, 1) := by decide +kernel
theorem d1_20 : decode prog_6_method_2_code 20 = .ok (.lload 4, 2) := by decide +kernel
theorem d1_22 : decode prog_6_method_2_code 22 = .ok (.putfield 21, 3) := by decide +kernel
theorem d1_25 : decode prog_6_method_2_code 25 = .ok (.aload_n 0, 1) := by decide +kernel
theorem d1_26 : decode prog_6_method_2_code 26 = .ok (.lload 6, 2) := by decide +kernel
theorem d1_28 : decode prog_6_method_2_code 28 = .ok (.putfield 25, 3) := by decide +kernel
theorem d1_31 : decode prog_6_method_2_code 31 = .ok (.aload_n 0, 1) := by decide +kernel
theorem d1_32 : decode prog_6_method_2_code 32 = .ok (.lload 8, 2) := by decide +kernel
theorem d1_34 : decode prog_6_method_2_code 34 = .ok (.putfield 28, 3) := by decide +kernel
theorem d1_37 : decode prog_6_method_2_code 37 = .ok (.aload_n 0, 1) := by decide +kernel
theorem d1_38 : decode prog_6_method_2_code 38 = .ok (.aload 10, 2) := by decide +kernel
theorem d1_40 : decode prog_6_method_2_code 40 = .ok (.putfield 31, 3) := by decide +kernel
theorem d1_43 : decode prog_6_method_2_code 43 = .ok (.aload_n 0, 1) := by decide +kernel
theorem d1_44 : decode prog_6_method_2_code 44 = .ok (.lload 11, 2) := by decide +kernel
theorem d1_46 : decode prog_6_method_2_code 46 = .ok (.putfield 35, 3) := by decide +kernel
theorem d1_49 : decode prog_6_method_2_code 49 = .ok (.aload_n 0, 1) := by decide +kernel
theorem d1_50 : decode prog_6_method_2_code 50 = .ok (.iload 13, 2) := by decide +kernel
theorem d1_52 : decode prog_6_method_2_code 52 = .ok (.putfield 38, 3) := by decide +kernel
theorem d1_55 : decode prog_6_method_2_code 55 = .ok (.aload_n 0, 1) := by decide +kernel
theorem d1_56 : decode prog_6_method_2_code 56 = .ok (.aload 14, 2) := by decide +kernel
theorem d1_58 : decode prog_6_method_2_code 58 = .ok (.putfield 41, 3) := by decide +kernel
theorem d1_61 : decode prog_6_method_2_code 61 = .ok (.aload_n 0, 1) := by decide +kernel
theorem d1_62 : decode prog_6_method_2_code 62 = .ok (.lload 15, 2) := by decide +kernel
theorem d1_64 : decode prog_6_method_2_code 64 = .ok (.putfield 45, 3) := by decide +kernel
theorem d1_67 : decode prog_6_method_2_code 67 = .ok (.aload_n 0, 1) := by decide +kernel
theorem d1_68 : decode prog_6_method_2_code 68 = .ok (.aload 17, 2) := by decide +kernel
theorem d1_70 : decode prog_6_method_2_code 70 = .ok (.putfield 48, 3) := by decide +kernel
theorem d1_73 : decode prog_6_method_2_code 73 = .ok (.return_, 1) := by decide +kernel
theorem pn_com_example_epochwise_epochwise_bench_Transaction : plainName "com/example/epochwise/epochwise/bench/Transaction" = true := by first | (simp [plainName, overriddenIn]; done) | decide +kernel
theorem ef_1 (m : MethodId) (a1_0 : Addr) (p1_3 : Int32) (q1_4 : Int64) (q1_5 : Int64) (q1_6 : Int64) (q1_8 : Int64) (p1_9 : Int32) (a1_10 : Addr) (q1_11 : Int64) : entryFrame m #[(.ref a1_0), .null, .null, (.int p1_3), (.long q1_4), (.long q1_5), (.long q1_6), .null, (.long q1_8), (.int p1_9), (.ref a1_10), (.long q1_11), .null] 18 = mkF m 0 #[.val (.ref a1_0), .val .null, .val .null, .val (.int p1_3), .val (.long q1_4), .second, .val (.long q1_5), .second, .val (.long q1_6), .second, .val .null, .val (.long q1_8), .second, .val (.int p1_9), .val (.ref a1_10), .val (.long q1_11), .second, .val .null] [] := by first | (simp [entryFrame, mkF, argsToLocals, Value.category]; done) | rfl
def Q1 (Z : State) (a1_0 : Addr) (p1_3 : Int32) (q1_4 : Int64) (q1_5 : Int64) (q1_6 : Int64) (q1_8 : Int64) (p1_9 : Int32) (a1_10 : Addr) (q1_11 : Int64) (u1_client : Int32) (v1_arrival : Int64) (v1_start : Int64) (v1_end : Int64) (v1_timestamp : Int64) (u1_rounds : Int32) (v1_value : Int64) (h0 : Heap) (n0 : Nat) (v : Option Value) (h : Heap) (L : List Loc) : Prop := v = none ∧ Fr n0 L ∧ Keep h0 h [a1_0] ∧ Exa Z h a1_0 "com/example/epochwise/epochwise/bench/Transaction" ∧ Fld Z h a1_0 "com/example/epochwise/epochwise/bench/Transaction" "phase" "Lcom/example/epochwise/epochwise/bench/Transaction$Phase;" .null ∧ Fld Z h a1_0 "com/example/epochwise/epochwise/bench/Transaction" "type" "Lcom/example/epochwise/epochwise/bench/Transaction$Type;" .null ∧ Fld Z h a1_0 "com/example/epochwise/epochwise/bench/Transaction" "client" "I" (.int p1_3) ∧ Fld Z h a1_0 "com/example/epochwise/epochwise/bench/Transaction" "arrival" "J" (.long q1_4) ∧ Fld Z h a1_0 "com/example/epochwise/epochwise/bench/Transaction" "start" "J" (.long q1_5) ∧ Fld Z h a1_0 "com/example/epochwise/epochwise/bench/Transaction" "end" "J" (.long q1_6) ∧ Fld Z h a1_0 "com/example/epochwise/epochwise/bench/Transaction" "status" "Lcom/example/epochwise/epochwise/bench/Transaction$Status;" .null ∧ Fld Z h a1_0 "com/example/epochwise/epochwise/bench/Transaction" "timestamp" "J" (.long q1_8) ∧ Fld Z h a1_0 "com/example/epochwise/epochwise/bench/Transaction" "rounds" "I" (.int p1_9) ∧ Fld Z h a1_0 "com/example/epochwise/epochwise/bench/Transaction" "keys" "[I" (.ref a1_10) ∧ Fld Z h a1_0 "com/example/epochwise/epochwise/bench/Transaction" "value" "J" (.long q1_11) ∧ Fld Z h a1_0 "com/example/epochwise/epochwise/bench/Transaction" "values" "[J" .null
set_option maxRecDepth 65536 in
set_option maxHeartbeats 40000000 in
theorem rm1 (l : Launch) (Z : State) (a0 : Array Value) (hw : ∀ d ∈ tables_1, d.before a0 Z = true) (ws : List Jvm.Cond) (a1_0 : Addr) (p1_3 : Int32) (q1_4 : Int64) (q1_5 : Int64) (q1_6 : Int64) (q1_8 : Int64) (p1_9 : Int32) (a1_10 : Addr) (q1_11 : Int64) (u1_client : Int32) (v1_arrival : Int64) (v1_start : Int64) (v1_end : Int64) (v1_timestamp : Int64) (u1_rounds : Int32) (v1_value : Int64) (h0 : Heap) (n0 : Nat) (Z0 : n0 ≤ h0.size) (F_phase_a1_0 : Fld Z h0 a1_0 "com/example/epochwise/epochwise/bench/Transaction" "phase" "Lcom/example/epochwise/epochwise/bench/Transaction$Phase;" .null) (F_type_a1_0 : Fld Z h0 a1_0 "com/example/epochwise/epochwise/bench/Transaction" "type" "Lcom/example/epochwise/epochwise/bench/Transaction$Type;" .null) (F_client_a1_0 : Fld Z h0 a1_0 "com/example/epochwise/epochwise/bench/Transaction" "client" "I" (.int u1_client)) (F_arrival_a1_0 : Fld Z h0 a1_0 "com/example/epochwise/epochwise/bench/Transaction" "arrival" "J" (.long v1_arrival)) (F_start_a1_0 : Fld Z h0 a1_0 "com/example/epochwise/epochwise/bench/Transaction" "start" "J" (.long v1_start)) (F_end_a1_0 : Fld Z h0 a1_0 "com/example/epochwise/epochwise/bench/Transaction" "end" "J" (.long v1_end)) (F_status_a1_0 : Fld Z h0 a1_0 "com/example/epochwise/epochwise/bench/Transaction" "status" "Lcom/example/epochwise/epochwise/bench/Transaction$Status;" .null) (F_timestamp_a1_0 : Fld Z h0 a1_0 "com/example/epochwise/epochwise/bench/Transaction" "timestamp" "J" (.long v1_timestamp)) (F_rounds_a1_0 : Fld Z h0 a1_0 "com/example/epochwise/epochwise/bench/Transaction" "rounds" "I" (.int u1_rounds)) (F_keys_a1_0 : Fld Z h0 a1_0 "com/example/epochwise/epochwise/bench/Transaction" "keys" "[I" .null) (F_value_a1_0 : Fld Z h0 a1_0 "com/example/epochwise/epochwise/bench/Transaction" "value" "J" (.long v1_value)) (F_values_a1_0 : Fld Z h0 a1_0 "com/example/epochwise/epochwise/bench/Transaction" "values" "[J" .null) (E_a1_0 : Exa Z h0 a1_0 "com/example/epochwise/epochwise/bench/Transaction") (g_a1_0 : n0 ≤ a1_0) :
    MetFree l (⟨"com/example/epochwise/epochwise/bench/Transaction", "<init>", "(Lcom/example/epochwise/epochwise/bench/Transaction$Phase;Lcom/example/epochwise/epochwise/bench/Transaction$Type;IJJJLcom/example/epochwise/epochwise/bench/Transaction$Status;JI[IJ[J)V"⟩ : MethodName) (head1 (Jvm.Cond.code (⟨"com/example/epochwise/epochwise/bench/Transaction", "<init>", "(Lcom/example/epochwise/epochwise/bench/Transaction$Phase;Lcom/example/epochwise/epochwise/bench/Transaction$Type;IJJJLcom/example/epochwise/epochwise/bench/Transaction$Status;JI[IJ[J)V"⟩ : MethodName) prog_6_method_2_code 18 none :: ws) ({ frames := 2, cells := 0, slots := 0, locals := 24 } : Room)) (fun a U => a = #[(.ref a1_0), .null, .null, (.int p1_3), (.long q1_4), (.long q1_5), (.long q1_6), .null, (.long q1_8), (.int p1_9), (.ref a1_10), (.long q1_11), .null] ∧ Z.Warmed39 U.vm ∧ U.heap = h0) (fun _ _ _ _ _ => True) (fun _ U o U' => ∃ v L, o = .returned v ∧ Q1 Z a1_0 p1_3 q1_4 q1_5 q1_6 q1_8 p1_9 a1_10 q1_11 u1_client v1_arrival v1_start v1_end v1_timestamp u1_rounds v1_value h0 n0 v U'.heap L ∧ FrameEnd U o U' L ({ frames := 2, cells := 0, slots := 0, locals := 24 } : Room).cells ({ frames := 2, cells := 0, slots := 0, locals := 24 } : Room).slots) := by
  refine MetFree.of_bodySF (plainFor_of_name pn_com_example_epochwise_epochwise_bench_Transaction) hisR ?_
  intro p e s m args below meth c s₁ Bd hml0 hP hK
  obtain ⟨rfl, hZ, hh⟩ := hP
  have hx := Bd.exec
  have hby := Bd.bytes
  have hlk := Bd.notSynchronized
  have hret := Bd.returns
  have hml : c.maxLocals = 18 := hml0
  have hown : s.vm.findClass "com/example/epochwise/epochwise/bench/Transaction" = some m.cls := findClass_of_methodNamed Bd.named
  have hnm := (name_of_methodNamed Bd.named Bd.method).1
  have X0 : Stand p l e ({ frames := 2, cells := 0, slots := 0, locals := 24 } : Room) s m #[(.ref a1_0), .null, .null, (.int p1_3), (.long q1_4), (.long q1_5), (.long q1_6), .null, (.long q1_8), (.int p1_9), (.ref a1_10), (.long q1_11), .null] below meth c s₁ [] 0 0 := Stand.of_body Bd
  have e0 : s₁.heap = h0 := by rw [← hh, Bd.state]; rfl
  have N0 := Fr.nil n0
  have K0 : Keep h0 h0 [a1_0] := Keep.refl _ _
  show own_G p e below s (Q1 Z a1_0 p1_3 q1_4 q1_5 q1_6 q1_8 p1_9 a1_10 q1_11 u1_client v1_arrival v1_start v1_end v1_timestamp u1_rounds v1_value h0 n0) ({ frames := 2, cells := 0, slots := 0, locals := 24 } : Room).cells ({ frames := 2, cells := 0, slots := 0, locals := 24 } : Room).slots s₁ (entryFrame m #[(.ref a1_0), .null, .null, (.int p1_3), (.long q1_4), (.long q1_5), (.long q1_6), .null, (.long q1_8), (.int p1_9), (.ref a1_10), (.long q1_11), .null] 18)
  have ww1 := hw _ (List.mem_of_getElem? (i := 1) rfl)
  have ww7 := hw _ (List.mem_of_getElem? (i := 7) rfl)
  have ww8 := hw _ (List.mem_of_getElem? (i := 8) rfl)
  have ww10 := hw _ (List.mem_of_getElem? (i := 10) rfl)
  have ww11 := hw _ (List.mem_of_getElem? (i := 11) rfl)
  have ww15 := hw _ (List.mem_of_getElem? (i := 15) rfl)
  have ww16 := hw _ (List.mem_of_getElem? (i := 16) rfl)
  have ww17 := hw _ (List.mem_of_getElem? (i := 17) rfl)
  have ww18 := hw _ (List.mem_of_getElem? (i := 18) rfl)
  have ww19 := hw _ (List.mem_of_getElem? (i := 19) rfl)
  have ww20 := hw _ (List.mem_of_getElem? (i := 20) rfl)
  have ww21 := hw _ (List.mem_of_getElem? (i := 21) rfl)
  have ww22 := hw _ (List.mem_of_getElem? (i := 22) rfl)
  have ww23 := hw _ (List.mem_of_getElem? (i := 23) rfl)
  have ww24 := hw _ (List.mem_of_getElem? (i := 24) rfl)
  have ww25 := hw _ (List.mem_of_getElem? (i := 25) rfl)
  have ww26 := hw _ (List.mem_of_getElem? (i := 26) rfl)
  have ww27 := hw _ (List.mem_of_getElem? (i := 27) rfl)
  have ww28 := hw _ (List.mem_of_getElem? (i := 28) rfl)
  have ww29 := hw _ (List.mem_of_getElem? (i := 29) rfl)
  have ww30 := hw _ (List.mem_of_getElem? (i := 30) rfl)
  have ww31 := hw _ (List.mem_of_getElem? (i := 31) rfl)
  have ww32 := hw _ (List.mem_of_getElem? (i := 32) rfl)
  have ww33 := hw _ (List.mem_of_getElem? (i := 33) rfl)
  have ww34 := hw _ (List.mem_of_getElem? (i := 34) rfl)
  have ww35 := hw _ (List.mem_of_getElem? (i := 35) rfl)
  have ww36 := hw _ (List.mem_of_getElem? (i := 36) rfl)
  have ww37 := hw _ (List.mem_of_getElem? (i := 37) rfl)
  have ww38 := hw _ (List.mem_of_getElem? (i := 38) rfl)
  refine own_cast (ef_1 m a1_0 p1_3 q1_4 q1_5 q1_6 q1_8 p1_9 a1_10 q1_11) ?_
  refine own_s (g' := (mkF m 1 #[.val (.ref a1_0), .val .null, .val .null, .val (.int p1_3), .val (.long q1_4), .second, .val (.long q1_5), .second, .val (.long q1_6), .second, .val .null, .val (.long q1_8), .second, .val (.int p1_9), .val (.ref a1_10), .val (.long q1_11), .second, .val .null] [(.ref a1_0)])) (fun _ k => XS.aloadN X0.here hx rfl (hb hby d1_0) rfl rfl k) ?_
  obtain ⟨_, _, ⟨T2, L2, k2, n2⟩, -, X2, ⟨Lc2, hQ2, l2, y2, z2⟩, st2⟩ := X0.specialBack hx (y := (⟨"java/lang/Record", "<init>", "()V"⟩ : MethodName)) rfl hown (mvT hZ ww7) (mvT hZ ww8) (mvT hZ ww11) (by decide) (backOf (W := 0) (rm2 l Z a0 hw [] a1_0 h0 n0 Z0 ) hZ ww11 ww10 (by decide) (by decide)) (g := (mkF m 1 #[.val (.ref a1_0), .val .null, .val .null, .val (.int p1_3), .val (.long q1_4), .second, .val (.long q1_5), .second, .val (.long q1_6), .second, .val .null, .val (.long q1_8), .second, .val (.int p1_9), .val (.ref a1_10), .val (.long q1_11), .second, .val .null] [(.ref a1_0)])) rfl (by rw [hml]; rfl) (Steps.refl _) (a := a1_0) (argsL := []) (rest := []) (lenOf pd___V rfl) rfl (by show 2 * 0 + _ ≤ _; exact Nat.le_of_eq rfl) (hb hby d1_1) (fun _ _ => ⟨rfl, e0, (by decide : 0 + 0 ≤ _), (by decide : 0 + 0 ≤ _)⟩)
  dsimp only [Pt.U, Pt.locs, Pt.cells, Pt.slots] at X2 l2 y2 z2 st2 hQ2
  subst l2 y2 z2
  obtain ⟨rfl, N2q, eh2⟩ := hQ2
  have N2 := Fr.app N0 N2q
  refine own_trans (g' := (mkF m 4 #[.val (.ref a1_0), .val .null, .val .null, .val (.int p1_3), .val (.long q1_4), .second, .val (.long q1_5), .second, .val (.long q1_6), .second, .val .null, .val (.long q1_8), .second, .val (.int p1_9), .val (.ref a1_10), .val (.long q1_11), .second, .val .null] [])) st2 ?_
  refine own_s (g' := (mkF m 5 #[.val (.ref a1_0), .val .null, .val .null, .val (.int p1_3), .val (.long q1_4), .second, .val (.long q1_5), .second, .val (.long q1_6), .second, .val .null, .val (.long q1_8), .second, .val (.int p1_9), .val (.ref a1_10), .val (.long q1_11), .second, .val .null] [(.ref a1_0)])) (fun _ k => XS.aloadN X2.here hx rfl (hb hby d1_4) rfl rfl k) ?_
  refine own_s (g' := (mkF m 6 #[.val (.ref a1_0), .val .null, .val .null, .val (.int p1_3), .val (.long q1_4), .second, .val (.long q1_5), .second, .val (.long q1_6), .second, .val .null, .val (.long q1_8), .second, .val (.int p1_9), .val (.ref a1_10), .val (.long q1_11), .second, .val .null] [.null, (.ref a1_0)])) (fun _ k => XS.aloadN X2.here hx rfl (hb hby d1_5) rfl rfl k) ?_
  obtain ⟨T3, h3, X3, e3, W3, st3⟩ := putF X2 hx hZ hown (host := "") (Or.inl ww15) Via.refl eh2 F_phase_a1_0 E_a1_0 (Or.inr ⟨ww16, rfl, hnm⟩) ww1 (ty := (.object "com/example/epochwise/epochwise/bench/Transaction$Phase")) (by decide +kernel) rfl rfl (g := (mkF m 6 #[.val (.ref a1_0), .val .null, .val .null, .val (.int p1_3), .val (.long q1_4), .second, .val (.long q1_5), .second, .val (.long q1_6), .second, .val .null, .val (.long q1_8), .second, .val (.int p1_9), .val (.ref a1_10), .val (.long q1_11), .second, .val .null] [.null, (.ref a1_0)])) rfl rfl (hb hby d1_6)
  have f4 := F_phase_a1_0.same W3
  have K3 := K0.wr W3 (Or.inl (List.mem_of_getElem? (i := 0) rfl))
  have N3 := Fr.snoc X3 N2 g_a1_0
  refine own_s (g' := (mkF m 9 #[.val (.ref a1_0), .val .null, .val .null, .val (.int p1_3), .val (.long q1_4), .second, .val (.long q1_5), .second, .val (.long q1_6), .second, .val .null, .val (.long q1_8), .second, .val (.int p1_9), .val (.ref a1_10), .val (.long q1_11), .second, .val .null] [])) st3 ?_
  refine own_s (g' := (mkF m 10 #[.val (.ref a1_0), .val .null, .val .null, .val (.int p1_3), .val (.long q1_4), .second, .val (.long q1_5), .second, .val (.long q1_6), .second, .val .null, .val (.long q1_8), .second, .val (.int p1_9), .val (.ref a1_10), .val (.long q1_11), .second, .val .null] [(.ref a1_0)])) (fun _ k => XS.aloadN X3.here hx rfl (hb hby d1_9) rfl rfl k) ?_
  refine own_s (g' := (mkF m 11 #[.val (.ref a1_0), .val .null, .val .null, .val (.int p1_3), .val (.long q1_4), .second, .val (.long q1_5), .second, .val (.long q1_6), .second, .val .null, .val (.long q1_8), .second, .val (.int p1_9), .val (.ref a1_10), .val (.long q1_11), .second, .val .null] [.null, (.ref a1_0)])) (fun _ k => XS.aloadN X3.here hx rfl (hb hby d1_10) rfl rfl k) ?_
  have f5 := (E_a1_0.wr W3)
  have f6 := (F_type_a1_0.other W3 (Or.inr (own_sn_18_16 hw)))
  obtain ⟨T7, h7, X7, e7, W7, st7⟩ := putF X3 hx hZ hown (host := "") (Or.inl ww17) Via.refl e3 f6 f5 (Or.inr ⟨ww18, rfl, hnm⟩) ww1 (ty := (.object "com/example/epochwise/epochwise/bench/Transaction$Type")) (by decide +kernel) rfl rfl (g := (mkF m 11 #[.val (.ref a1_0), .val .null, .val .null, .val (.int p1_3), .val (.long q1_4), .second, .val (.long q1_5), .second, .val (.long q1_6), .second, .val .null, .val (.long q1_8), .second, .val (.int p1_9), .val (.ref a1_10), .val (.long q1_11), .second, .val .null] [.null, (.ref a1_0)])) rfl rfl (hb hby d1_11)
  have f8 := f6.same W7
  have K7 := K3.wr W7 (Or.inl (List.mem_of_getElem? (i := 0) rfl))
  have N7 := Fr.snoc X7 N3 g_a1_0
  refine own_s (g' := (mkF m 14 #[.val (.ref a1_0), .val .null, .val .null, .val (.int p1_3), .val (.long q1_4), .second, .val (.long q1_5), .second, .val (.long q1_6), .second, .val .null, .val (.long q1_8), .second, .val (.int p1_9), .val (.ref a1_10), .val (.long q1_11), .second, .val .null] [])) st7 ?_
  refine own_s (g' := (mkF m 15 #[.val (.ref a1_0), .val .null, .val .null, .val (.int p1_3), .val (.long q1_4), .second, .val (.long q1_5), .second, .val (.long q1_6), .second, .val .null, .val (.long q1_8), .second, .val (.int p1_9), .val (.ref a1_10), .val (.long q1_11), .second, .val .null] [(.ref a1_0)])) (fun _ k => XS.aloadN X7.here hx rfl (hb hby d1_14) rfl rfl k) ?_
  refine own_s (g' := (mkF m 16 #[.val (.ref a1_0), .val .null, .val .null, .val (.int p1_3), .val (.long q1_4), .second, .val (.long q1_5), .second, .val (.long q1_6), .second, .val .null, .val (.long q1_8), .second, .val (.int p1_9), .val (.ref a1_10), .val (.long q1_11), .second, .val .null] [(.int p1_3), (.ref a1_0)])) (fun _ k => XS.iloadN X7.here hx rfl (hb hby d1_15) rfl k) ?_
  have f9 := (f5.wr W7)
  have f10 := ((F_client_a1_0.other W3 (Or.inr (own_sn_20_16 hw))).other W7 (Or.inr (own_sn_20_18 hw)))
  obtain ⟨T11, h11, X11, e11, W11, st11⟩ := putF X7 hx hZ hown (host := "") (Or.inl ww19) Via.refl e7 f10 f9 (Or.inr ⟨ww20, rfl, hnm⟩) ww1 (ty := .int) (by decide +kernel) rfl rfl (g := (mkF m 16 #[.val (.ref a1_0), .val .null, .val .null, .val (.int p1_3), .val (.long q1_4), .second, .val (.long q1_5), .second, .val (.long q1_6), .second, .val .null, .val (.long q1_8), .second, .val (.int p1_9), .val (.ref a1_10), .val (.long q1_11), .second, .val .null] [(.int p1_3), (.ref a1_0)])) rfl rfl (hb hby d1_16)
  have f12 := f10.same W11
  have K11 := K7.wr W11 (Or.inl (List.mem_of_getElem? (i := 0) rfl))
  have N11 := Fr.snoc X11 N7 g_a1_0
  refine own_s (g' := (mkF m 19 #[.val (.ref a1_0), .val .null, .val .null, .val (.int p1_3), .val (.long q1_4), .second, .val (.long q1_5), .second, .val (.long q1_6), .second, .val .null, .val (.long q1_8), .second, .val (.int p1_9), .val (.ref a1_10), .val (.long q1_11), .second, .val .null] [])) st11 ?_
  refine own_s (g' := (mkF m 20 #[.val (.ref a1_0), .val .null, .val .null, .val (.int p1_3), .val (.long q1_4), .second, .val (.long q1_5), .second, .val (.long q1_6), .second, .val .null, .val (.long q1_8), .second, .val (.int p1_9), .val (.ref a1_10), .val (.long q1_11), .second, .val .null] [(.ref a1_0)])) (fun _ k => XS.aloadN X11.here hx rfl (hb hby d1_19) rfl rfl k) ?_
  refine own_s (g' := (mkF m 22 #[.val (.ref a1_0), .val .null, .val .null, .val (.int p1_3), .val (.long q1_4), .second, .val (.long q1_5), .second, .val (.long q1_6), .second, .val .null, .val (.long q1_8), .second, .val (.int p1_9), .val (.ref a1_10), .val (.long q1_11), .second, .val .null] [(.long q1_4), (.ref a1_0)])) (fun _ k => XS.lload X11.here hx rfl (hb hby d1_20) rfl k) ?_
  have f13 := (f9.wr W11)
  have f14 := (((F_arrival_a1_0.other W3 (Or.inr (own_sn_22_16 hw))).other W7 (Or.inr (own_sn_22_18 hw))).other W11 (Or.inr (own_sn_22_20 hw)))
  obtain ⟨T15, h15, X15, e15, W15, st15⟩ := putF X11 hx hZ hown (host := "") (Or.inl ww21) Via.refl e11 f14 f13 (Or.inr ⟨ww22, rfl, hnm⟩) ww1 (ty := .long) (by decide +kernel) rfl rfl (g := (mkF m 22 #[.val (.ref a1_0), .val .null, .val .null, .val (.int p1_3), .val (.long q1_4), .second, .val (.long q1_5), .second, .val (.long q1_6), .second, .val .null, .val (.long q1_8), .second, .val (.int p1_9), .val (.ref a1_10), .val (.long q1_11), .second, .val .null] [(.long q1_4), (.ref a1_0)])) rfl rfl (hb hby d1_22)
  have f16 := f14.same W15
  have K15 := K11.wr W15 (Or.inl (List.mem_of_getElem? (i := 0) rfl))
  have N15 := Fr.snoc X15 N11 g_a1_0
  refine own_s (g' := (mkF m 25 #[.val (.ref a1_0), .val .null, .val .null, .val (.int p1_3), .val (.long q1_4), .second, .val (.long q1_5), .second, .val (.long q1_6), .second, .val .null, .val (.long q1_8), .second, .val (.int p1_9), .val (.ref a1_10), .val (.long q1_11), .second, .val .null] [])) st15 ?_
  refine own_s (g' := (mkF m 26 #[.val (.ref a1_0), .val .null, .val .null, .val (.int p1_3), .val (.long q1_4), .second, .val (.long q1_5), .second, .val (.long q1_6), .second, .val .null, .val (.long q1_8), .second, .val (.int p1_9), .val (.ref a1_10), .val (.long q1_11), .second, .val .null] [(.ref a1_0)])) (fun _ k => XS.aloadN X15.here hx rfl (hb hby d1_25) rfl rfl k) ?_
  refine own_s (g' := (mkF m 28 #[.val (.ref a1_0), .val .null, .val .null, .val (.int p1_3), .val (.long q1_4), .second, .val (.long q1_5), .second, .val (.long q1_6), .second, .val .null, .val (.long q1_8), .second, .val (.int p1_9), .val (.ref a1_10), .val (.long q1_11), .second, .val .null] [(.long q1_5), (.ref a1_0)])) (fun _ k => XS.lload X15.here hx rfl (hb hby d1_26) rfl k) ?_
  have f17 := (f13.wr W15)
  have f18 := ((((F_start_a1_0.other W3 (Or.inr (own_sn_24_16 hw))).other W7 (Or.inr (own_sn_24_18 hw))).other W11 (Or.inr (own_sn_24_20 hw))).other W15 (Or.inr (own_sn_24_22 hw)))
  obtain ⟨T19, h19, X19, e19, W19, st19⟩ := putF X15 hx hZ hown (host := "") (Or.inl ww23) Via.refl e15 f18 f17 (Or.inr ⟨ww24, rfl, hnm⟩) ww1 (ty := .long) (by decide +kernel) rfl rfl (g := (mkF m 28 #[.val (.ref a1_0), .val .null, .val .null, .val (.int p1_3), .val (.long q1_4), .second, .val (.long q1_5), .second, .val (.long q1_6), .second, .val .null, .val (.long q1_8), .second, .val (.int p1_9), .val (.ref a1_10), .val (.long q1_11), .second, .val .null] [(.long q1_5), (.ref a1_0)])) rfl rfl (hb hby d1_28)
  have f20 := f18.same W19
  have K19 := K15.wr W19 (Or.inl (List.mem_of_getElem? (i := 0) rfl))
  have N19 := Fr.snoc X19 N15 g_a1_0
  refine own_s (g' := (mkF m 31 #[.val (.ref a1_0), .val .null, .val .null, .val (.int p1_3), .val (.long q1_4), .second, .val (.long q1_5), .second, .val (.long q1_6), .second, .val .null, .val (.long q1_8), .second, .val (.int p1_9), .val (.ref a1_10), .val (.long q1_11), .second, .val .null] [])) st19 ?_
  refine own_s (g' := (mkF m 32 #[.val (.ref a1_0), .val .null, .val .null, .val (.int p1_3), .val (.long q1_4), .second, .val (.long q1_5), .second, .val (.long q1_6), .second, .val .null, .val (.long q1_8), .second, .val (.int p1_9), .val (.ref a1_10), .val (.long q1_11), .second, .val .null] [(.ref a1_0)])) (fun _ k => XS.aloadN X19.here hx rfl (hb hby d1_31) rfl rfl k) ?_
  refine own_s (g' := (mkF m 34 #[.val (.ref a1_0), .val .null, .val .null, .val (.int p1_3), .val (.long q1_4), .second, .val (.long q1_5), .second, .val (.long q1_6), .second, .val .null, .val (.long q1_8), .second, .val (.int p1_9), .val (.ref a1_10), .val (.long q1_11), .second, .val .null] [(.long q1_6), (.ref a1_0)])) (fun _ k => XS.lload X19.here hx rfl (hb hby d1_32) rfl k) ?_
  have f21 := (f17.wr W19)
  have f22 := (((((F_end_a1_0.other W3 (Or.inr (own_sn_26_16 hw))).other W7 (Or.inr (own_sn_26_18 hw))).other W11 (Or.inr (own_sn_26_20 hw))).other W15 (Or.inr (own_sn_26_22 hw))).other W19 (Or.inr (own_sn_26_24 hw)))
  obtain ⟨T23, h23, X23, e23, W23, st23⟩ := putF X19 hx hZ hown (host := "") (Or.inl ww25) Via.refl e19 f22 f21 (Or.inr ⟨ww26, rfl, hnm⟩) ww1 (ty := .long) (by decide +kernel) rfl rfl (g := (mkF m 34 #[.val (.ref a1_0), .val .null, .val .null, .val (.int p1_3), .val (.long q1_4), .second, .val (.long q1_5), .second, .val (.long q1_6), .second, .val .null, .val (.long q1_8), .second, .val (.int p1_9), .val (.ref a1_10), .val (.long q1_11), .second, .val .null] [(.long q1_6), (.ref a1_0)])) rfl rfl (hb hby d1_34)
  have f24 := f22.same W23
  have K23 := K19.wr W23 (Or.inl (List.mem_of_getElem? (i := 0) rfl))
  have N23 := Fr.snoc X23 N19 g_a1_0
  refine own_s (g' := (mkF m 37 #[.val (.ref a1_0), .val .null, .val .null, .val (.int p1_3), .val (.long q1_4), .second, .val (.long q1_5), .second, .val (.long q1_6), .second, .val .null, .val (.long q1_8), .second, .val (.int p1_9), .val (.ref a1_10), .val (.long q1_11), .second, .val .null] [])) st23 ?_
  refine own_s (g' := (mkF m 38 #[.val (.ref a1_0), .val .null, .val .null, .val (.int p1_3), .val (.long q1_4), .second, .val (.long q1_5), .second, .val (.long q1_6), .second, .val .null, .val (.long q1_8), .second, .val (.int p1_9), .val (.ref a1_10), .val (.long q1_11), .second, .val .null] [(.ref a1_0)])) (fun _ k => XS.aloadN X23.here hx rfl (hb hby d1_37) rfl rfl k) ?_
  refine own_s (g' := (mkF m 40 #[.val (.ref a1_0), .val .null, .val .null, .val (.int p1_3), .val (.long q1_4), .second, .val (.long q1_5), .second, .val (.long q1_6), .second, .val .null, .val (.long q1_8), .second, .val (.int p1_9), .val (.ref a1_10), .val (.long q1_11), .second, .val .null] [.null, (.ref a1_0)])) (fun _ k => XS.aload X23.here hx rfl (hb hby d1_38) rfl rfl k) ?_
  have f25 := (f21.wr W23)
  have f26 := ((((((F_status_a1_0.other W3 (Or.inr (own_sn_28_16 hw))).other W7 (Or.inr (own_sn_28_18 hw))).other W11 (Or.inr (own_sn_28_20 hw))).other W15 (Or.inr (own_sn_28_22 hw))).other W19 (Or.inr (own_sn_28_24 hw))).other W23 (Or.inr (own_sn_28_26 hw)))
  obtain ⟨T27, h27, X27, e27, W27, st27⟩ := putF X23 hx hZ hown (host := "") (Or.inl ww27) Via.refl e23 f26 f25 (Or.inr ⟨ww28, rfl, hnm⟩) ww1 (ty := (.object "com/example/epochwise/epochwise/bench/Transaction$Status")) (by decide +kernel) rfl rfl (g := (mkF m 40 #[.val (.ref a1_0), .val .null, .val .null, .val (.int p1_3), .val (.long q1_4), .second, .val (.long q1_5), .second, .val (.long q1_6), .second, .val .null, .val (.long q1_8), .second, .val (.int p1_9), .val (.ref a1_10), .val (.long q1_11), .second, .val .null] [.null, (.ref a1_0)])) rfl rfl (hb hby d1_40)
  have f28 := f26.same W27
  have K27 := K23.wr W27 (Or.inl (List.mem_of_getElem? (i := 0) rfl))
  have N27 := Fr.snoc X27 N23 g_a1_0
  refine own_s (g' := (mkF m 43 #[.val (.ref a1_0), .val .null, .val .null, .val (.int p1_3), .val (.long q1_4), .second, .val (.long q1_5), .second, .val (.long q1_6), .second, .val .null, .val (.long q1_8), .second, .val (.int p1_9), .val (.ref a1_10), .val (.long q1_11), .second, .val .null] [])) st27 ?_
  refine own_s (g' := (mkF m 44 #[.val (.ref a1_0), .val .null, .val .null, .val (.int p1_3), .val (.long q1_4), .second, .val (.long q1_5), .second, .val (.long q1_6), .second, .val .null, .val (.long q1_8), .second, .val (.int p1_9), .val (.ref a1_10), .val (.long q1_11), .second, .val .null] [(.ref a1_0)])) (fun _ k => XS.aloadN X27.here hx rfl (hb hby d1_43) rfl rfl k) ?_
  refine own_s (g' := (mkF m 46 #[.val (.ref a1_0), .val .null, .val .null, .val (.int p1_3), .val (.long q1_4), .second, .val (.long q1_5), .second, .val (.long q1_6), .second, .val .null, .val (.long q1_8), .second, .val (.int p1_9), .val (.ref a1_10), .val (.long q1_11), .second, .val .null] [(.long q1_8), (.ref a1_0)])) (fun _ k => XS.lload X27.here hx rfl (hb hby d1_44) rfl k) ?_
  have f29 := (f25.wr W27)
  have f30 := (((((((F_timestamp_a1_0.other W3 (Or.inr (own_sn_30_16 hw))).other W7 (Or.inr (own_sn_30_18 hw))).other W11 (Or.inr (own_sn_30_20 hw))).other W15 (Or.inr (own_sn_30_22 hw))).other W19 (Or.inr (own_sn_30_24 hw))).other W23 (Or.inr (own_sn_30_26 hw))).other W27 (Or.inr (own_sn_30_28 hw)))
  obtain ⟨T31, h31, X31, e31, W31, st31⟩ := putF X27 hx hZ hown (host := "") (Or.inl ww29) Via.refl e27 f30 f29 (Or.inr ⟨ww30, rfl, hnm⟩) ww1 (ty := .long) (by decide +kernel) rfl rfl (g := (mkF m 46 #[.val (.ref a1_0), .val .null, .val .null, .val (.int p1_3), .val (.long q1_4), .second, .val (.long q1_5), .second, .val (.long q1_6), .second, .val .null, .val (.long q1_8), .second, .val (.int p1_9), .val (.ref a1_10), .val (.long q1_11), .second, .val .null] [(.long q1_8), (.ref a1_0)])) rfl rfl (hb hby d1_46)
  have f32 := f30.same W31
  have K31 := K27.wr W31 (Or.inl (List.mem_of_getElem? (i := 0) rfl))
  have N31 := Fr.snoc X31 N27 g_a1_0
  refine own_s (g' := (mkF m 49 #[.val (.ref a1_0), .val .null, .val .null, .val (.int p1_3), .val (.long q1_4), .second, .val (.long q1_5), .second, .val (.long q1_6), .second, .val .null, .val (.long q1_8), .second, .val (.int p1_9), .val (.ref a1_10), .val (.long q1_11), .second, .val .null] [])) st31 ?_
  refine own_s (g' := (mkF m 50 #[.val (.ref a1_0), .val .null, .val .null, .val (.int p1_3), .val (.long q1_4), .second, .val (.long q1_5), .second, .val (.long q1_6), .second, .val .null, .val (.long q1_8), .second, .val (.int p1_9), .val (.ref a1_10), .val (.long q1_11), .second, .val .null] [(.ref a1_0)])) (fun _ k => XS.aloadN X31.here hx rfl (hb hby d1_49) rfl rfl k) ?_
  refine own_s (g' := (mkF m 52 #[.val (.ref a1_0), .val .null, .val .null, .val (.int p1_3), .val (.long q1_4), .second, .val (.long q1_5), .second, .val (.long q1_6), .second, .val .null, .val (.long q1_8), .second, .val (.int p1_9), .val (.ref a1_10), .val (.long q1_11), .second, .val .null] [(.int p1_9), (.ref a1_0)])) (fun _ k => XS.iload X31.here hx rfl (hb hby d1_50) rfl k) ?_
  have f33 := (f29.wr W31)
  have f34 := ((((((((F_rounds_a1_0.other W3 (Or.inr (own_sn_32_16 hw))).other W7 (Or.inr (own_sn_32_18 hw))).other W11 (Or.inr (own_sn_32_20 hw))).other W15 (Or.inr (own_sn_32_22 hw))).other W19 (Or.inr (own_sn_32_24 hw))).other W23 (Or.inr (own_sn_32_26 hw))).other W27 (Or.inr (own_sn_32_28 hw))).other W31 (Or.inr (own_sn_32_30 hw)))
  obtain ⟨T35, h35, X35, e35, W35, st35⟩ := putF X31 hx hZ hown (host := "") (Or.inl ww31) Via.refl e31 f34 f33 (Or.inr ⟨ww32, rfl, hnm⟩) ww1 (ty := .int) (by decide +kernel) rfl rfl (g := (mkF m 52 #[.val (.ref a1_0), .val .null, .val .null, .val (.int p1_3), .val (.long q1_4), .second, .val (.long q1_5), .second, .val (.long q1_6), .second, .val .null, .val (.long q1_8), .second, .val (.int p1_9), .val (.ref a1_10), .val (.long q1_11), .second, .val .null] [(.int p1_9), (.ref a1_0)])) rfl rfl (hb hby d1_52)
  have f36 := f34.same W35
  have K35 := K31.wr W35 (Or.inl (List.mem_of_getElem? (i := 0) rfl))
  have N35 := Fr.snoc X35 N31 g_a1_0
  refine own_s (g' := (mkF m 55 #[.val (.ref a1_0), .val .null, .val .null, .val (.int p1_3), .val (.long q1_4), .second, .val (.long q1_5), .second, .val (.long q1_6), .second, .val .null, .val (.long q1_8), .second, .val (.int p1_9), .val (.ref a1_10), .val (.long q1_11), .second, .val .null] [])) st35 ?_
  refine own_s (g' := (mkF m 56 #[.val (.ref a1_0), .val .null, .val .null, .val (.int p1_3), .val (.long q1_4), .second, .val (.long q1_5), .second, .val (.long q1_6), .second, .val .null, .val (.long q1_8), .second, .val (.int p1_9), .val (.ref a1_10), .val (.long q1_11), .second, .val .null] [(.ref a1_0)])) (fun _ k => XS.aloadN X35.here hx rfl (hb hby d1_55) rfl rfl k) ?_
  refine own_s (g' := (mkF m 58 #[.val (.ref a1_0), .val .null, .val .null, .val (.int p1_3), .val (.long q1_4), .second, .val (.long q1_5), .second, .val (.long q1_6), .second, .val .null, .val (.long q1_8), .second, .val (.int p1_9), .val (.ref a1_10), .val (.long q1_11), .second, .val .null] [(.ref a1_10), (.ref a1_0)])) (fun _ k => XS.aload X35.here hx rfl (hb hby d1_56) rfl rfl k) ?_
  have f37 := (f33.wr W35)
  have f38 := (((((((((F_keys_a1_0.other W3 (Or.inr (own_sn_34_16 hw))).other W7 (Or.inr (own_sn_34_18 hw))).other W11 (Or.inr (own_sn_34_20 hw))).other W15 (Or.inr (own_sn_34_22 hw))).other W19 (Or.inr (own_sn_34_24 hw))).other W23 (Or.inr (own_sn_34_26 hw))).other W27 (Or.inr (own_sn_34_28 hw))).other W31 (Or.inr (own_sn_34_30 hw))).other W35 (Or.inr (own_sn_34_32 hw)))
  obtain ⟨T39, h39, X39, e39, W39, st39⟩ := putF X35 hx hZ hown (host := "") (Or.inl ww33) Via.refl e35 f38 f37 (Or.inr ⟨ww34, rfl, hnm⟩) ww1 (ty := (.array .int)) (by decide +kernel) rfl rfl (g := (mkF m 58 #[.val (.ref a1_0), .val .null, .val .null, .val (.int p1_3), .val (.long q1_4), .second, .val (.long q1_5), .second, .val (.long q1_6), .second, .val .null, .val (.long q1_8), .second, .val (.int p1_9), .val (.ref a1_10), .val (.long q1_11), .second, .val .null] [(.ref a1_10), (.ref a1_0)])) rfl rfl (hb hby d1_58)
  have f40 := f38.same W39
  have K39 := K35.wr W39 (Or.inl (List.mem_of_getElem? (i := 0) rfl))
  have N39 := Fr.snoc X39 N35 g_a1_0
  refine own_s (g' := (mkF m 61 #[.val (.ref a1_0), .val .null, .val .null, .val (.int p1_3), .val (.long q1_4), .second, .val (.long q1_5), .second, .val (.long q1_6), .second, .val .null, .val (.long q1_8), .second, .val (.int p1_9), .val (.ref a1_10), .val (.long q1_11), .second, .val .null] [])) st39 ?_
  refine own_s (g' := (mkF m 62 #[.val (.ref a1_0), .val .null, .val .null, .val (.int p1_3), .val (.long q1_4), .second, .val (.long q1_5), .second, .val (.long q1_6), .second, .val .null, .val (.long q1_8), .second, .val (.int p1_9), .val (.ref a1_10), .val (.long q1_11), .second, .val .null] [(.ref a1_0)])) (fun _ k => XS.aloadN X39.here hx rfl (hb hby d1_61) rfl rfl k) ?_
  refine own_s (g' := (mkF m 64 #[.val (.ref a1_0), .val .null, .val .null, .val (.int p1_3), .val (.long q1_4), .second, .val (.long q1_5), .second, .val (.long q1_6), .second, .val .null, .val (.long q1_8), .second, .val (.int p1_9), .val (.ref a1_10), .val (.long q1_11), .second, .val .null] [(.long q1_11), (.ref a1_0)])) (fun _ k => XS.lload X39.here hx rfl (hb hby d1_62) rfl k) ?_
  have f41 := (f37.wr W39)
  have f42 := ((((((((((F_value_a1_0.other W3 (Or.inr (own_sn_36_16 hw))).other W7 (Or.inr (own_sn_36_18 hw))).other W11 (Or.inr (own_sn_36_20 hw))).other W15 (Or.inr (own_sn_36_22 hw))).other W19 (Or.inr (own_sn_36_24 hw))).other W23 (Or.inr (own_sn_36_26 hw))).other W27 (Or.inr (own_sn_36_28 hw))).other W31 (Or.inr (own_sn_36_30 hw))).other W35 (Or.inr (own_sn_36_32 hw))).other W39 (Or.inr (own_sn_36_34 hw)))
  obtain ⟨T43, h43, X43, e43, W43, st43⟩ := putF X39 hx hZ hown (host := "") (Or.inl ww35) Via.refl e39 f42 f41 (Or.inr ⟨ww36, rfl, hnm⟩) ww1 (ty := .long) (by decide +kernel) rfl rfl (g := (mkF m 64 #[.val (.ref a1_0), .val .null, .val .null, .val (.int p1_3), .val (.long q1_4), .second, .val (.long q1_5), .second, .val (.long q1_6), .second, .val .null, .val (.long q1_8), .second, .val (.int p1_9), .val (.ref a1_10), .val (.long q1_11), .second, .val .null] [(.long q1_11), (.ref a1_0)])) rfl rfl (hb hby d1_64)
  have f44 := f42.same W43
  have K43 := K39.wr W43 (Or.inl (List.mem_of_getElem? (i := 0) rfl))
  have N43 := Fr.snoc X43 N39 g_a1_0
  refine own_s (g' := (mkF m 67 #[.val (.ref a1_0), .val .null, .val .null, .val (.int p1_3), .val (.long q1_4), .second, .val (.long q1_5), .second, .val (.long q1_6), .second, .val .null, .val (.long q1_8), .second, .val (.int p1_9), .val (.ref a1_10), .val (.long q1_11), .second, .val .null] [])) st43 ?_
  refine own_s (g' := (mkF m 68 #[.val (.ref a1_0), .val .null, .val .null, .val (.int p1_3), .val (.long q1_4), .second, .val (.long q1_5), .second, .val (.long q1_6), .second, .val .null, .val (.long q1_8), .second, .val (.int p1_9), .val (.ref a1_10), .val (.long q1_11), .second, .val .null] [(.ref a1_0)])) (fun _ k => XS.aloadN X43.here hx rfl (hb hby d1_67) rfl rfl k) ?_
  refine own_s (g' := (mkF m 70 #[.val (.ref a1_0), .val .null, .val .null, .val (.int p1_3), .val (.long q1_4), .second, .val (.long q1_5), .second, .val (.long q1_6), .second, .val .null, .val (.long q1_8), .second, .val (.int p1_9), .val (.ref a1_10), .val (.long q1_11), .second, .val .null] [.null, (.ref a1_0)])) (fun _ k => XS.aload X43.here hx rfl (hb hby d1_68) rfl rfl k) ?_
  have f45 := (f41.wr W43)
  have f46 := (((((((((((F_values_a1_0.other W3 (Or.inr (own_sn_38_16 hw))).other W7 (Or.inr (own_sn_38_18 hw))).other W11 (Or.inr (own_sn_38_20 hw))).other W15 (Or.inr (own_sn_38_22 hw))).other W19 (Or.inr (own_sn_38_24 hw))).other W23 (Or.inr (own_sn_38_26 hw))).other W27 (Or.inr (own_sn_38_28 hw))).other W31 (Or.inr (own_sn_38_30 hw))).other W35 (Or.inr (own_sn_38_32 hw))).other W39 (Or.inr (own_sn_38_34 hw))).other W43 (Or.inr (own_sn_38_36 hw)))
  obtain ⟨T47, h47, X47, e47, W47, st47⟩ := putF X43 hx hZ hown (host := "") (Or.inl ww37) Via.refl e43 f46 f45 (Or.inr ⟨ww38, rfl, hnm⟩) ww1 (ty := (.array .long)) (by decide +kernel) rfl rfl (g := (mkF m 70 #[.val (.ref a1_0), .val .null, .val .null, .val (.int p1_3), .val (.long q1_4), .second, .val (.long q1_5), .second, .val (.long q1_6), .second, .val .null, .val (.long q1_8), .second, .val (.int p1_9), .val (.ref a1_10), .val (.long q1_11), .second, .val .null] [.null, (.ref a1_0)])) rfl rfl (hb hby d1_70)
  have f48 := f46.same W47
  have K47 := K43.wr W47 (Or.inl (List.mem_of_getElem? (i := 0) rfl))
  have N47 := Fr.snoc X47 N43 g_a1_0
  refine own_s (g' := (mkF m 73 #[.val (.ref a1_0), .val .null, .val .null, .val (.int p1_3), .val (.long q1_4), .second, .val (.long q1_5), .second, .val (.long q1_6), .second, .val .null, .val (.long q1_8), .second, .val (.int p1_9), .val (.ref a1_10), .val (.long q1_11), .second, .val .null] [])) st47 ?_
  have f49 := (f45.wr W47)
  have f50 := (((((((((((f4.other W7 (Or.inr (own_sn_16_18 hw))).other W11 (Or.inr (own_sn_16_20 hw))).other W15 (Or.inr (own_sn_16_22 hw))).other W19 (Or.inr (own_sn_16_24 hw))).other W23 (Or.inr (own_sn_16_26 hw))).other W27 (Or.inr (own_sn_16_28 hw))).other W31 (Or.inr (own_sn_16_30 hw))).other W35 (Or.inr (own_sn_16_32 hw))).other W39 (Or.inr (own_sn_16_34 hw))).other W43 (Or.inr (own_sn_16_36 hw))).other W47 (Or.inr (own_sn_16_38 hw)))
  have f51 := ((((((((((f8.other W11 (Or.inr (own_sn_18_20 hw))).other W15 (Or.inr (own_sn_18_22 hw))).other W19 (Or.inr (own_sn_18_24 hw))).other W23 (Or.inr (own_sn_18_26 hw))).other W27 (Or.inr (own_sn_18_28 hw))).other W31 (Or.inr (own_sn_18_30 hw))).other W35 (Or.inr (own_sn_18_32 hw))).other W39 (Or.inr (own_sn_18_34 hw))).other W43 (Or.inr (own_sn_18_36 hw))).other W47 (Or.inr (own_sn_18_38 hw)))
  have f52 := (((((((((f12.other W15 (Or.inr (own_sn_20_22 hw))).other W19 (Or.inr (own_sn_20_24 hw))).other W23 (Or.inr (own_sn_20_26 hw))).other W27 (Or.inr (own_sn_20_28 hw))).other W31 (Or.inr (own_sn_20_30 hw))).other W35 (Or.inr (own_sn_20_32 hw))).other W39 (Or.inr (own_sn_20_34 hw))).other W43 (Or.inr (own_sn_20_36 hw))).other W47 (Or.inr (own_sn_20_38 hw)))
  have f53 := ((((((((f16.other W19 (Or.inr (own_sn_22_24 hw))).other W23 (Or.inr (own_sn_22_26 hw))).other W27 (Or.inr (own_sn_22_28 hw))).other W31 (Or.inr (own_sn_22_30 hw))).other W35 (Or.inr (own_sn_22_32 hw))).other W39 (Or.inr (own_sn_22_34 hw))).other W43 (Or.inr (own_sn_22_36 hw))).other W47 (Or.inr (own_sn_22_38 hw)))
  have f54 := (((((((f20.other W23 (Or.inr (own_sn_24_26 hw))).other W27 (Or.inr (own_sn_24_28 hw))).other W31 (Or.inr (own_sn_24_30 hw))).other W35 (Or.inr (own_sn_24_32 hw))).other W39 (Or.inr (own_sn_24_34 hw))).other W43 (Or.inr (own_sn_24_36 hw))).other W47 (Or.inr (own_sn_24_38 hw)))
  have f55 := ((((((f24.other W27 (Or.inr (own_sn_26_28 hw))).other W31 (Or.inr (own_sn_26_30 hw))).other W35 (Or.inr (own_sn_26_32 hw))).other W39 (Or.inr (own_sn_26_34 hw))).other W43 (Or.inr (own_sn_26_36 hw))).other W47 (Or.inr (own_sn_26_38 hw)))
  have f56 := (((((f28.other W31 (Or.inr (own_sn_28_30 hw))).other W35 (Or.inr (own_sn_28_32 hw))).other W39 (Or.inr (own_sn_28_34 hw))).other W43 (Or.inr (own_sn_28_36 hw))).other W47 (Or.inr (own_sn_28_38 hw)))
  have f57 := ((((f32.other W35 (Or.inr (own_sn_30_32 hw))).other W39 (Or.inr (own_sn_30_34 hw))).other W43 (Or.inr (own_sn_30_36 hw))).other W47 (Or.inr (own_sn_30_38 hw)))
  have f58 := (((f36.other W39 (Or.inr (own_sn_32_34 hw))).other W43 (Or.inr (own_sn_32_36 hw))).other W47 (Or.inr (own_sn_32_38 hw)))
  have f59 := ((f40.other W43 (Or.inr (own_sn_34_36 hw))).other W47 (Or.inr (own_sn_34_38 hw)))
  have f60 := (f44.other W47 (Or.inr (own_sn_36_38 hw)))
  refine own_retV X47 hx hlk hret (hb hby d1_73) (by decide) (by decide) ?_
  show Q1 Z a1_0 p1_3 q1_4 q1_5 q1_6 q1_8 p1_9 a1_10 q1_11 u1_client v1_arrival v1_start v1_end v1_timestamp u1_rounds v1_value h0 n0 _ T47.heap _
  rw [e47]
  exact ⟨rfl, N47, K47, f49, f50, f51, f52, f53, f54, f55, f56, f57, f58, f59, f60, f48⟩
theorem pd__Lcom_example_epochwise_epochwise_bench_Transaction_Phase_Lcom_example_epochwise_epochwise_bench_Transaction_Type_IJJJLcom_example_epochwise_epochwise_bench_Transaction_Status_JI_IJ_J_V : parseMethodDescriptor "(Lcom/example/epochwise/epochwise/bench/Transaction$Phase;Lcom/example/epochwise/epochwise/bench/Transaction$Type;IJJJLcom/example/epochwise/epochwise/bench/Transaction$Status;JI[IJ[J)V" = some ⟨[(.object "com/example/epochwise/epochwise/bench/Transaction$Phase"), (.object "com/example/epochwise/epochwise/bench/Transaction$Type"), .int, .long, .long, .long, (.object "com/example/epochwise/epochwise/bench/Transaction$Status"), .long, .int, (.array .int), .long, (.array .long)], none⟩ := by decide +kernel
theorem d4_0 : decode prog_6_method_1_code 0 = .ok (.aload_n 0, 1) := by decide +kernel
theorem d4_1 : decode prog_6_method_1_code 1 = .ok (.aload_n 1, 1) := by decide +kernel
theorem d4_2 : decode prog_6_method_1_code 2 = .ok (.aload_n 2, 1) := by decide +kernel
theorem d4_3 : decode prog_6_method_1_code 3 = .ok (.iload_n 3, 1) := by decide +kernel
theorem d4_4 : decode prog_6_method_1_code 4 = .ok (.ldc2_w 52, 3) := by decide +kernel
theorem d4_7 : decode prog_6_method_1_code 7 = .ok (.lload 4, 2) := by decide +kernel
theorem d4_9 : decode prog_6_method_1_code 9 = .ok (.lload 6, 2) := by decide +kernel
theorem d4_11 : decode prog_6_method_1_code 11 = .ok (.aload 8, 2) := by decide +kernel
theorem d4_13 : decode prog_6_method_1_code 13 = .ok (.lload 9, 2) := by decide +kernel
theorem d4_15 : decode prog_6_method_1_code 15 = .ok (.iload 11, 2) := by decide +kernel
theorem d4_17 : decode prog_6_method_1_code 17 = .ok (.aload 12, 2) := by decide +kernel
theorem d4_19 : decode prog_6_method_1_code 19 = .ok (.lload 13, 2) := by decide +kernel
theorem d4_21 : decode prog_6_method_1_code 21 = .ok (.aload 15, 2) := by decide +kernel
theorem d4_23 : decode prog_6_method_1_code 23 = .ok (.invokespecial 54, 3) := by decide +kernel
theorem d4_26 : decode prog_6_method_1_code 26 = .ok (.return_, 1) := by decide +kernel
theorem ef_4 (m : MethodId) (a4_0 : Addr) (p4_3 : Int32) (q4_4 : Int64) (q4_5 : Int64) (q4_7 : Int64) (p4_8 : Int32) (a4_9 : Addr) (q4_10 : Int64) : entryFrame m #[(.ref a4_0), .null, .null, (.int p4_3), (.long q4_4), (.long q4_5), .null, (.long q4_7), (.int p4_8), (.ref a4_9), (.long q4_10), .null] 16 = mkF m 0 #[.val (.ref a4_0), .val .null, .val .null, .val (.int p4_3), .val (.long q4_4), .second, .val (.long q4_5), .second, .val .null, .val (.long q4_7), .second, .val (.int p4_8), .val (.ref a4_9), .val (.long q4_10), .second, .val .null] [] := by first | (simp [entryFrame, mkF, argsToLocals, Value.category]; done) | rfl
def Q4 (Z : State) (a4_0 : Addr) (p4_3 : Int32) (q4_4 : Int64) (q4_5 : Int64) (q4_7 : Int64) (p4_8 : Int32) (a4_9 : Addr) (q4_10 : Int64) (u4_client : Int32) (v4_arrival : Int64) (v4_start : Int64) (v4_end : Int64) (v4_timestamp : Int64) (u4_rounds : Int32) (v4_value : Int64) (h0 : Heap) (n0 : Nat) (v : Option Value) (h : Heap) (L : List Loc) : Prop := v = none ∧ Fr n0 L ∧ Keep h0 h [a4_0] ∧ Exa Z h a4_0 "com/example/epochwise/epochwise/bench/Transaction" ∧ Fld Z h a4_0 "com/example/epochwise/epochwise/bench/Transaction" "phase" "Lcom/example/epochwise/epochwise/bench/Transaction$Phase;" .null ∧ Fld Z h a4_0 "com/example/epochwise/epochwise/bench/Transaction" "type" "Lcom/example/epochwise/epochwise/bench/Transaction$Type;" .null ∧ Fld Z h a4_0 "com/example/epochwise/epochwise/bench/Transaction" "client" "I" (.int p4_3) ∧ Fld Z h a4_0 "com/example/epochwise/epochwise/bench/Transaction" "arrival" "J" (.long (-1)) ∧ Fld Z h a4_0 "com/example/epochwise/epochwise/bench/Transaction" "start" "J" (.long q4_4) ∧ Fld Z h a4_0 "com/example/epochwise/epochwise/bench/Transaction" "end" "J" (.long q4_5) ∧ Fld Z h a4_0 "com/example/epochwise/epochwise/bench/Transaction" "status" "Lcom/example/epochwise/epochwise/bench/Transaction$Status;" .null ∧ Fld Z h a4_0 "com/example/epochwise/epochwise/bench/Transaction" "timestamp" "J" (.long q4_7) ∧ Fld Z h a4_0 "com/example/epochwise/epochwise/bench/Transaction" "rounds" "I" (.int p4_8) ∧ Fld Z h a4_0 "com/example/epochwise/epochwise/bench/Transaction" "keys" "[I" (.ref a4_9) ∧ Fld Z h a4_0 "com/example/epochwise/epochwise/bench/Transaction" "value" "J" (.long q4_10) ∧ Fld Z h a4_0 "com/example/epochwise/epochwise/bench/Transaction" "values" "[J" .null
set_option maxRecDepth 65536 in
set_option maxHeartbeats 40000000 in
theorem rm4 (l : Launch) (Z : State) (a0 : Array Value) (hw : ∀ d ∈ tables_1, d.before a0 Z = true) (ws : List Jvm.Cond) (a4_0 : Addr) (p4_3 : Int32) (q4_4 : Int64) (q4_5 : Int64) (q4_7 : Int64) (p4_8 : Int32) (a4_9 : Addr) (q4_10 : Int64) (u4_client : Int32) (v4_arrival : Int64) (v4_start : Int64) (v4_end : Int64) (v4_timestamp : Int64) (u4_rounds : Int32) (v4_value : Int64) (h0 : Heap) (n0 : Nat) (Z0 : n0 ≤ h0.size) (F_phase_a4_0 : Fld Z h0 a4_0 "com/example/epochwise/epochwise/bench/Transaction" "phase" "Lcom/example/epochwise/epochwise/bench/Transaction$Phase;" .null) (F_type_a4_0 : Fld Z h0 a4_0 "com/example/epochwise/epochwise/bench/Transaction" "type" "Lcom/example/epochwise/epochwise/bench/Transaction$Type;" .null) (F_client_a4_0 : Fld Z h0 a4_0 "com/example/epochwise/epochwise/bench/Transaction" "client" "I" (.int u4_client)) (F_arrival_a4_0 : Fld Z h0 a4_0 "com/example/epochwise/epochwise/bench/Transaction" "arrival" "J" (.long v4_arrival)) (F_start_a4_0 : Fld Z h0 a4_0 "com/example/epochwise/epochwise/bench/Transaction" "start" "J" (.long v4_start)) (F_end_a4_0 : Fld Z h0 a4_0 "com/example/epochwise/epochwise/bench/Transaction" "end" "J" (.long v4_end)) (F_status_a4_0 : Fld Z h0 a4_0 "com/example/epochwise/epochwise/bench/Transaction" "status" "Lcom/example/epochwise/epochwise/bench/Transaction$Status;" .null) (F_timestamp_a4_0 : Fld Z h0 a4_0 "com/example/epochwise/epochwise/bench/Transaction" "timestamp" "J" (.long v4_timestamp)) (F_rounds_a4_0 : Fld Z h0 a4_0 "com/example/epochwise/epochwise/bench/Transaction" "rounds" "I" (.int u4_rounds)) (F_keys_a4_0 : Fld Z h0 a4_0 "com/example/epochwise/epochwise/bench/Transaction" "keys" "[I" .null) (F_value_a4_0 : Fld Z h0 a4_0 "com/example/epochwise/epochwise/bench/Transaction" "value" "J" (.long v4_value)) (F_values_a4_0 : Fld Z h0 a4_0 "com/example/epochwise/epochwise/bench/Transaction" "values" "[J" .null) (E_a4_0 : Exa Z h0 a4_0 "com/example/epochwise/epochwise/bench/Transaction") (g_a4_0 : n0 ≤ a4_0) :
    MetFree l (⟨"com/example/epochwise/epochwise/bench/Transaction", "<init>", "(Lcom/example/epochwise/epochwise/bench/Transaction$Phase;Lcom/example/epochwise/epochwise/bench/Transaction$Type;IJJLcom/example/epochwise/epochwise/bench/Transaction$Status;JI[IJ[J)V"⟩ : MethodName) (head1 (Jvm.Cond.code (⟨"com/example/epochwise/epochwise/bench/Transaction", "<init>", "(Lcom/example/epochwise/epochwise/bench/Transaction$Phase;Lcom/example/epochwise/epochwise/bench/Transaction$Type;IJJLcom/example/epochwise/epochwise/bench/Transaction$Status;JI[IJ[J)V"⟩ : MethodName) prog_6_method_1_code 16 none :: ws) ({ frames := 3, cells := 0, slots := 0, locals := 53 } : Room)) (fun a U => a = #[(.ref a4_0), .null, .null, (.int p4_3), (.long q4_4), (.long q4_5), .null, (.long q4_7), (.int p4_8), (.ref a4_9), (.long q4_10), .null] ∧ Z.Warmed39 U.vm ∧ U.heap = h0) (fun _ _ _ _ _ => True) (fun _ U o U' => ∃ v L, o = .returned v ∧ Q4 Z a4_0 p4_3 q4_4 q4_5 q4_7 p4_8 a4_9 q4_10 u4_client v4_arrival v4_start v4_end v4_timestamp u4_rounds v4_value h0 n0 v U'.heap L ∧ FrameEnd U o U' L ({ frames := 3, cells := 0, slots := 0, locals := 53 } : Room).cells ({ frames := 3, cells := 0, slots := 0, locals := 53 } : Room).slots) := by
  refine MetFree.of_bodySF (plainFor_of_name pn_com_example_epochwise_epochwise_bench_Transaction) hisR ?_
  intro p e s m args below meth c s₁ Bd hml0 hP hK
  obtain ⟨rfl, hZ, hh⟩ := hP
  have hx := Bd.exec
  have hby := Bd.bytes
  have hlk := Bd.notSynchronized
  have hret := Bd.returns
  have hml : c.maxLocals = 16 := hml0
  have hown : s.vm.findClass "com/example/epochwise/epochwise/bench/Transaction" = some m.cls := findClass_of_methodNamed Bd.named
  have hnm := (name_of_methodNamed Bd.named Bd.method).1
  have X0 : Stand p l e ({ frames := 3, cells := 0, slots := 0, locals := 53 } : Room) s m #[(.ref a4_0), .null, .null, (.int p4_3), (.long q4_4), (.long q4_5), .null, (.long q4_7), (.int p4_8), (.ref a4_9), (.long q4_10), .null] below meth c s₁ [] 0 0 := Stand.of_body Bd
  have e0 : s₁.heap = h0 := by rw [← hh, Bd.state]; rfl
  have N0 := Fr.nil n0
  have K0 : Keep h0 h0 [a4_0] := Keep.refl _ _
  show own_G p e below s (Q4 Z a4_0 p4_3 q4_4 q4_5 q4_7 p4_8 a4_9 q4_10 u4_client v4_arrival v4_start v4_end v4_timestamp u4_rounds v4_value h0 n0) ({ frames := 3, cells := 0, slots := 0, locals := 53 } : Room).cells ({ frames := 3, cells := 0, slots := 0, locals := 53 } : Room).slots s₁ (entryFrame m #[(.ref a4_0), .null, .null, (.int p4_3), (.long q4_4), (.long q4_5), .null, (.long q4_7), (.int p4_8), (.ref a4_9), (.long q4_10), .null] 16)
  have ww2 := hw _ (List.mem_of_getElem? (i := 2) rfl)
  have ww5 := hw _ (List.mem_of_getElem? (i := 5) rfl)
  have ww6 := hw _ (List.mem_of_getElem? (i := 6) rfl)
  have ww42 := hw _ (List.mem_of_getElem? (i := 42) rfl)
  have ww43 := hw _ (List.mem_of_getElem? (i := 43) rfl)
  refine own_cast (ef_4 m a4_0 p4_3 q4_4 q4_5 q4_7 p4_8 a4_9 q4_10) ?_
  refine own_s (g' := (mkF m 1 #[.val (.ref a4_0), .val .null, .val .null, .val (.int p4_3), .val (.long q4_4), .second, .val (.long q4_5), .second, .val .null, .val (.long q4_7), .second, .val (.int p4_8), .val (.ref a4_9), .val (.long q4_10), .second, .val .null] [(.ref a4_0)])) (fun _ k => XS.aloadN X0.here hx rfl (hb hby d4_0) rfl rfl k) ?_
  refine own_s (g' := (mkF m 2 #[.val (.ref a4_0), .val .null, .val .null, .val (.int p4_3), .val (.long q4_4), .second, .val (.long q4_5), .second, .val .null, .val (.long q4_7), .second, .val (.int p4_8), .val (.ref a4_9), .val (.long q4_10), .second, .val .null] [.null, (.ref a4_0)])) (fun _ k => XS.aloadN X0.here hx rfl (hb hby d4_1) rfl rfl k) ?_
  refine own_s (g' := (mkF m 3 #[.val (.ref a4_0), .val .null, .val .null, .val (.int p4_3), .val (.long q4_4), .second, .val (.long q4_5), .second, .val .null, .val (.long q4_7), .second, .val (.int p4_8), .val (.ref a4_9), .val (.long q4_10), .second, .val .null] [.null, .null, (.ref a4_0)])) (fun _ k => XS.aloadN X0.here hx rfl (hb hby d4_2) rfl rfl k) ?_
  refine own_s (g' := (mkF m 4 #[.val (.ref a4_0), .val .null, .val .null, .val (.int p4_3), .val (.long q4_4), .second, .val (.long q4_5), .second, .val .null, .val (.long q4_7), .second, .val (.int p4_8), .val (.ref a4_9), .val (.long q4_10), .second, .val .null] [(.int p4_3), .null, .null, (.ref a4_0)])) (fun _ k => XS.iloadN X0.here hx rfl (hb hby d4_3) rfl k) ?_
  refine own_s (g' := (mkF m 7 #[.val (.ref a4_0), .val .null, .val .null, .val (.int p4_3), .val (.long q4_4), .second, .val (.long q4_5), .second, .val .null, .val (.long q4_7), .second, .val (.int p4_8), .val (.ref a4_9), .val (.long q4_10), .second, .val .null] [(.long (-1)), (.int p4_3), .null, .null, (.ref a4_0)])) (X0.ldc2Long hx hown (mvT hZ ww42) (g := (mkF m 4 #[.val (.ref a4_0), .val .null, .val .null, .val (.int p4_3), .val (.long q4_4), .second, .val (.long q4_5), .second, .val .null, .val (.long q4_7), .second, .val (.int p4_8), .val (.ref a4_9), .val (.long q4_10), .second, .val .null] [(.int p4_3), .null, .null, (.ref a4_0)])) rfl (hb hby d4_4)) ?_
  refine own_s (g' := (mkF m 9 #[.val (.ref a4_0), .val .null, .val .null, .val (.int p4_3), .val (.long q4_4), .second, .val (.long q4_5), .second, .val .null, .val (.long q4_7), .second, .val (.int p4_8), .val (.ref a4_9), .val (.long q4_10), .second, .val .null] [(.long q4_4), (.long (-1)), (.int p4_3), .null, .null, (.ref a4_0)])) (fun _ k => XS.lload X0.here hx rfl (hb hby d4_7) rfl k) ?_
  refine own_s (g' := (mkF m 11 #[.val (.ref a4_0), .val .null, .val .null, .val (.int p4_3), .val (.long q4_4), .second, .val (.long q4_5), .second, .val .null, .val (.long q4_7), .second, .val (.int p4_8), .val (.ref a4_9), .val (.long q4_10), .second, .val .null] [(.long q4_5), (.long q4_4), (.long (-1)), (.int p4_3), .null, .null, (.ref a4_0)])) (fun _ k => XS.lload X0.here hx rfl (hb hby d4_9) rfl k) ?_
  refine own_s (g' := (mkF m 13 #[.val (.ref a4_0), .val .null, .val .null, .val (.int p4_3), .val (.long q4_4), .second, .val (.long q4_5), .second, .val .null, .val (.long q4_7), .second, .val (.int p4_8), .val (.ref a4_9), .val (.long q4_10), .second, .val .null] [.null, (.long q4_5), (.long q4_4), (.long (-1)), (.int p4_3), .null, .null, (.ref a4_0)])) (fun _ k => XS.aload X0.here hx rfl (hb hby d4_11) rfl rfl k) ?_
  refine own_s (g' := (mkF m 15 #[.val (.ref a4_0), .val .null, .val .null, .val (.int p4_3), .val (.long q4_4), .second, .val (.long q4_5), .second, .val .null, .val (.long q4_7), .second, .val (.int p4_8), .val (.ref a4_9), .val (.long q4_10), .second, .val .null] [(.long q4_7), .null, (.long q4_5), (.long q4_4), (.long (-1)), (.int p4_3), .null, .null, (.ref a4_0)])) (fun _ k => XS.lload X0.here hx rfl (hb hby d4_13) rfl k) ?_
  refine own_s (g' := (mkF m 17 #[.val (.ref a4_0), .val .null, .val .null, .val (.int p4_3), .val (.long q4_4), .second, .val (.long q4_5), .second, .val .null, .val (.long q4_7), .second, .val (.int p4_8), .val (.ref a4_9), .val (.long q4_10), .second, .val .null] [(.int p4_8), (.long q4_7), .null, (.long q4_5), (.long q4_4), (.long (-1)), (.int p4_3), .null, .null, (.ref a4_0)])) (fun _ k => XS.iload X0.here hx rfl (hb hby d4_15) rfl k) ?_
  refine own_s (g' := (mkF m 19 #[.val (.ref a4_0), .val .null, .val .null, .val (.int p4_3), .val (.long q4_4), .second, .val (.long q4_5), .second, .val .null, .val (.long q4_7), .second, .val (.int p4_8), .val (.ref a4_9), .val (.long q4_10), .second, .val .null] [(.ref a4_9), (.int p4_8), (.long q4_7), .null, (.long q4_5), (.long q4_4), (.long (-1)), (.int p4_3), .null, .null, (.ref a4_0)])) (fun _ k => XS.aload X0.here hx rfl (hb hby d4_17) rfl rfl k) ?_
  refine own_s (g' := (mkF m 21 #[.val (.ref a4_0), .val .null, .val .null, .val (.int p4_3), .val (.long q4_4), .second, .val (.long q4_5), .second, .val .null, .val (.long q4_7), .second, .val (.int p4_8), .val (.ref a4_9), .val (.long q4_10), .second, .val .null] [(.long q4_10), (.ref a4_9), (.int p4_8), (.long q4_7), .null, (.long q4_5), (.long q4_4), (.long (-1)), (.int p4_3), .null, .null, (.ref a4_0)])) (fun _ k => XS.lload X0.here hx rfl (hb hby d4_19) rfl k) ?_
  refine own_s (g' := (mkF m 23 #[.val (.ref a4_0), .val .null, .val .null, .val (.int p4_3), .val (.long q4_4), .second, .val (.long q4_5), .second, .val .null, .val (.long q4_7), .second, .val (.int p4_8), .val (.ref a4_9), .val (.long q4_10), .second, .val .null] [.null, (.long q4_10), (.ref a4_9), (.int p4_8), (.long q4_7), .null, (.long q4_5), (.long q4_4), (.long (-1)), (.int p4_3), .null, .null, (.ref a4_0)])) (fun _ k => XS.aload X0.here hx rfl (hb hby d4_21) rfl rfl k) ?_
  obtain ⟨_, _, ⟨T61, L61, k61, n61⟩, -, X61, ⟨Lc61, hQ61, l61, y61, z61⟩, st61⟩ := X0.specialBack hx (y := (⟨"com/example/epochwise/epochwise/bench/Transaction", "<init>", "(Lcom/example/epochwise/epochwise/bench/Transaction$Phase;Lcom/example/epochwise/epochwise/bench/Transaction$Type;IJJJLcom/example/epochwise/epochwise/bench/Transaction$Status;JI[IJ[J)V"⟩ : MethodName)) rfl hown (mvT hZ ww43) (mvT hZ ww5) (mvT hZ ww6) (by decide) (backOf (W := 0) (rm1 l Z a0 hw [] a4_0 p4_3 (-1 : Int64) q4_4 q4_5 q4_7 p4_8 a4_9 q4_10 u4_client v4_arrival v4_start v4_end v4_timestamp u4_rounds v4_value h0 n0 Z0 F_phase_a4_0 F_type_a4_0 F_client_a4_0 F_arrival_a4_0 F_start_a4_0 F_end_a4_0 F_status_a4_0 F_timestamp_a4_0 F_rounds_a4_0 F_keys_a4_0 F_value_a4_0 F_values_a4_0 E_a4_0 g_a4_0) hZ ww6 ww2 (by decide) (by decide)) (g := (mkF m 23 #[.val (.ref a4_0), .val .null, .val .null, .val (.int p4_3), .val (.long q4_4), .second, .val (.long q4_5), .second, .val .null, .val (.long q4_7), .second, .val (.int p4_8), .val (.ref a4_9), .val (.long q4_10), .second, .val .null] [.null, (.long q4_10), (.ref a4_9), (.int p4_8), (.long q4_7), .null, (.long q4_5), (.long q4_4), (.long (-1)), (.int p4_3), .null, .null, (.ref a4_0)])) rfl (by rw [hml]; rfl) (Steps.refl _) (a := a4_0) (argsL := [.null, .null, (.int p4_3), (.long (-1)), (.long q4_4), (.long q4_5), .null, (.long q4_7), (.int p4_8), (.ref a4_9), (.long q4_10), .null]) (rest := []) (lenOf pd__Lcom_example_epochwise_epochwise_bench_Transaction_Phase_Lcom_example_epochwise_epochwise_bench_Transaction_Type_IJJJLcom_example_epochwise_epochwise_bench_Transaction_Status_JI_IJ_J_V rfl) rfl (by show 2 * 0 + _ ≤ _; exact Nat.le_of_eq rfl) (hb hby d4_23) (fun _ _ => ⟨rfl, e0, (by decide : 0 + 0 ≤ _), (by decide : 0 + 0 ≤ _)⟩)
  dsimp only [Pt.U, Pt.locs, Pt.cells, Pt.slots] at X61 l61 y61 z61 st61 hQ61
  subst l61 y61 z61
  obtain ⟨rfl, N61q, K61q, f62, f63, f64, f65, f66, f67, f68, f69, f70, f71, f72, f73, f74⟩ := hQ61
  have K61 := K0.trans K61q (allS (Or.inl (List.mem_of_getElem? (i := 0) rfl)) all0)
  have N61 := Fr.app N0 N61q
  refine own_trans (g' := (mkF m 26 #[.val (.ref a4_0), .val .null, .val .null, .val (.int p4_3), .val (.long q4_4), .second, .val (.long q4_5), .second, .val .null, .val (.long q4_7), .second, .val (.int p4_8), .val (.ref a4_9), .val (.long q4_10), .second, .val .null] [])) st61 ?_
  refine own_retV X61 hx hlk hret (hb hby d4_26) (by decide) (by decide) ?_
  show Q4 Z a4_0 p4_3 q4_4 q4_5 q4_7 p4_8 a4_9 q4_10 u4_client v4_arrival v4_start v4_end v4_timestamp u4_rounds v4_value h0 n0 _ T61.heap _
  exact ⟨rfl, N61, K61, f62, f63, f64, f65, f66, f67, f68, f69, f70, f71, f72, f73, f74⟩
theorem d5_0 : decode prog_6_method_3_code 0 = .ok (.aload_n 0, 1) := by decide +kernel
theorem d5_1 : decode prog_6_method_3_code 1 = .ok (.getfield 21, 3) := by decide +kernel
theorem d5_4 : decode prog_6_method_3_code 4 = .ok (.ldc2_w 52, 3) := by decide +kernel
theorem d5_7 : decode prog_6_method_3_code 7 = .ok (.lcmp, 1) := by decide +kernel
theorem d5_8 : decode prog_6_method_3_code 8 = .ok (.ifCond .ne 10, 3) := by decide +kernel
theorem d5_11 : decode prog_6_method_3_code 11 = .ok (.aload_n 0, 1) := by decide +kernel
theorem d5_12 : decode prog_6_method_3_code 12 = .ok (.getfield 25, 3) := by decide +kernel
theorem d5_15 : decode prog_6_method_3_code 15 = .ok (.goto 7, 3) := by decide +kernel
theorem d5_18 : decode prog_6_method_3_code 18 = .ok (.aload_n 0, 1) := by decide +kernel
theorem d5_19 : decode prog_6_method_3_code 19 = .ok (.getfield 21, 3) := by decide +kernel
theorem d5_22 : decode prog_6_method_3_code 22 = .ok (.lreturn, 1) := by decide +kernel
theorem ef_5 (m : MethodId) (a5_0 : Addr) : entryFrame m #[(.ref a5_0)] 1 = mkF m 0 #[.val (.ref a5_0)] [] := by first | (simp [entryFrame, mkF, argsToLocals, Value.category]; done) | rfl
def r5 (v5_arrival : Int64) (v5_start : Int64) : Int64 := (if v5_arrival = (-1 : Int64) then v5_start else v5_arrival)
def Q5 (Z : State) (a5_0 : Addr) (v5_arrival : Int64) (v5_start : Int64) (h0 : Heap) (n0 : Nat) (v : Option Value) (h : Heap) (L : List Loc) : Prop := v = some (.long (r5 v5_arrival v5_start)) ∧ Fr n0 L ∧ h = h0
set_option maxRecDepth 65536 in
set_option maxHeartbeats 40000000 in
theorem rm5 (l : Launch) (Z : State) (a0 : Array Value) (hw : ∀ d ∈ tables_1, d.before a0 Z = true) (ws : List Jvm.Cond) (a5_0 : Addr) (v5_arrival : Int64) (v5_start : Int64) (h0 : Heap) (n0 : Nat) (Z0 : n0 ≤ h0.size) (F_arrival_a5_0 : Fld Z h0 a5_0 "com/example/epochwise/epochwise/bench/Transaction" "arrival" "J" (.long v5_arrival)) (F_start_a5_0 : Fld Z h0 a5_0 "com/example/epochwise/epochwise/bench/Transaction" "start" "J" (.long v5_start)) :
    MetFree l (⟨"com/example/epochwise/epochwise/bench/Transaction", "due", "()J"⟩ : MethodName) (head1 (Jvm.Cond.code (⟨"com/example/epochwise/epochwise/bench/Transaction", "due", "()J"⟩ : MethodName) prog_6_method_3_code 1 (some .long) :: ws) ({ frames := 0, cells := 0, slots := 0, locals := 0 } : Room)) (fun a U => a = #[(.ref a5_0)] ∧ Z.Warmed39 U.vm ∧ U.heap = h0) (fun _ _ _ _ _ => True) (fun _ U o U' => ∃ v L, o = .returned v ∧ Q5 Z a5_0 v5_arrival v5_start h0 n0 v U'.heap L ∧ FrameEnd U o U' L ({ frames := 0, cells := 0, slots := 0, locals := 0 } : Room).cells ({ frames := 0, cells := 0, slots := 0, locals := 0 } : Room).slots) := by
  refine MetFree.of_bodySF (plainFor_of_name pn_com_example_epochwise_epochwise_bench_Transaction) hisR ?_
  intro p e s m args below meth c s₁ Bd hml0 hP hK
  obtain ⟨rfl, hZ, hh⟩ := hP
  have hx := Bd.exec
  have hby := Bd.bytes
  have hlk := Bd.notSynchronized
  have hret := Bd.returns
  have hml : c.maxLocals = 1 := hml0
  have hown : s.vm.findClass "com/example/epochwise/epochwise/bench/Transaction" = some m.cls := findClass_of_methodNamed Bd.named
  have hnm := (name_of_methodNamed Bd.named Bd.method).1
  have X0 : Stand p l e ({ frames := 0, cells := 0, slots := 0, locals := 0 } : Room) s m #[(.ref a5_0)] below meth c s₁ [] 0 0 := Stand.of_body Bd
  have e0 : s₁.heap = h0 := by rw [← hh, Bd.state]; rfl
  have N0 := Fr.nil n0
  have K0 : Keep h0 h0 [] := Keep.refl _ _
  show own_G p e below s (Q5 Z a5_0 v5_arrival v5_start h0 n0) ({ frames := 0, cells := 0, slots := 0, locals := 0 } : Room).cells ({ frames := 0, cells := 0, slots := 0, locals := 0 } : Room).slots s₁ (entryFrame m #[(.ref a5_0)] 1)
  have ww21 := hw _ (List.mem_of_getElem? (i := 21) rfl)
  have ww23 := hw _ (List.mem_of_getElem? (i := 23) rfl)
  have ww42 := hw _ (List.mem_of_getElem? (i := 42) rfl)
  refine own_cast (ef_5 m a5_0) ?_
  refine own_s (g' := (mkF m 1 #[.val (.ref a5_0)] [(.ref a5_0)])) (fun _ k => XS.aloadN X0.here hx rfl (hb hby d5_0) rfl rfl k) ?_
  obtain ⟨T75, X75, e75, st75⟩ := getF X0 hx hZ hown (host := "") (Or.inl ww21) Via.refl e0 F_arrival_a5_0 (g := (mkF m 1 #[.val (.ref a5_0)] [(.ref a5_0)])) rfl rfl (hb hby d5_1)
  refine own_s (g' := (mkF m 4 #[.val (.ref a5_0)] [(.long v5_arrival)])) st75 ?_
  refine own_s (g' := (mkF m 7 #[.val (.ref a5_0)] [(.long (-1)), (.long v5_arrival)])) (X75.ldc2Long hx hown (mvT hZ ww42) (g := (mkF m 4 #[.val (.ref a5_0)] [(.long v5_arrival)])) rfl (hb hby d5_4)) ?_
  refine own_s (g' := (mkF m 8 #[.val (.ref a5_0)] [(.int (lcmpW v5_arrival (-1 : Int64)))])) (fun _ k => XS.lcmp X75.here hx rfl (hb hby d5_7) rfl k) ?_
  by_cases c76 : v5_arrival = (-1 : Int64)
  ·skip
   refine own_s (g' := (mkF m 11 #[.val (.ref a5_0)] [])) (fun _ k => XS.ifNo X75.here hx rfl (hb hby d5_8) rfl ((if0 _ _).trans (teq ((lw_eq v5_arrival (-1 : Int64)).mpr c76)).2) k) ?_
   refine own_s (g' := (mkF m 12 #[.val (.ref a5_0)] [(.ref a5_0)])) (fun _ k => XS.aloadN X75.here hx rfl (hb hby d5_11) rfl rfl k) ?_
   obtain ⟨T77, X77, e77, st77⟩ := getF X75 hx hZ hown (host := "") (Or.inl ww23) Via.refl e75 F_start_a5_0 (g := (mkF m 12 #[.val (.ref a5_0)] [(.ref a5_0)])) rfl rfl (hb hby d5_12)
   refine own_s (g' := (mkF m 15 #[.val (.ref a5_0)] [(.long v5_start)])) st77 ?_
   refine own_s (g' := (mkF m 22 #[.val (.ref a5_0)] [(.long v5_start)])) (fun _ k => XS.goto X77.here hx rfl (pc0 := 15) (pc' := 22) rfl (hb hby d5_15) (by decide) (by decide) k) ?_
   refine own_retJ X77 hx hlk hret (hb hby d5_22) (by decide) (by decide) ?_
   show Q5 Z a5_0 v5_arrival v5_start h0 n0 _ T77.heap _
   rw [e77]
   exact ⟨(congrArg (fun z => some (Value.long z)) (show v5_start = (r5 v5_arrival v5_start) from (Eq.symm (if_pos c76)))), N0, rfl⟩
  ·skip
   refine own_s (g' := (mkF m 18 #[.val (.ref a5_0)] [])) (fun _ k => XS.ifYes X75.here hx rfl (pc0 := 8) (pc' := 18) rfl (hb hby d5_8) rfl ((if0 _ _).trans (feq (mt (lw_eq v5_arrival (-1 : Int64)).mp c76)).2) (by decide) (by decide) k) ?_
   refine own_s (g' := (mkF m 19 #[.val (.ref a5_0)] [(.ref a5_0)])) (fun _ k => XS.aloadN X75.here hx rfl (hb hby d5_18) rfl rfl k) ?_
   obtain ⟨T78, X78, e78, st78⟩ := getF X75 hx hZ hown (host := "") (Or.inl ww21) Via.refl e75 F_arrival_a5_0 (g := (mkF m 19 #[.val (.ref a5_0)] [(.ref a5_0)])) rfl rfl (hb hby d5_19)
   refine own_s (g' := (mkF m 22 #[.val (.ref a5_0)] [(.long v5_arrival)])) st78 ?_
   refine own_retJ X78 hx hlk hret (hb hby d5_22) (by decide) (by decide) ?_
   show Q5 Z a5_0 v5_arrival v5_start h0 n0 _ T78.heap _
   rw [e78]
   exact ⟨(congrArg (fun z => some (Value.long z)) (show v5_arrival = (r5 v5_arrival v5_start) from (Eq.symm (if_neg c76)))), N0, rfl⟩
theorem pd__Lcom_example_epochwise_epochwise_bench_Transaction_Phase_Lcom_example_epochwise_epochwise_bench_Transaction_Type_IJJLcom_example_epochwise_epochwise_bench_Transaction_Status_JI_IJ_J_V : parseMethodDescriptor "(Lcom/example/epochwise/epochwise/bench/Transaction$Phase;Lcom/example/epochwise/epochwise/bench/Transaction$Type;IJJLcom/example/epochwise/epochwise/bench/Transaction$Status;JI[IJ[J)V" = some ⟨[(.object "com/example/epochwise/epochwise/bench/Transaction$Phase"), (.object "com/example/epochwise/epochwise/bench/Transaction$Type"), .int, .long, .long, (.object "com/example/epochwise/epochwise/bench/Transaction$Status"), .long, .int, (.array .int), .long, (.array .long)], none⟩ := by decide +kernel
theorem pd___J : parseMethodDescriptor "()J" = some ⟨[], some .long⟩ := by decide +kernel
theorem pn_com_example_epochwise_epochwise_bench_TransactionDuePinLaw : plainName "com/example/epochwise/epochwise/bench/TransactionDuePinLaw" = true := by first | (simp [plainName, overriddenIn]; done) | decide +kernel
theorem ef_0 (m : MethodId) (q0_0 : Int64) (q0_1 : Int64) (q0_2 : Int64) (p0_3 : Int32) : entryFrame m #[(.long q0_0), (.long q0_1), (.long q0_2), (.int p0_3)] maxLocals = mkF m 0 #[.val (.long q0_0), .second, .val (.long q0_1), .second, .val (.long q0_2), .second, .val (.int p0_3), .unset, .unset, .unset, .unset, .unset, .unset] [] := by first | (simp [entryFrame, mkF, argsToLocals, Value.category, maxLocals]; done) | rfl
def Q0 (Z : State) (q0_0 : Int64) (q0_1 : Int64) (q0_2 : Int64) (p0_3 : Int32) (h0 : Heap) (n0 : Nat) (v : Option Value) (h : Heap) (L : List Loc) : Prop := v = some (.int (1 : Int32)) ∧ Fr n0 L
set_option maxRecDepth 65536 in
set_option maxHeartbeats 40000000 in
theorem rm0 (l : Launch) (Z : State) (a0 : Array Value) (hw : ∀ d ∈ tables_1, d.before a0 Z = true) (ws : List Jvm.Cond) (q0_0 : Int64) (q0_1 : Int64) (q0_2 : Int64) (p0_3 : Int32) (h0 : Heap) (n0 : Nat) (Z0 : n0 ≤ h0.size) :
    MetFree l x (head1 (Jvm.Cond.code x code maxLocals ret :: ws) room_1) (fun a U => a = #[(.long q0_0), (.long q0_1), (.long q0_2), (.int p0_3)] ∧ Z.Warmed39 U.vm ∧ U.heap = h0) (fun _ _ _ _ _ => True) (fun _ U o U' => ∃ v L, o = .returned v ∧ Q0 Z q0_0 q0_1 q0_2 p0_3 h0 n0 v U'.heap L ∧ FrameEnd U o U' L 16 128) := by
  refine MetFree.of_bodySF (plainFor_of_name pn_com_example_epochwise_epochwise_bench_TransactionDuePinLaw) hisR ?_
  intro p e s m args below meth c s₁ Bd hml0 hP hK
  obtain ⟨rfl, hZ, hh⟩ := hP
  have hx := Bd.exec
  have hby := Bd.bytes
  have hlk := Bd.notSynchronized
  have hret := Bd.returns
  have hml : c.maxLocals = 13 := hml0
  have hown : s.vm.findClass "com/example/epochwise/epochwise/bench/TransactionDuePinLaw" = some m.cls := findClass_of_methodNamed Bd.named
  have hnm := (name_of_methodNamed Bd.named Bd.method).1
  have X0 : Stand p l e room_1 s m #[(.long q0_0), (.long q0_1), (.long q0_2), (.int p0_3)] below meth c s₁ [] 0 0 := Stand.of_body Bd
  have e0 : s₁.heap = h0 := by rw [← hh, Bd.state]; rfl
  have N0 := Fr.nil n0
  have K0 : Keep h0 h0 [] := Keep.refl _ _
  show own_G p e below s (Q0 Z q0_0 q0_1 q0_2 p0_3 h0 n0) 16 128 s₁ (entryFrame m #[(.long q0_0), (.long q0_1), (.long q0_2), (.int p0_3)] maxLocals)
  have ww0 := hw _ (List.mem_of_getElem? (i := 0) rfl)
  have ww1 := hw _ (List.mem_of_getElem? (i := 1) rfl)
  have ww2 := hw _ (List.mem_of_getElem? (i := 2) rfl)
  have ww3 := hw _ (List.mem_of_getElem? (i := 3) rfl)
  have ww4 := hw _ (List.mem_of_getElem? (i := 4) rfl)
  have ww5 := hw _ (List.mem_of_getElem? (i := 5) rfl)
  have ww6 := hw _ (List.mem_of_getElem? (i := 6) rfl)
  have ww16 := hw _ (List.mem_of_getElem? (i := 16) rfl)
  have ww18 := hw _ (List.mem_of_getElem? (i := 18) rfl)
  have ww20 := hw _ (List.mem_of_getElem? (i := 20) rfl)
  have ww22 := hw _ (List.mem_of_getElem? (i := 22) rfl)
  have ww24 := hw _ (List.mem_of_getElem? (i := 24) rfl)
  have ww26 := hw _ (List.mem_of_getElem? (i := 26) rfl)
  have ww28 := hw _ (List.mem_of_getElem? (i := 28) rfl)
  have ww30 := hw _ (List.mem_of_getElem? (i := 30) rfl)
  have ww32 := hw _ (List.mem_of_getElem? (i := 32) rfl)
  have ww34 := hw _ (List.mem_of_getElem? (i := 34) rfl)
  have ww36 := hw _ (List.mem_of_getElem? (i := 36) rfl)
  have ww38 := hw _ (List.mem_of_getElem? (i := 38) rfl)
  have ww39 := hw _ (List.mem_of_getElem? (i := 39) rfl)
  have ww40 := hw _ (List.mem_of_getElem? (i := 40) rfl)
  have ww41 := hw _ (List.mem_of_getElem? (i := 41) rfl)
  have ww44 := hw _ (List.mem_of_getElem? (i := 44) rfl)
  have ww45 := hw _ (List.mem_of_getElem? (i := 45) rfl)
  have ww46 := hw _ (List.mem_of_getElem? (i := 46) rfl)
  have ww47 := hw _ (List.mem_of_getElem? (i := 47) rfl)
  have ww48 := hw _ (List.mem_of_getElem? (i := 48) rfl)
  have ww49 := hw _ (List.mem_of_getElem? (i := 49) rfl)
  refine own_cast (ef_0 m q0_0 q0_1 q0_2 p0_3) ?_
  refine own_s (g' := (mkF m 2 #[.val (.long q0_0), .second, .val (.long q0_1), .second, .val (.long q0_2), .second, .val (.int p0_3), .unset, .unset, .unset, .unset, .unset, .unset] [(.int p0_3)])) (fun _ k => XS.iload X0.here hx rfl (hb hby at_0) rfl k) ?_
  refine own_s (g' := (mkF m 3 #[.val (.long q0_0), .second, .val (.long q0_1), .second, .val (.long q0_2), .second, .val (.int p0_3), .unset, .unset, .unset, .unset, .unset, .unset] [(.int 1), (.int p0_3)])) (fun _ k => XS.iconst X0.here hx rfl (hb hby at_2) k) ?_
  refine own_s (g' := (mkF m 4 #[.val (.long q0_0), .second, .val (.long q0_1), .second, .val (.long q0_2), .second, .val (.int p0_3), .unset, .unset, .unset, .unset, .unset, .unset] [(.int (p0_3 &&& (1 : Int32)))])) (fun _ k => XS.iand X0.here hx rfl (hb hby at_3) rfl k) ?_
  by_cases c79 : (p0_3 &&& (1 : Int32)) = (0 : Int32)
  ·skip
   refine own_s (g' := (mkF m 13 #[.val (.long q0_0), .second, .val (.long q0_1), .second, .val (.long q0_2), .second, .val (.int p0_3), .unset, .unset, .unset, .unset, .unset, .unset] [])) (fun _ k => XS.ifYes X0.here hx rfl (pc0 := 4) (pc' := 13) rfl (hb hby at_4) rfl ((if0 _ _).trans (teq c79).1) (by decide) (by decide) k) ?_
   refine own_s (g' := (mkF m 14 #[.val (.long q0_0), .second, .val (.long q0_1), .second, .val (.long q0_2), .second, .val (.int p0_3), .unset, .unset, .unset, .unset, .unset, .unset] [(.long q0_0)])) (fun _ k => XS.lloadN X0.here hx rfl (hb hby at_13) rfl k) ?_
   refine own_s (g' := (mkF m 16 #[.val (.long q0_0), .second, .val (.long q0_1), .second, .val (.long q0_2), .second, .val (.int p0_3), .val (.long q0_0), .second, .unset, .unset, .unset, .unset] [])) (fun _ k => XS.lstore X0.here hx rfl (hb hby at_14) rfl (l' := #[.val (.long q0_0), .second, .val (.long q0_1), .second, .val (.long q0_2), .second, .val (.int p0_3), .val (.long q0_0), .second, .unset, .unset, .unset, .unset]) rfl k) ?_
   obtain ⟨T80, h80, X80, e80, E80, A80, D80, -, st80⟩ := newO X0 hx hZ hown ww0 ww1 ww2 e0 (g := (mkF m 16 #[.val (.long q0_0), .second, .val (.long q0_1), .second, .val (.long q0_2), .second, .val (.int p0_3), .val (.long q0_0), .second, .unset, .unset, .unset, .unset] [])) rfl (hb hby at_16) (by decide) (by decide)
   obtain ⟨b80, ga80⟩ : ∃ z, z = h0.size := ⟨_, rfl⟩
   rw [← ga80] at A80 D80 st80
   have g_b80 := Nat.le_trans Z0 (Nat.le_of_eq ga80.symm)
   have sz_b80 := Nat.le_trans K0.1 (Nat.le_of_eq ga80.symm)
   have f80_phase : Fld Z h80 b80 "com/example/epochwise/epochwise/bench/Transaction" "phase" "Lcom/example/epochwise/epochwise/bench/Transaction$Phase;" .null := D80 (Or.inr ww16) (ty := (.object "com/example/epochwise/epochwise/bench/Transaction$Phase")) (by decide +kernel)
   have f80_type : Fld Z h80 b80 "com/example/epochwise/epochwise/bench/Transaction" "type" "Lcom/example/epochwise/epochwise/bench/Transaction$Type;" .null := D80 (Or.inr ww18) (ty := (.object "com/example/epochwise/epochwise/bench/Transaction$Type")) (by decide +kernel)
   have f80_client : Fld Z h80 b80 "com/example/epochwise/epochwise/bench/Transaction" "client" "I" (.int 0) := D80 (Or.inr ww20) (ty := .int) (by decide +kernel)
   have f80_arrival : Fld Z h80 b80 "com/example/epochwise/epochwise/bench/Transaction" "arrival" "J" (.long 0) := D80 (Or.inr ww22) (ty := .long) (by decide +kernel)
   have f80_start : Fld Z h80 b80 "com/example/epochwise/epochwise/bench/Transaction" "start" "J" (.long 0) := D80 (Or.inr ww24) (ty := .long) (by decide +kernel)
   have f80_end : Fld Z h80 b80 "com/example/epochwise/epochwise/bench/Transaction" "end" "J" (.long 0) := D80 (Or.inr ww26) (ty := .long) (by decide +kernel)
   have f80_status : Fld Z h80 b80 "com/example/epochwise/epochwise/bench/Transaction" "status" "Lcom/example/epochwise/epochwise/bench/Transaction$Status;" .null := D80 (Or.inr ww28) (ty := (.object "com/example/epochwise/epochwise/bench/Transaction$Status")) (by decide +kernel)
   have f80_timestamp : Fld Z h80 b80 "com/example/epochwise/epochwise/bench/Transaction" "timestamp" "J" (.long 0) := D80 (Or.inr ww30) (ty := .long) (by decide +kernel)
   have f80_rounds : Fld Z h80 b80 "com/example/epochwise/epochwise/bench/Transaction" "rounds" "I" (.int 0) := D80 (Or.inr ww32) (ty := .int) (by decide +kernel)
   have f80_keys : Fld Z h80 b80 "com/example/epochwise/epochwise/bench/Transaction" "keys" "[I" .null := D80 (Or.inr ww34) (ty := (.array .int)) (by decide +kernel)
   have f80_value : Fld Z h80 b80 "com/example/epochwise/epochwise/bench/Transaction" "value" "J" (.long 0) := D80 (Or.inr ww36) (ty := .long) (by decide +kernel)
   have f80_values : Fld Z h80 b80 "com/example/epochwise/epochwise/bench/Transaction" "values" "[J" .null := D80 (Or.inr ww38) (ty := (.array .long)) (by decide +kernel)
   have K80 := K0.ext E80
   refine own_s (g' := (mkF m 19 #[.val (.long q0_0), .second, .val (.long q0_1), .second, .val (.long q0_2), .second, .val (.int p0_3), .val (.long q0_0), .second, .unset, .unset, .unset, .unset] [(.ref b80)])) st80 ?_
   refine own_s (g' := (mkF m 20 #[.val (.long q0_0), .second, .val (.long q0_1), .second, .val (.long q0_2), .second, .val (.int p0_3), .val (.long q0_0), .second, .unset, .unset, .unset, .unset] [(.ref b80), (.ref b80)])) (fun _ k => XS.dup X80.here hx rfl (hb hby at_19) rfl rfl k) ?_
   refine own_s (g' := (mkF m 21 #[.val (.long q0_0), .second, .val (.long q0_1), .second, .val (.long q0_2), .second, .val (.int p0_3), .val (.long q0_0), .second, .unset, .unset, .unset, .unset] [.null, (.ref b80), (.ref b80)])) (fun _ k => XS.aconstNull X80.here hx rfl (hb hby at_20) k) ?_
   refine own_s (g' := (mkF m 22 #[.val (.long q0_0), .second, .val (.long q0_1), .second, .val (.long q0_2), .second, .val (.int p0_3), .val (.long q0_0), .second, .unset, .unset, .unset, .unset] [.null, .null, (.ref b80), (.ref b80)])) (fun _ k => XS.aconstNull X80.here hx rfl (hb hby at_21) k) ?_
   refine own_s (g' := (mkF m 23 #[.val (.long q0_0), .second, .val (.long q0_1), .second, .val (.long q0_2), .second, .val (.int p0_3), .val (.long q0_0), .second, .unset, .unset, .unset, .unset] [(.int 0), .null, .null, (.ref b80), (.ref b80)])) (fun _ k => XS.iconst X80.here hx rfl (hb hby at_22) k) ?_
   refine own_s (g' := (mkF m 25 #[.val (.long q0_0), .second, .val (.long q0_1), .second, .val (.long q0_2), .second, .val (.int p0_3), .val (.long q0_0), .second, .unset, .unset, .unset, .unset] [(.long q0_0), (.int 0), .null, .null, (.ref b80), (.ref b80)])) (fun _ k => XS.lload X80.here hx rfl (hb hby at_23) rfl k) ?_
   refine own_s (g' := (mkF m 26 #[.val (.long q0_0), .second, .val (.long q0_1), .second, .val (.long q0_2), .second, .val (.int p0_3), .val (.long q0_0), .second, .unset, .unset, .unset, .unset] [(.long q0_1), (.long q0_0), (.int 0), .null, .null, (.ref b80), (.ref b80)])) (fun _ k => XS.lloadN X80.here hx rfl (hb hby at_25) rfl k) ?_
   refine own_s (g' := (mkF m 28 #[.val (.long q0_0), .second, .val (.long q0_1), .second, .val (.long q0_2), .second, .val (.int p0_3), .val (.long q0_0), .second, .unset, .unset, .unset, .unset] [(.long q0_2), (.long q0_1), (.long q0_0), (.int 0), .null, .null, (.ref b80), (.ref b80)])) (fun _ k => XS.lload X80.here hx rfl (hb hby at_26) rfl k) ?_
   refine own_s (g' := (mkF m 29 #[.val (.long q0_0), .second, .val (.long q0_1), .second, .val (.long q0_2), .second, .val (.int p0_3), .val (.long q0_0), .second, .unset, .unset, .unset, .unset] [.null, (.long q0_2), (.long q0_1), (.long q0_0), (.int 0), .null, .null, (.ref b80), (.ref b80)])) (fun _ k => XS.aconstNull X80.here hx rfl (hb hby at_28) k) ?_
   refine own_s (g' := (mkF m 30 #[.val (.long q0_0), .second, .val (.long q0_1), .second, .val (.long q0_2), .second, .val (.int p0_3), .val (.long q0_0), .second, .unset, .unset, .unset, .unset] [(.long 0), .null, (.long q0_2), (.long q0_1), (.long q0_0), (.int 0), .null, .null, (.ref b80), (.ref b80)])) (fun _ k => XS.lconst X80.here hx rfl (hb hby at_29) k) ?_
   refine own_s (g' := (mkF m 31 #[.val (.long q0_0), .second, .val (.long q0_1), .second, .val (.long q0_2), .second, .val (.int p0_3), .val (.long q0_0), .second, .unset, .unset, .unset, .unset] [(.int 0), (.long 0), .null, (.long q0_2), (.long q0_1), (.long q0_0), (.int 0), .null, .null, (.ref b80), (.ref b80)])) (fun _ k => XS.iconst X80.here hx rfl (hb hby at_30) k) ?_
   refine own_s (g' := (mkF m 32 #[.val (.long q0_0), .second, .val (.long q0_1), .second, .val (.long q0_2), .second, .val (.int p0_3), .val (.long q0_0), .second, .unset, .unset, .unset, .unset] [(.int 0), (.int 0), (.long 0), .null, (.long q0_2), (.long q0_1), (.long q0_0), (.int 0), .null, .null, (.ref b80), (.ref b80)])) (fun _ k => XS.iconst X80.here hx rfl (hb hby at_31) k) ?_
   obtain ⟨T81, h81, k81, X81, e81, E81, A81, st81⟩ := newP (aty := .int) X80 hx hZ ww3 e80 (g := (mkF m 32 #[.val (.long q0_0), .second, .val (.long q0_1), .second, .val (.long q0_2), .second, .val (.int p0_3), .val (.long q0_0), .second, .unset, .unset, .unset, .unset] [(.int 0), (.int 0), (.long 0), .null, (.long q0_2), (.long q0_1), (.long q0_0), (.int 0), .null, .null, (.ref b80), (.ref b80)])) rfl (hb hby at_32) rfl (by decide) (cap := 0) (by decide) (by decide) (by decide) (by decide)
   obtain ⟨b81, ga81⟩ : ∃ z, z = h80.size := ⟨_, rfl⟩
   rw [← ga81] at A81 st81
   have g_b81 := Nat.le_trans (Nat.le_trans Z0 K80.1) (Nat.le_of_eq ga81.symm)
   have sz_b81 := Nat.le_trans K80.1 (Nat.le_of_eq ga81.symm)
   have V81 : Arv Z h81 b81 k81 .int (0 : Int32) [] (.int 0) := (Arv.new A81 (by decide)).pad (pad_rep [] (.int 0) 0)
   have K81 := K80.ext E81
   refine own_s (g' := (mkF m 34 #[.val (.long q0_0), .second, .val (.long q0_1), .second, .val (.long q0_2), .second, .val (.int p0_3), .val (.long q0_0), .second, .unset, .unset, .unset, .unset] [(.ref b81), (.int 0), (.long 0), .null, (.long q0_2), (.long q0_1), (.long q0_0), (.int 0), .null, .null, (.ref b80), (.ref b80)])) st81 ?_
   refine own_s (g' := (mkF m 35 #[.val (.long q0_0), .second, .val (.long q0_1), .second, .val (.long q0_2), .second, .val (.int p0_3), .val (.long q0_0), .second, .unset, .unset, .unset, .unset] [(.long 0), (.ref b81), (.int 0), (.long 0), .null, (.long q0_2), (.long q0_1), (.long q0_0), (.int 0), .null, .null, (.ref b80), (.ref b80)])) (fun _ k => XS.lconst X81.here hx rfl (hb hby at_34) k) ?_
   refine own_s (g' := (mkF m 36 #[.val (.long q0_0), .second, .val (.long q0_1), .second, .val (.long q0_2), .second, .val (.int p0_3), .val (.long q0_0), .second, .unset, .unset, .unset, .unset] [.null, (.long 0), (.ref b81), (.int 0), (.long 0), .null, (.long q0_2), (.long q0_1), (.long q0_0), (.int 0), .null, .null, (.ref b80), (.ref b80)])) (fun _ k => XS.aconstNull X81.here hx rfl (hb hby at_35) k) ?_
   have f83 := (f80_phase.ext E81)
   have f84 := (f80_type.ext E81)
   have f85 := (f80_client.ext E81)
   have f86 := (f80_arrival.ext E81)
   have f87 := (f80_start.ext E81)
   have f88 := (f80_end.ext E81)
   have f89 := (f80_status.ext E81)
   have f90 := (f80_timestamp.ext E81)
   have f91 := (f80_rounds.ext E81)
   have f92 := (f80_keys.ext E81)
   have f93 := (f80_value.ext E81)
   have f94 := (f80_values.ext E81)
   have f95 := (A80.ext E81)
   obtain ⟨_, _, ⟨T82, L82, k82, n82⟩, -, X82, ⟨Lc82, hQ82, l82, y82, z82⟩, st82⟩ := X81.specialBack hx (y := (⟨"com/example/epochwise/epochwise/bench/Transaction", "<init>", "(Lcom/example/epochwise/epochwise/bench/Transaction$Phase;Lcom/example/epochwise/epochwise/bench/Transaction$Type;IJJJLcom/example/epochwise/epochwise/bench/Transaction$Status;JI[IJ[J)V"⟩ : MethodName)) rfl hown (mvT hZ ww4) (mvT hZ ww5) (mvT hZ ww6) (by decide) (backOf (W := 1) (rm1 l Z a0 hw [] b80 (0 : Int32) q0_0 q0_1 q0_2 (0 : Int64) (0 : Int32) b81 (0 : Int64) (0 : Int32) (0 : Int64) (0 : Int64) (0 : Int64) (0 : Int64) (0 : Int32) (0 : Int64) h81 n0 (Nat.le_trans Z0 K81.1) f83 f84 f85 f86 f87 f88 f89 f90 f91 f92 f93 f94 f95 g_b80) hZ ww6 ww2 (by decide) (by decide)) (g := (mkF m 36 #[.val (.long q0_0), .second, .val (.long q0_1), .second, .val (.long q0_2), .second, .val (.int p0_3), .val (.long q0_0), .second, .unset, .unset, .unset, .unset] [.null, (.long 0), (.ref b81), (.int 0), (.long 0), .null, (.long q0_2), (.long q0_1), (.long q0_0), (.int 0), .null, .null, (.ref b80), (.ref b80)])) rfl (by rw [hml]; rfl) (Steps.refl _) (a := b80) (argsL := [.null, .null, (.int 0), (.long q0_0), (.long q0_1), (.long q0_2), .null, (.long 0), (.int 0), (.ref b81), (.long 0), .null]) (rest := [(.ref b80)]) (lenOf pd__Lcom_example_epochwise_epochwise_bench_Transaction_Phase_Lcom_example_epochwise_epochwise_bench_Transaction_Type_IJJJLcom_example_epochwise_epochwise_bench_Transaction_Status_JI_IJ_J_V rfl) rfl (by show 2 * 0 + _ ≤ _; exact Nat.le_of_eq rfl) (hb hby at_36) (fun _ _ => ⟨rfl, e81, (by decide : 2 + 0 ≤ _), (by decide : 12 + 0 ≤ _)⟩)
   dsimp only [Pt.U, Pt.locs, Pt.cells, Pt.slots] at X82 l82 y82 z82 st82 hQ82
   subst l82 y82 z82
   obtain ⟨rfl, N82q, K82q, f96, f97, f98, f99, f100, f101, f102, f103, f104, f105, f106, f107, f108⟩ := hQ82
   have K82 := K81.trans K82q (allS (Or.inr sz_b80) all0)
   have N82 := Fr.app N0 N82q
   refine own_trans (g' := (mkF m 39 #[.val (.long q0_0), .second, .val (.long q0_1), .second, .val (.long q0_2), .second, .val (.int p0_3), .val (.long q0_0), .second, .unset, .unset, .unset, .unset] [(.ref b80)])) st82 ?_
   refine own_s (g' := (mkF m 41 #[.val (.long q0_0), .second, .val (.long q0_1), .second, .val (.long q0_2), .second, .val (.int p0_3), .val (.long q0_0), .second, .val (.ref b80), .unset, .unset, .unset] [])) (fun _ k => XS.astore X82.here hx rfl (hb hby at_39) rfl rfl (l' := #[.val (.long q0_0), .second, .val (.long q0_1), .second, .val (.long q0_2), .second, .val (.int p0_3), .val (.long q0_0), .second, .val (.ref b80), .unset, .unset, .unset]) rfl k) ?_
   obtain ⟨T109, h109, X109, e109, E109, A109, D109, -, st109⟩ := newO X82 hx hZ hown ww0 ww1 ww2 rfl (g := (mkF m 41 #[.val (.long q0_0), .second, .val (.long q0_1), .second, .val (.long q0_2), .second, .val (.int p0_3), .val (.long q0_0), .second, .val (.ref b80), .unset, .unset, .unset] [])) rfl (hb hby at_41) (by decide) (by decide)
   obtain ⟨b109, ga109⟩ : ∃ z, z = T82.heap.size := ⟨_, rfl⟩
   rw [← ga109] at A109 D109 st109
   have g_b109 := Nat.le_trans (Nat.le_trans Z0 K82.1) (Nat.le_of_eq ga109.symm)
   have sz_b109 := Nat.le_trans K82.1 (Nat.le_of_eq ga109.symm)
   have f109_phase : Fld Z h109 b109 "com/example/epochwise/epochwise/bench/Transaction" "phase" "Lcom/example/epochwise/epochwise/bench/Transaction$Phase;" .null := D109 (Or.inr ww16) (ty := (.object "com/example/epochwise/epochwise/bench/Transaction$Phase")) (by decide +kernel)
   have f109_type : Fld Z h109 b109 "com/example/epochwise/epochwise/bench/Transaction" "type" "Lcom/example/epochwise/epochwise/bench/Transaction$Type;" .null := D109 (Or.inr ww18) (ty := (.object "com/example/epochwise/epochwise/bench/Transaction$Type")) (by decide +kernel)
   have f109_client : Fld Z h109 b109 "com/example/epochwise/epochwise/bench/Transaction" "client" "I" (.int 0) := D109 (Or.inr ww20) (ty := .int) (by decide +kernel)
   have f109_arrival : Fld Z h109 b109 "com/example/epochwise/epochwise/bench/Transaction" "arrival" "J" (.long 0) := D109 (Or.inr ww22) (ty := .long) (by decide +kernel)
   have f109_start : Fld Z h109 b109 "com/example/epochwise/epochwise/bench/Transaction" "start" "J" (.long 0) := D109 (Or.inr ww24) (ty := .long) (by decide +kernel)
   have f109_end : Fld Z h109 b109 "com/example/epochwise/epochwise/bench/Transaction" "end" "J" (.long 0) := D109 (Or.inr ww26) (ty := .long) (by decide +kernel)
   have f109_status : Fld Z h109 b109 "com/example/epochwise/epochwise/bench/Transaction" "status" "Lcom/example/epochwise/epochwise/bench/Transaction$Status;" .null := D109 (Or.inr ww28) (ty := (.object "com/example/epochwise/epochwise/bench/Transaction$Status")) (by decide +kernel)
   have f109_timestamp : Fld Z h109 b109 "com/example/epochwise/epochwise/bench/Transaction" "timestamp" "J" (.long 0) := D109 (Or.inr ww30) (ty := .long) (by decide +kernel)
   have f109_rounds : Fld Z h109 b109 "com/example/epochwise/epochwise/bench/Transaction" "rounds" "I" (.int 0) := D109 (Or.inr ww32) (ty := .int) (by decide +kernel)
   have f109_keys : Fld Z h109 b109 "com/example/epochwise/epochwise/bench/Transaction" "keys" "[I" .null := D109 (Or.inr ww34) (ty := (.array .int)) (by decide +kernel)
   have f109_value : Fld Z h109 b109 "com/example/epochwise/epochwise/bench/Transaction" "value" "J" (.long 0) := D109 (Or.inr ww36) (ty := .long) (by decide +kernel)
   have f109_values : Fld Z h109 b109 "com/example/epochwise/epochwise/bench/Transaction" "values" "[J" .null := D109 (Or.inr ww38) (ty := (.array .long)) (by decide +kernel)
   have K109 := K82.ext E109
   refine own_s (g' := (mkF m 44 #[.val (.long q0_0), .second, .val (.long q0_1), .second, .val (.long q0_2), .second, .val (.int p0_3), .val (.long q0_0), .second, .val (.ref b80), .unset, .unset, .unset] [(.ref b109)])) st109 ?_
   refine own_s (g' := (mkF m 45 #[.val (.long q0_0), .second, .val (.long q0_1), .second, .val (.long q0_2), .second, .val (.int p0_3), .val (.long q0_0), .second, .val (.ref b80), .unset, .unset, .unset] [(.ref b109), (.ref b109)])) (fun _ k => XS.dup X109.here hx rfl (hb hby at_44) rfl rfl k) ?_
   refine own_s (g' := (mkF m 46 #[.val (.long q0_0), .second, .val (.long q0_1), .second, .val (.long q0_2), .second, .val (.int p0_3), .val (.long q0_0), .second, .val (.ref b80), .unset, .unset, .unset] [.null, (.ref b109), (.ref b109)])) (fun _ k => XS.aconstNull X109.here hx rfl (hb hby at_45) k) ?_
   refine own_s (g' := (mkF m 47 #[.val (.long q0_0), .second, .val (.long q0_1), .second, .val (.long q0_2), .second, .val (.int p0_3), .val (.long q0_0), .second, .val (.ref b80), .unset, .unset, .unset] [.null, .null, (.ref b109), (.ref b109)])) (fun _ k => XS.aconstNull X109.here hx rfl (hb hby at_46) k) ?_
   refine own_s (g' := (mkF m 48 #[.val (.long q0_0), .second, .val (.long q0_1), .second, .val (.long q0_2), .second, .val (.int p0_3), .val (.long q0_0), .second, .val (.ref b80), .unset, .unset, .unset] [(.int 1), .null, .null, (.ref b109), (.ref b109)])) (fun _ k => XS.iconst X109.here hx rfl (hb hby at_47) k) ?_
   refine own_s (g' := (mkF m 49 #[.val (.long q0_0), .second, .val (.long q0_1), .second, .val (.long q0_2), .second, .val (.int p0_3), .val (.long q0_0), .second, .val (.ref b80), .unset, .unset, .unset] [(.long q0_1), (.int 1), .null, .null, (.ref b109), (.ref b109)])) (fun _ k => XS.lloadN X109.here hx rfl (hb hby at_48) rfl k) ?_
   refine own_s (g' := (mkF m 51 #[.val (.long q0_0), .second, .val (.long q0_1), .second, .val (.long q0_2), .second, .val (.int p0_3), .val (.long q0_0), .second, .val (.ref b80), .unset, .unset, .unset] [(.long q0_2), (.long q0_1), (.int 1), .null, .null, (.ref b109), (.ref b109)])) (fun _ k => XS.lload X109.here hx rfl (hb hby at_49) rfl k) ?_
   refine own_s (g' := (mkF m 52 #[.val (.long q0_0), .second, .val (.long q0_1), .second, .val (.long q0_2), .second, .val (.int p0_3), .val (.long q0_0), .second, .val (.ref b80), .unset, .unset, .unset] [.null, (.long q0_2), (.long q0_1), (.int 1), .null, .null, (.ref b109), (.ref b109)])) (fun _ k => XS.aconstNull X109.here hx rfl (hb hby at_51) k) ?_
   refine own_s (g' := (mkF m 53 #[.val (.long q0_0), .second, .val (.long q0_1), .second, .val (.long q0_2), .second, .val (.int p0_3), .val (.long q0_0), .second, .val (.ref b80), .unset, .unset, .unset] [(.long 0), .null, (.long q0_2), (.long q0_1), (.int 1), .null, .null, (.ref b109), (.ref b109)])) (fun _ k => XS.lconst X109.here hx rfl (hb hby at_52) k) ?_
   refine own_s (g' := (mkF m 54 #[.val (.long q0_0), .second, .val (.long q0_1), .second, .val (.long q0_2), .second, .val (.int p0_3), .val (.long q0_0), .second, .val (.ref b80), .unset, .unset, .unset] [(.int 0), (.long 0), .null, (.long q0_2), (.long q0_1), (.int 1), .null, .null, (.ref b109), (.ref b109)])) (fun _ k => XS.iconst X109.here hx rfl (hb hby at_53) k) ?_
   refine own_s (g' := (mkF m 55 #[.val (.long q0_0), .second, .val (.long q0_1), .second, .val (.long q0_2), .second, .val (.int p0_3), .val (.long q0_0), .second, .val (.ref b80), .unset, .unset, .unset] [(.int 0), (.int 0), (.long 0), .null, (.long q0_2), (.long q0_1), (.int 1), .null, .null, (.ref b109), (.ref b109)])) (fun _ k => XS.iconst X109.here hx rfl (hb hby at_54) k) ?_
   obtain ⟨T110, h110, k110, X110, e110, E110, A110, st110⟩ := newP (aty := .int) X109 hx hZ ww3 e109 (g := (mkF m 55 #[.val (.long q0_0), .second, .val (.long q0_1), .second, .val (.long q0_2), .second, .val (.int p0_3), .val (.long q0_0), .second, .val (.ref b80), .unset, .unset, .unset] [(.int 0), (.int 0), (.long 0), .null, (.long q0_2), (.long q0_1), (.int 1), .null, .null, (.ref b109), (.ref b109)])) rfl (hb hby at_55) rfl (by decide) (cap := 0) (by decide) (by decide) (by decide) (by decide)
   obtain ⟨b110, ga110⟩ : ∃ z, z = h109.size := ⟨_, rfl⟩
   rw [← ga110] at A110 st110
   have g_b110 := Nat.le_trans (Nat.le_trans Z0 K109.1) (Nat.le_of_eq ga110.symm)
   have sz_b110 := Nat.le_trans K109.1 (Nat.le_of_eq ga110.symm)
   have V110 : Arv Z h110 b110 k110 .int (0 : Int32) [] (.int 0) := (Arv.new A110 (by decide)).pad (pad_rep [] (.int 0) 0)
   have K110 := K109.ext E110
   refine own_s (g' := (mkF m 57 #[.val (.long q0_0), .second, .val (.long q0_1), .second, .val (.long q0_2), .second, .val (.int p0_3), .val (.long q0_0), .second, .val (.ref b80), .unset, .unset, .unset] [(.ref b110), (.int 0), (.long 0), .null, (.long q0_2), (.long q0_1), (.int 1), .null, .null, (.ref b109), (.ref b109)])) st110 ?_
   refine own_s (g' := (mkF m 58 #[.val (.long q0_0), .second, .val (.long q0_1), .second, .val (.long q0_2), .second, .val (.int p0_3), .val (.long q0_0), .second, .val (.ref b80), .unset, .unset, .unset] [(.long 1), (.ref b110), (.int 0), (.long 0), .null, (.long q0_2), (.long q0_1), (.int 1), .null, .null, (.ref b109), (.ref b109)])) (fun _ k => XS.lconst X110.here hx rfl (hb hby at_57) k) ?_
   refine own_s (g' := (mkF m 59 #[.val (.long q0_0), .second, .val (.long q0_1), .second, .val (.long q0_2), .second, .val (.int p0_3), .val (.long q0_0), .second, .val (.ref b80), .unset, .unset, .unset] [.null, (.long 1), (.ref b110), (.int 0), (.long 0), .null, (.long q0_2), (.long q0_1), (.int 1), .null, .null, (.ref b109), (.ref b109)])) (fun _ k => XS.aconstNull X110.here hx rfl (hb hby at_58) k) ?_
   have f112 := (f109_phase.ext E110)
   have f113 := (f109_type.ext E110)
   have f114 := (f109_client.ext E110)
   have f115 := (f109_arrival.ext E110)
   have f116 := (f109_start.ext E110)
   have f117 := (f109_end.ext E110)
   have f118 := (f109_status.ext E110)
   have f119 := (f109_timestamp.ext E110)
   have f120 := (f109_rounds.ext E110)
   have f121 := (f109_keys.ext E110)
   have f122 := (f109_value.ext E110)
   have f123 := (f109_values.ext E110)
   have f124 := (A109.ext E110)
   obtain ⟨_, _, ⟨T111, L111, k111, n111⟩, -, X111, ⟨Lc111, hQ111, l111, y111, z111⟩, st111⟩ := X110.specialBack hx (y := (⟨"com/example/epochwise/epochwise/bench/Transaction", "<init>", "(Lcom/example/epochwise/epochwise/bench/Transaction$Phase;Lcom/example/epochwise/epochwise/bench/Transaction$Type;IJJLcom/example/epochwise/epochwise/bench/Transaction$Status;JI[IJ[J)V"⟩ : MethodName)) rfl hown (mvT hZ ww39) (mvT hZ ww40) (mvT hZ ww41) (by decide) (backOf (W := 1) (rm4 l Z a0 hw [] b109 (1 : Int32) q0_1 q0_2 (0 : Int64) (0 : Int32) b110 (1 : Int64) (0 : Int32) (0 : Int64) (0 : Int64) (0 : Int64) (0 : Int64) (0 : Int32) (0 : Int64) h110 n0 (Nat.le_trans Z0 K110.1) f112 f113 f114 f115 f116 f117 f118 f119 f120 f121 f122 f123 f124 g_b109) hZ ww41 ww2 (by decide) (by decide)) (g := (mkF m 59 #[.val (.long q0_0), .second, .val (.long q0_1), .second, .val (.long q0_2), .second, .val (.int p0_3), .val (.long q0_0), .second, .val (.ref b80), .unset, .unset, .unset] [.null, (.long 1), (.ref b110), (.int 0), (.long 0), .null, (.long q0_2), (.long q0_1), (.int 1), .null, .null, (.ref b109), (.ref b109)])) rfl (by rw [hml]; rfl) (Steps.refl _) (a := b109) (argsL := [.null, .null, (.int 1), (.long q0_1), (.long q0_2), .null, (.long 0), (.int 0), (.ref b110), (.long 1), .null]) (rest := [(.ref b109)]) (lenOf pd__Lcom_example_epochwise_epochwise_bench_Transaction_Phase_Lcom_example_epochwise_epochwise_bench_Transaction_Type_IJJLcom_example_epochwise_epochwise_bench_Transaction_Status_JI_IJ_J_V rfl) rfl (by show 2 * 0 + _ ≤ _; exact Nat.le_of_eq rfl) (hb hby at_59) (fun _ _ => ⟨rfl, e110, (by decide : 4 + 0 ≤ _), (by decide : 24 + 0 ≤ _)⟩)
   dsimp only [Pt.U, Pt.locs, Pt.cells, Pt.slots] at X111 l111 y111 z111 st111 hQ111
   subst l111 y111 z111
   obtain ⟨rfl, N111q, K111q, f125, f126, f127, f128, f129, f130, f131, f132, f133, f134, f135, f136, f137⟩ := hQ111
   have K111 := K110.trans K111q (allS (Or.inr sz_b109) all0)
   have N111 := Fr.app N82 N111q
   refine own_trans (g' := (mkF m 62 #[.val (.long q0_0), .second, .val (.long q0_1), .second, .val (.long q0_2), .second, .val (.int p0_3), .val (.long q0_0), .second, .val (.ref b80), .unset, .unset, .unset] [(.ref b109)])) st111 ?_
   refine own_s (g' := (mkF m 64 #[.val (.long q0_0), .second, .val (.long q0_1), .second, .val (.long q0_2), .second, .val (.int p0_3), .val (.long q0_0), .second, .val (.ref b80), .val (.ref b109), .unset, .unset] [])) (fun _ k => XS.astore X111.here hx rfl (hb hby at_62) rfl rfl (l' := #[.val (.long q0_0), .second, .val (.long q0_1), .second, .val (.long q0_2), .second, .val (.int p0_3), .val (.long q0_0), .second, .val (.ref b80), .val (.ref b109), .unset, .unset]) rfl k) ?_
   refine own_s (g' := (mkF m 66 #[.val (.long q0_0), .second, .val (.long q0_1), .second, .val (.long q0_2), .second, .val (.int p0_3), .val (.long q0_0), .second, .val (.ref b80), .val (.ref b109), .unset, .unset] [(.ref b109)])) (fun _ k => XS.aload X111.here hx rfl (hb hby at_64) rfl rfl k) ?_
   obtain ⟨cq138, kq138, q138a, q138b, q138c⟩ := isOf hZ rfl f125
   obtain ⟨_, _, ⟨T138, L138, k138, n138⟩, -, X138, ⟨Lc138, hQ138, l138, y138, z138⟩, st138⟩ := X111.virtualBack hx (y := (⟨"com/example/epochwise/epochwise/bench/Transaction", "due", "()J"⟩ : MethodName)) (z := (⟨"com/example/epochwise/epochwise/bench/Transaction", "due", "()J"⟩ : MethodName)) hown (mvT hZ ww44) (mvT hZ ww45) (notFace_of_selects (args := #[]) (mvT hZ ww47)) (mvT hZ ww47) (mvT hZ ww46) (by decide) (backOf (W := 0) (rm5 l Z a0 hw [] b109 (-1 : Int64) q0_1 T111.heap n0 (Nat.le_trans Z0 K111.1) f129 f130) hZ ww48 ww2 (by decide) (by decide)) q138a q138c (g := (mkF m 66 #[.val (.long q0_0), .second, .val (.long q0_1), .second, .val (.long q0_2), .second, .val (.int p0_3), .val (.long q0_0), .second, .val (.ref b80), .val (.ref b109), .unset, .unset] [(.ref b109)])) rfl (by rw [hml]; rfl) (Steps.refl _) (argsL := []) (rest := []) (lenOf pd___J rfl) rfl (by show 2 * 0 + _ ≤ _; exact Nat.le_of_eq rfl) (hb hby at_66) (fun _ _ => ⟨rfl, rfl, (by decide : 4 + 0 ≤ _), (by decide : 24 + 0 ≤ _)⟩)
   dsimp only [Pt.U, Pt.locs, Pt.cells, Pt.slots] at X138 l138 y138 z138 st138 hQ138
   subst l138 y138 z138
   obtain ⟨rfl, N138q, eh138⟩ := hQ138
   have N138 := Fr.app N111 N138q
   refine own_trans (g' := (mkF m 69 #[.val (.long q0_0), .second, .val (.long q0_1), .second, .val (.long q0_2), .second, .val (.int p0_3), .val (.long q0_0), .second, .val (.ref b80), .val (.ref b109), .unset, .unset] [(.long (r5 (-1 : Int64) q0_1))])) st138 ?_
   rw [show (r5 (-1 : Int64) q0_1) = q0_1 from (if_pos ((by decide) : (-1 : Int64) = (-1 : Int64)))]
   refine own_s (g' := (mkF m 70 #[.val (.long q0_0), .second, .val (.long q0_1), .second, .val (.long q0_2), .second, .val (.int p0_3), .val (.long q0_0), .second, .val (.ref b80), .val (.ref b109), .unset, .unset] [(.long q0_1), (.long q0_1)])) (fun _ k => XS.lloadN X138.here hx rfl (hb hby at_69) rfl k) ?_
   refine own_s (g' := (mkF m 71 #[.val (.long q0_0), .second, .val (.long q0_1), .second, .val (.long q0_2), .second, .val (.int p0_3), .val (.long q0_0), .second, .val (.ref b80), .val (.ref b109), .unset, .unset] [(.int (lcmpW q0_1 q0_1))])) (fun _ k => XS.lcmp X138.here hx rfl (hb hby at_70) rfl k) ?_
   refine own_s (g' := (mkF m 74 #[.val (.long q0_0), .second, .val (.long q0_1), .second, .val (.long q0_2), .second, .val (.int p0_3), .val (.long q0_0), .second, .val (.ref b80), .val (.ref b109), .unset, .unset] [])) (fun _ k => XS.ifNo X138.here hx rfl (hb hby at_71) rfl ((if0 _ _).trans (teq ((lw_eq q0_1 q0_1).mpr rfl)).2) k) ?_
   refine own_s (g' := (mkF m 75 #[.val (.long q0_0), .second, .val (.long q0_1), .second, .val (.long q0_2), .second, .val (.int p0_3), .val (.long q0_0), .second, .val (.ref b80), .val (.ref b109), .unset, .unset] [(.int 1)])) (fun _ k => XS.iconst X138.here hx rfl (hb hby at_74) k) ?_
   refine own_s (g' := (mkF m 79 #[.val (.long q0_0), .second, .val (.long q0_1), .second, .val (.long q0_2), .second, .val (.int p0_3), .val (.long q0_0), .second, .val (.ref b80), .val (.ref b109), .unset, .unset] [(.int 1)])) (fun _ k => XS.goto X138.here hx rfl (pc0 := 75) (pc' := 79) rfl (hb hby at_75) (by decide) (by decide) k) ?_
   refine own_s (g' := (mkF m 81 #[.val (.long q0_0), .second, .val (.long q0_1), .second, .val (.long q0_2), .second, .val (.int p0_3), .val (.long q0_0), .second, .val (.ref b80), .val (.ref b109), .val (.int 1), .unset] [])) (fun _ k => XS.istore X138.here hx rfl (hb hby at_79) rfl (l' := #[.val (.long q0_0), .second, .val (.long q0_1), .second, .val (.long q0_2), .second, .val (.int p0_3), .val (.long q0_0), .second, .val (.ref b80), .val (.ref b109), .val (.int 1), .unset]) rfl k) ?_
   refine own_s (g' := (mkF m 83 #[.val (.long q0_0), .second, .val (.long q0_1), .second, .val (.long q0_2), .second, .val (.int p0_3), .val (.long q0_0), .second, .val (.ref b80), .val (.ref b109), .val (.int 1), .unset] [(.long q0_0)])) (fun _ k => XS.lload X138.here hx rfl (hb hby at_81) rfl k) ?_
   refine own_s (g' := (mkF m 86 #[.val (.long q0_0), .second, .val (.long q0_1), .second, .val (.long q0_2), .second, .val (.int p0_3), .val (.long q0_0), .second, .val (.ref b80), .val (.ref b109), .val (.int 1), .unset] [(.long (-1)), (.long q0_0)])) (X138.ldc2Long hx hown (mvT hZ ww49) (g := (mkF m 83 #[.val (.long q0_0), .second, .val (.long q0_1), .second, .val (.long q0_2), .second, .val (.int p0_3), .val (.long q0_0), .second, .val (.ref b80), .val (.ref b109), .val (.int 1), .unset] [(.long q0_0)])) rfl (hb hby at_83)) ?_
   refine own_s (g' := (mkF m 87 #[.val (.long q0_0), .second, .val (.long q0_1), .second, .val (.long q0_2), .second, .val (.int p0_3), .val (.long q0_0), .second, .val (.ref b80), .val (.ref b109), .val (.int 1), .unset] [(.int (lcmpW q0_0 (-1 : Int64)))])) (fun _ k => XS.lcmp X138.here hx rfl (hb hby at_86) rfl k) ?_
   by_cases c139 : q0_0 = (-1 : Int64)
   ·skip
    refine own_s (g' := (mkF m 90 #[.val (.long q0_0), .second, .val (.long q0_1), .second, .val (.long q0_2), .second, .val (.int p0_3), .val (.long q0_0), .second, .val (.ref b80), .val (.ref b109), .val (.int 1), .unset] [])) (fun _ k => XS.ifNo X138.here hx rfl (hb hby at_87) rfl ((if0 _ _).trans (teq ((lw_eq q0_0 (-1 : Int64)).mpr c139)).2) k) ?_
    refine own_s (g' := (mkF m 92 #[.val (.long q0_0), .second, .val (.long q0_1), .second, .val (.long q0_2), .second, .val (.int p0_3), .val (.long q0_0), .second, .val (.ref b80), .val (.ref b109), .val (.int 1), .unset] [(.ref b80)])) (fun _ k => XS.aload X138.here hx rfl (hb hby at_90) rfl rfl k) ?_
    have ne141 : b80 ≠ b109 := Nat.ne_of_lt (Nat.lt_of_lt_of_le f96.lt (Nat.le_of_eq ga109.symm))
    have f142 := (((f100.ext E109).ext E110).keep K111q (ninS ne141 nin0))
    have f143 := (((f101.ext E109).ext E110).keep K111q (ninS ne141 nin0))
    have f144 := (((f96.ext E109).ext E110).keep K111q)
    obtain ⟨cq140, kq140, q140a, q140b, q140c⟩ := isOf hZ eh138 f144
    obtain ⟨_, _, ⟨T140, L140, k140, n140⟩, -, X140, ⟨Lc140, hQ140, l140, y140, z140⟩, st140⟩ := X138.virtualBack hx (y := (⟨"com/example/epochwise/epochwise/bench/Transaction", "due", "()J"⟩ : MethodName)) (z := (⟨"com/example/epochwise/epochwise/bench/Transaction", "due", "()J"⟩ : MethodName)) hown (mvT hZ ww44) (mvT hZ ww45) (notFace_of_selects (args := #[]) (mvT hZ ww47)) (mvT hZ ww47) (mvT hZ ww46) (by decide) (backOf (W := 0) (rm5 l Z a0 hw [] b80 q0_0 q0_1 T111.heap n0 (Nat.le_trans Z0 K111.1) f142 f143) hZ ww48 ww2 (by decide) (by decide)) q140a q140c (g := (mkF m 92 #[.val (.long q0_0), .second, .val (.long q0_1), .second, .val (.long q0_2), .second, .val (.int p0_3), .val (.long q0_0), .second, .val (.ref b80), .val (.ref b109), .val (.int 1), .unset] [(.ref b80)])) rfl (by rw [hml]; rfl) (Steps.refl _) (argsL := []) (rest := []) (lenOf pd___J rfl) rfl (by show 2 * 0 + _ ≤ _; exact Nat.le_of_eq rfl) (hb hby at_92) (fun _ _ => ⟨rfl, eh138, (by decide : 4 + 0 ≤ _), (by decide : 24 + 0 ≤ _)⟩)
    dsimp only [Pt.U, Pt.locs, Pt.cells, Pt.slots] at X140 l140 y140 z140 st140 hQ140
    subst l140 y140 z140
    obtain ⟨rfl, N140q, eh140⟩ := hQ140
    have N140 := Fr.app N138 N140q
    refine own_trans (g' := (mkF m 95 #[.val (.long q0_0), .second, .val (.long q0_1), .second, .val (.long q0_2), .second, .val (.int p0_3), .val (.long q0_0), .second, .val (.ref b80), .val (.ref b109), .val (.int 1), .unset] [(.long (r5 q0_0 q0_1))])) st140 ?_
    rw [show (r5 q0_0 q0_1) = q0_1 from (if_pos c139)]
    refine own_s (g' := (mkF m 96 #[.val (.long q0_0), .second, .val (.long q0_1), .second, .val (.long q0_2), .second, .val (.int p0_3), .val (.long q0_0), .second, .val (.ref b80), .val (.ref b109), .val (.int 1), .unset] [(.long q0_1), (.long q0_1)])) (fun _ k => XS.lloadN X140.here hx rfl (hb hby at_95) rfl k) ?_
    refine own_s (g' := (mkF m 97 #[.val (.long q0_0), .second, .val (.long q0_1), .second, .val (.long q0_2), .second, .val (.int p0_3), .val (.long q0_0), .second, .val (.ref b80), .val (.ref b109), .val (.int 1), .unset] [(.int (lcmpW q0_1 q0_1))])) (fun _ k => XS.lcmp X140.here hx rfl (hb hby at_96) rfl k) ?_
    refine own_s (g' := (mkF m 100 #[.val (.long q0_0), .second, .val (.long q0_1), .second, .val (.long q0_2), .second, .val (.int p0_3), .val (.long q0_0), .second, .val (.ref b80), .val (.ref b109), .val (.int 1), .unset] [])) (fun _ k => XS.ifNo X140.here hx rfl (hb hby at_97) rfl ((if0 _ _).trans (teq ((lw_eq q0_1 q0_1).mpr rfl)).2) k) ?_
    refine own_s (g' := (mkF m 101 #[.val (.long q0_0), .second, .val (.long q0_1), .second, .val (.long q0_2), .second, .val (.int p0_3), .val (.long q0_0), .second, .val (.ref b80), .val (.ref b109), .val (.int 1), .unset] [(.int 1)])) (fun _ k => XS.iconst X140.here hx rfl (hb hby at_100) k) ?_
    refine own_s (g' := (mkF m 105 #[.val (.long q0_0), .second, .val (.long q0_1), .second, .val (.long q0_2), .second, .val (.int p0_3), .val (.long q0_0), .second, .val (.ref b80), .val (.ref b109), .val (.int 1), .unset] [(.int 1)])) (fun _ k => XS.goto X140.here hx rfl (pc0 := 101) (pc' := 105) rfl (hb hby at_101) (by decide) (by decide) k) ?_
    refine own_s (g' := (mkF m 107 #[.val (.long q0_0), .second, .val (.long q0_1), .second, .val (.long q0_2), .second, .val (.int p0_3), .val (.long q0_0), .second, .val (.ref b80), .val (.ref b109), .val (.int 1), .val (.int 1)] [])) (fun _ k => XS.istore X140.here hx rfl (hb hby at_105) rfl (l' := #[.val (.long q0_0), .second, .val (.long q0_1), .second, .val (.long q0_2), .second, .val (.int p0_3), .val (.long q0_0), .second, .val (.ref b80), .val (.ref b109), .val (.int 1), .val (.int 1)]) rfl k) ?_
    refine own_s (g' := (mkF m 128 #[.val (.long q0_0), .second, .val (.long q0_1), .second, .val (.long q0_2), .second, .val (.int p0_3), .val (.long q0_0), .second, .val (.ref b80), .val (.ref b109), .val (.int 1), .val (.int 1)] [])) (fun _ k => XS.goto X140.here hx rfl (pc0 := 107) (pc' := 128) rfl (hb hby at_107) (by decide) (by decide) k) ?_
    refine own_s (g' := (mkF m 130 #[.val (.long q0_0), .second, .val (.long q0_1), .second, .val (.long q0_2), .second, .val (.int p0_3), .val (.long q0_0), .second, .val (.ref b80), .val (.ref b109), .val (.int 1), .val (.int 1)] [(.int 1)])) (fun _ k => XS.iload X140.here hx rfl (hb hby at_128) rfl k) ?_
    refine own_s (g' := (mkF m 133 #[.val (.long q0_0), .second, .val (.long q0_1), .second, .val (.long q0_2), .second, .val (.int p0_3), .val (.long q0_0), .second, .val (.ref b80), .val (.ref b109), .val (.int 1), .val (.int 1)] [])) (fun _ k => XS.ifNo X140.here hx rfl (hb hby at_130) rfl ((if0 _ _).trans (feq ((by decide) : ¬ (1 : Int32) = (0 : Int32))).1) k) ?_
    refine own_s (g' := (mkF m 135 #[.val (.long q0_0), .second, .val (.long q0_1), .second, .val (.long q0_2), .second, .val (.int p0_3), .val (.long q0_0), .second, .val (.ref b80), .val (.ref b109), .val (.int 1), .val (.int 1)] [(.int 1)])) (fun _ k => XS.iload X140.here hx rfl (hb hby at_133) rfl k) ?_
    refine own_s (g' := (mkF m 138 #[.val (.long q0_0), .second, .val (.long q0_1), .second, .val (.long q0_2), .second, .val (.int p0_3), .val (.long q0_0), .second, .val (.ref b80), .val (.ref b109), .val (.int 1), .val (.int 1)] [])) (fun _ k => XS.ifNo X140.here hx rfl (hb hby at_135) rfl ((if0 _ _).trans (feq ((by decide) : ¬ (1 : Int32) = (0 : Int32))).1) k) ?_
    refine own_s (g' := (mkF m 139 #[.val (.long q0_0), .second, .val (.long q0_1), .second, .val (.long q0_2), .second, .val (.int p0_3), .val (.long q0_0), .second, .val (.ref b80), .val (.ref b109), .val (.int 1), .val (.int 1)] [(.int 1)])) (fun _ k => XS.iconst X140.here hx rfl (hb hby at_138) k) ?_
    refine own_s (g' := (mkF m 143 #[.val (.long q0_0), .second, .val (.long q0_1), .second, .val (.long q0_2), .second, .val (.int p0_3), .val (.long q0_0), .second, .val (.ref b80), .val (.ref b109), .val (.int 1), .val (.int 1)] [(.int 1)])) (fun _ k => XS.goto X140.here hx rfl (pc0 := 139) (pc' := 143) rfl (hb hby at_139) (by decide) (by decide) k) ?_
    refine own_retN X140 hx hlk (t := .boolean) hret (by simp) (hb hby at_143) (z' := (1 : Int32)) (by decide) (by decide) (by decide) ?_
    show Q0 Z q0_0 q0_1 q0_2 p0_3 h0 n0 _ T140.heap _
    rw [eh140]
    exact ⟨rfl, N140⟩
   ·skip
    refine own_s (g' := (mkF m 110 #[.val (.long q0_0), .second, .val (.long q0_1), .second, .val (.long q0_2), .second, .val (.int p0_3), .val (.long q0_0), .second, .val (.ref b80), .val (.ref b109), .val (.int 1), .unset] [])) (fun _ k => XS.ifYes X138.here hx rfl (pc0 := 87) (pc' := 110) rfl (hb hby at_87) rfl ((if0 _ _).trans (feq (mt (lw_eq q0_0 (-1 : Int64)).mp c139)).2) (by decide) (by decide) k) ?_
    refine own_s (g' := (mkF m 112 #[.val (.long q0_0), .second, .val (.long q0_1), .second, .val (.long q0_2), .second, .val (.int p0_3), .val (.long q0_0), .second, .val (.ref b80), .val (.ref b109), .val (.int 1), .unset] [(.ref b80)])) (fun _ k => XS.aload X138.here hx rfl (hb hby at_110) rfl rfl k) ?_
    have ne146 : b80 ≠ b109 := Nat.ne_of_lt (Nat.lt_of_lt_of_le f96.lt (Nat.le_of_eq ga109.symm))
    have f147 := (((f100.ext E109).ext E110).keep K111q (ninS ne146 nin0))
    have f148 := (((f101.ext E109).ext E110).keep K111q (ninS ne146 nin0))
    have f149 := (((f96.ext E109).ext E110).keep K111q)
    obtain ⟨cq145, kq145, q145a, q145b, q145c⟩ := isOf hZ eh138 f149
    obtain ⟨_, _, ⟨T145, L145, k145, n145⟩, -, X145, ⟨Lc145, hQ145, l145, y145, z145⟩, st145⟩ := X138.virtualBack hx (y := (⟨"com/example/epochwise/epochwise/bench/Transaction", "due", "()J"⟩ : MethodName)) (z := (⟨"com/example/epochwise/epochwise/bench/Transaction", "due", "()J"⟩ : MethodName)) hown (mvT hZ ww44) (mvT hZ ww45) (notFace_of_selects (args := #[]) (mvT hZ ww47)) (mvT hZ ww47) (mvT hZ ww46) (by decide) (backOf (W := 0) (rm5 l Z a0 hw [] b80 q0_0 q0_1 T111.heap n0 (Nat.le_trans Z0 K111.1) f147 f148) hZ ww48 ww2 (by decide) (by decide)) q145a q145c (g := (mkF m 112 #[.val (.long q0_0), .second, .val (.long q0_1), .second, .val (.long q0_2), .second, .val (.int p0_3), .val (.long q0_0), .second, .val (.ref b80), .val (.ref b109), .val (.int 1), .unset] [(.ref b80)])) rfl (by rw [hml]; rfl) (Steps.refl _) (argsL := []) (rest := []) (lenOf pd___J rfl) rfl (by show 2 * 0 + _ ≤ _; exact Nat.le_of_eq rfl) (hb hby at_112) (fun _ _ => ⟨rfl, eh138, (by decide : 4 + 0 ≤ _), (by decide : 24 + 0 ≤ _)⟩)
    dsimp only [Pt.U, Pt.locs, Pt.cells, Pt.slots] at X145 l145 y145 z145 st145 hQ145
    subst l145 y145 z145
    obtain ⟨rfl, N145q, eh145⟩ := hQ145
    have N145 := Fr.app N138 N145q
    refine own_trans (g' := (mkF m 115 #[.val (.long q0_0), .second, .val (.long q0_1), .second, .val (.long q0_2), .second, .val (.int p0_3), .val (.long q0_0), .second, .val (.ref b80), .val (.ref b109), .val (.int 1), .unset] [(.long (r5 q0_0 q0_1))])) st145 ?_
    rw [show (r5 q0_0 q0_1) = q0_0 from (if_neg c139)]
    refine own_s (g' := (mkF m 117 #[.val (.long q0_0), .second, .val (.long q0_1), .second, .val (.long q0_2), .second, .val (.int p0_3), .val (.long q0_0), .second, .val (.ref b80), .val (.ref b109), .val (.int 1), .unset] [(.long q0_0), (.long q0_0)])) (fun _ k => XS.lload X145.here hx rfl (hb hby at_115) rfl k) ?_
    refine own_s (g' := (mkF m 118 #[.val (.long q0_0), .second, .val (.long q0_1), .second, .val (.long q0_2), .second, .val (.int p0_3), .val (.long q0_0), .second, .val (.ref b80), .val (.ref b109), .val (.int 1), .unset] [(.int (lcmpW q0_0 q0_0))])) (fun _ k => XS.lcmp X145.here hx rfl (hb hby at_117) rfl k) ?_
    refine own_s (g' := (mkF m 121 #[.val (.long q0_0), .second, .val (.long q0_1), .second, .val (.long q0_2), .second, .val (.int p0_3), .val (.long q0_0), .second, .val (.ref b80), .val (.ref b109), .val (.int 1), .unset] [])) (fun _ k => XS.ifNo X145.here hx rfl (hb hby at_118) rfl ((if0 _ _).trans (teq ((lw_eq q0_0 q0_0).mpr rfl)).2) k) ?_
    refine own_s (g' := (mkF m 122 #[.val (.long q0_0), .second, .val (.long q0_1), .second, .val (.long q0_2), .second, .val (.int p0_3), .val (.long q0_0), .second, .val (.ref b80), .val (.ref b109), .val (.int 1), .unset] [(.int 1)])) (fun _ k => XS.iconst X145.here hx rfl (hb hby at_121) k) ?_
    refine own_s (g' := (mkF m 126 #[.val (.long q0_0), .second, .val (.long q0_1), .second, .val (.long q0_2), .second, .val (.int p0_3), .val (.long q0_0), .second, .val (.ref b80), .val (.ref b109), .val (.int 1), .unset] [(.int 1)])) (fun _ k => XS.goto X145.here hx rfl (pc0 := 122) (pc' := 126) rfl (hb hby at_122) (by decide) (by decide) k) ?_
    refine own_s (g' := (mkF m 128 #[.val (.long q0_0), .second, .val (.long q0_1), .second, .val (.long q0_2), .second, .val (.int p0_3), .val (.long q0_0), .second, .val (.ref b80), .val (.ref b109), .val (.int 1), .val (.int 1)] [])) (fun _ k => XS.istore X145.here hx rfl (hb hby at_126) rfl (l' := #[.val (.long q0_0), .second, .val (.long q0_1), .second, .val (.long q0_2), .second, .val (.int p0_3), .val (.long q0_0), .second, .val (.ref b80), .val (.ref b109), .val (.int 1), .val (.int 1)]) rfl k) ?_
    refine own_s (g' := (mkF m 130 #[.val (.long q0_0), .second, .val (.long q0_1), .second, .val (.long q0_2), .second, .val (.int p0_3), .val (.long q0_0), .second, .val (.ref b80), .val (.ref b109), .val (.int 1), .val (.int 1)] [(.int 1)])) (fun _ k => XS.iload X145.here hx rfl (hb hby at_128) rfl k) ?_
    refine own_s (g' := (mkF m 133 #[.val (.long q0_0), .second, .val (.long q0_1), .second, .val (.long q0_2), .second, .val (.int p0_3), .val (.long q0_0), .second, .val (.ref b80), .val (.ref b109), .val (.int 1), .val (.int 1)] [])) (fun _ k => XS.ifNo X145.here hx rfl (hb hby at_130) rfl ((if0 _ _).trans (feq ((by decide) : ¬ (1 : Int32) = (0 : Int32))).1) k) ?_
    refine own_s (g' := (mkF m 135 #[.val (.long q0_0), .second, .val (.long q0_1), .second, .val (.long q0_2), .second, .val (.int p0_3), .val (.long q0_0), .second, .val (.ref b80), .val (.ref b109), .val (.int 1), .val (.int 1)] [(.int 1)])) (fun _ k => XS.iload X145.here hx rfl (hb hby at_133) rfl k) ?_
    refine own_s (g' := (mkF m 138 #[.val (.long q0_0), .second, .val (.long q0_1), .second, .val (.long q0_2), .second, .val (.int p0_3), .val (.long q0_0), .second, .val (.ref b80), .val (.ref b109), .val (.int 1), .val (.int 1)] [])) (fun _ k => XS.ifNo X145.here hx rfl (hb hby at_135) rfl ((if0 _ _).trans (feq ((by decide) : ¬ (1 : Int32) = (0 : Int32))).1) k) ?_
    refine own_s (g' := (mkF m 139 #[.val (.long q0_0), .second, .val (.long q0_1), .second, .val (.long q0_2), .second, .val (.int p0_3), .val (.long q0_0), .second, .val (.ref b80), .val (.ref b109), .val (.int 1), .val (.int 1)] [(.int 1)])) (fun _ k => XS.iconst X145.here hx rfl (hb hby at_138) k) ?_
    refine own_s (g' := (mkF m 143 #[.val (.long q0_0), .second, .val (.long q0_1), .second, .val (.long q0_2), .second, .val (.int p0_3), .val (.long q0_0), .second, .val (.ref b80), .val (.ref b109), .val (.int 1), .val (.int 1)] [(.int 1)])) (fun _ k => XS.goto X145.here hx rfl (pc0 := 139) (pc' := 143) rfl (hb hby at_139) (by decide) (by decide) k) ?_
    refine own_retN X145 hx hlk (t := .boolean) hret (by simp) (hb hby at_143) (z' := (1 : Int32)) (by decide) (by decide) (by decide) ?_
    show Q0 Z q0_0 q0_1 q0_2 p0_3 h0 n0 _ T145.heap _
    rw [eh145]
    exact ⟨rfl, N145⟩
  ·skip
   refine own_s (g' := (mkF m 7 #[.val (.long q0_0), .second, .val (.long q0_1), .second, .val (.long q0_2), .second, .val (.int p0_3), .unset, .unset, .unset, .unset, .unset, .unset] [])) (fun _ k => XS.ifNo X0.here hx rfl (hb hby at_4) rfl ((if0 _ _).trans (feq c79).1) k) ?_
   refine own_s (g' := (mkF m 10 #[.val (.long q0_0), .second, .val (.long q0_1), .second, .val (.long q0_2), .second, .val (.int p0_3), .unset, .unset, .unset, .unset, .unset, .unset] [(.long (-1))])) (X0.ldc2Long hx hown (mvT hZ ww49) (g := (mkF m 7 #[.val (.long q0_0), .second, .val (.long q0_1), .second, .val (.long q0_2), .second, .val (.int p0_3), .unset, .unset, .unset, .unset, .unset, .unset] [])) rfl (hb hby at_7)) ?_
   refine own_s (g' := (mkF m 14 #[.val (.long q0_0), .second, .val (.long q0_1), .second, .val (.long q0_2), .second, .val (.int p0_3), .unset, .unset, .unset, .unset, .unset, .unset] [(.long (-1))])) (fun _ k => XS.goto X0.here hx rfl (pc0 := 10) (pc' := 14) rfl (hb hby at_10) (by decide) (by decide) k) ?_
   refine own_s (g' := (mkF m 16 #[.val (.long q0_0), .second, .val (.long q0_1), .second, .val (.long q0_2), .second, .val (.int p0_3), .val (.long (-1)), .second, .unset, .unset, .unset, .unset] [])) (fun _ k => XS.lstore X0.here hx rfl (hb hby at_14) rfl (l' := #[.val (.long q0_0), .second, .val (.long q0_1), .second, .val (.long q0_2), .second, .val (.int p0_3), .val (.long (-1)), .second, .unset, .unset, .unset, .unset]) rfl k) ?_
   obtain ⟨T150, h150, X150, e150, E150, A150, D150, -, st150⟩ := newO X0 hx hZ hown ww0 ww1 ww2 e0 (g := (mkF m 16 #[.val (.long q0_0), .second, .val (.long q0_1), .second, .val (.long q0_2), .second, .val (.int p0_3), .val (.long (-1)), .second, .unset, .unset, .unset, .unset] [])) rfl (hb hby at_16) (by decide) (by decide)
   obtain ⟨b150, ga150⟩ : ∃ z, z = h0.size := ⟨_, rfl⟩
   rw [← ga150] at A150 D150 st150
   have g_b150 := Nat.le_trans Z0 (Nat.le_of_eq ga150.symm)
   have sz_b150 := Nat.le_trans K0.1 (Nat.le_of_eq ga150.symm)
   have f150_phase : Fld Z h150 b150 "com/example/epochwise/epochwise/bench/Transaction" "phase" "Lcom/example/epochwise/epochwise/bench/Transaction$Phase;" .null := D150 (Or.inr ww16) (ty := (.object "com/example/epochwise/epochwise/bench/Transaction$Phase")) (by decide +kernel)
   have f150_type : Fld Z h150 b150 "com/example/epochwise/epochwise/bench/Transaction" "type" "Lcom/example/epochwise/epochwise/bench/Transaction$Type;" .null := D150 (Or.inr ww18) (ty := (.object "com/example/epochwise/epochwise/bench/Transaction$Type")) (by decide +kernel)
   have f150_client : Fld Z h150 b150 "com/example/epochwise/epochwise/bench/Transaction" "client" "I" (.int 0) := D150 (Or.inr ww20) (ty := .int) (by decide +kernel)
   have f150_arrival : Fld Z h150 b150 "com/example/epochwise/epochwise/bench/Transaction" "arrival" "J" (.long 0) := D150 (Or.inr ww22) (ty := .long) (by decide +kernel)
   have f150_start : Fld Z h150 b150 "com/example/epochwise/epochwise/bench/Transaction" "start" "J" (.long 0) := D150 (Or.inr ww24) (ty := .long) (by decide +kernel)
   have f150_end : Fld Z h150 b150 "com/example/epochwise/epochwise/bench/Transaction" "end" "J" (.long 0) := D150 (Or.inr ww26) (ty := .long) (by decide +kernel)
   have f150_status : Fld Z h150 b150 "com/example/epochwise/epochwise/bench/Transaction" "status" "Lcom/example/epochwise/epochwise/bench/Transaction$Status;" .null := D150 (Or.inr ww28) (ty := (.object "com/example/epochwise/epochwise/bench/Transaction$Status")) (by decide +kernel)
   have f150_timestamp : Fld Z h150 b150 "com/example/epochwise/epochwise/bench/Transaction" "timestamp" "J" (.long 0) := D150 (Or.inr ww30) (ty := .long) (by decide +kernel)
   have f150_rounds : Fld Z h150 b150 "com/example/epochwise/epochwise/bench/Transaction" "rounds" "I" (.int 0) := D150 (Or.inr ww32) (ty := .int) (by decide +kernel)
   have f150_keys : Fld Z h150 b150 "com/example/epochwise/epochwise/bench/Transaction" "keys" "[I" .null := D150 (Or.inr ww34) (ty := (.array .int)) (by decide +kernel)
   have f150_value : Fld Z h150 b150 "com/example/epochwise/epochwise/bench/Transaction" "value" "J" (.long 0) := D150 (Or.inr ww36) (ty := .long) (by decide +kernel)
   have f150_values : Fld Z h150 b150 "com/example/epochwise/epochwise/bench/Transaction" "values" "[J" .null := D150 (Or.inr ww38) (ty := (.array .long)) (by decide +kernel)
   have K150 := K0.ext E150
   refine own_s (g' := (mkF m 19 #[.val (.long q0_0), .second, .val (.long q0_1), .second, .val (.long q0_2), .second, .val (.int p0_3), .val (.long (-1)), .second, .unset, .unset, .unset, .unset] [(.ref b150)])) st150 ?_
   refine own_s (g' := (mkF m 20 #[.val (.long q0_0), .second, .val (.long q0_1), .second, .val (.long q0_2), .second, .val (.int p0_3), .val (.long (-1)), .second, .unset, .unset, .unset, .unset] [(.ref b150), (.ref b150)])) (fun _ k => XS.dup X150.here hx rfl (hb hby at_19) rfl rfl k) ?_
   refine own_s (g' := (mkF m 21 #[.val (.long q0_0), .second, .val (.long q0_1), .second, .val (.long q0_2), .second, .val (.int p0_3), .val (.long (-1)), .second, .unset, .unset, .unset, .unset] [.null, (.ref b150), (.ref b150)])) (fun _ k => XS.aconstNull X150.here hx rfl (hb hby at_20) k) ?_
   refine own_s (g' := (mkF m 22 #[.val (.long q0_0), .second, .val (.long q0_1), .second, .val (.long q0_2), .second, .val (.int p0_3), .val (.long (-1)), .second, .unset, .unset, .unset, .unset] [.null, .null, (.ref b150), (.ref b150)])) (fun _ k => XS.aconstNull X150.here hx rfl (hb hby at_21) k) ?_
   refine own_s (g' := (mkF m 23 #[.val (.long q0_0), .second, .val (.long q0_1), .second, .val (.long q0_2), .second, .val (.int p0_3), .val (.long (-1)), .second, .unset, .unset, .unset, .unset] [(.int 0), .null, .null, (.ref b150), (.ref b150)])) (fun _ k => XS.iconst X150.here hx rfl (hb hby at_22) k) ?_
   refine own_s (g' := (mkF m 25 #[.val (.long q0_0), .second, .val (.long q0_1), .second, .val (.long q0_2), .second, .val (.int p0_3), .val (.long (-1)), .second, .unset, .unset, .unset, .unset] [(.long (-1)), (.int 0), .null, .null, (.ref b150), (.ref b150)])) (fun _ k => XS.lload X150.here hx rfl (hb hby at_23) rfl k) ?_
   refine own_s (g' := (mkF m 26 #[.val (.long q0_0), .second, .val (.long q0_1), .second, .val (.long q0_2), .second, .val (.int p0_3), .val (.long (-1)), .second, .unset, .unset, .unset, .unset] [(.long q0_1), (.long (-1)), (.int 0), .null, .null, (.ref b150), (.ref b150)])) (fun _ k => XS.lloadN X150.here hx rfl (hb hby at_25) rfl k) ?_
   refine own_s (g' := (mkF m 28 #[.val (.long q0_0), .second, .val (.long q0_1), .second, .val (.long q0_2), .second, .val (.int p0_3), .val (.long (-1)), .second, .unset, .unset, .unset, .unset] [(.long q0_2), (.long q0_1), (.long (-1)), (.int 0), .null, .null, (.ref b150), (.ref b150)])) (fun _ k => XS.lload X150.here hx rfl (hb hby at_26) rfl k) ?_
   refine own_s (g' := (mkF m 29 #[.val (.long q0_0), .second, .val (.long q0_1), .second, .val (.long q0_2), .second, .val (.int p0_3), .val (.long (-1)), .second, .unset, .unset, .unset, .unset] [.null, (.long q0_2), (.long q0_1), (.long (-1)), (.int 0), .null, .null, (.ref b150), (.ref b150)])) (fun _ k => XS.aconstNull X150.here hx rfl (hb hby at_28) k) ?_
   refine own_s (g' := (mkF m 30 #[.val (.long q0_0), .second, .val (.long q0_1), .second, .val (.long q0_2), .second, .val (.int p0_3), .val (.long (-1)), .second, .unset, .unset, .unset, .unset] [(.long 0), .null, (.long q0_2), (.long q0_1), (.long (-1)), (.int 0), .null, .null, (.ref b150), (.ref b150)])) (fun _ k => XS.lconst X150.here hx rfl (hb hby at_29) k) ?_
   refine own_s (g' := (mkF m 31 #[.val (.long q0_0), .second, .val (.long q0_1), .second, .val (.long q0_2), .second, .val (.int p0_3), .val (.long (-1)), .second, .unset, .unset, .unset, .unset] [(.int 0), (.long 0), .null, (.long q0_2), (.long q0_1), (.long (-1)), (.int 0), .null, .null, (.ref b150), (.ref b150)])) (fun _ k => XS.iconst X150.here hx rfl (hb hby at_30) k) ?_
   refine own_s (g' := (mkF m 32 #[.val (.long q0_0), .second, .val (.long q0_1), .second, .val (.long q0_2), .second, .val (.int p0_3), .val (.long (-1)), .second, .unset, .unset, .unset, .unset] [(.int 0), (.int 0), (.long 0), .null, (.long q0_2), (.long q0_1), (.long (-1)), (.int 0), .null, .null, (.ref b150), (.ref b150)])) (fun _ k => XS.iconst X150.here hx rfl (hb hby at_31) k) ?_
   obtain ⟨T151, h151, k151, X151, e151, E151, A151, st151⟩ := newP (aty := .int) X150 hx hZ ww3 e150 (g := (mkF m 32 #[.val (.long q0_0), .second, .val (.long q0_1), .second, .val (.long q0_2), .second, .val (.int p0_3), .val (.long (-1)), .second, .unset, .unset, .unset, .unset] [(.int 0), (.int 0), (.long 0), .null, (.long q0_2), (.long q0_1), (.long (-1)), (.int 0), .null, .null, (.ref b150), (.ref b150)])) rfl (hb hby at_32) rfl (by decide) (cap := 0) (by decide) (by decide) (by decide) (by decide)
   obtain ⟨b151, ga151⟩ : ∃ z, z = h150.size := ⟨_, rfl⟩
   rw [← ga151] at A151 st151
   have g_b151 := Nat.le_trans (Nat.le_trans Z0 K150.1) (Nat.le_of_eq ga151.symm)
   have sz_b151 := Nat.le_trans K150.1 (Nat.le_of_eq ga151.symm)
   have V151 : Arv Z h151 b151 k151 .int (0 : Int32) [] (.int 0) := (Arv.new A151 (by decide)).pad (pad_rep [] (.int 0) 0)
   have K151 := K150.ext E151
   refine own_s (g' := (mkF m 34 #[.val (.long q0_0), .second, .val (.long q0_1), .second, .val (.long q0_2), .second, .val (.int p0_3), .val (.long (-1)), .second, .unset, .unset, .unset, .unset] [(.ref b151), (.int 0), (.long 0), .null, (.long q0_2), (.long q0_1), (.long (-1)), (.int 0), .null, .null, (.ref b150), (.ref b150)])) st151 ?_
   refine own_s (g' := (mkF m 35 #[.val (.long q0_0), .second, .val (.long q0_1), .second, .val (.long q0_2), .second, .val (.int p0_3), .val (.long (-1)), .second, .unset, .unset, .unset, .unset] [(.long 0), (.ref b151), (.int 0), (.long 0), .null, (.long q0_2), (.long q0_1), (.long (-1)), (.int 0), .null, .null, (.ref b150), (.ref b150)])) (fun _ k => XS.lconst X151.here hx rfl (hb hby at_34) k) ?_
   refine own_s (g' := (mkF m 36 #[.val (.long q0_0), .second, .val (.long q0_1), .second, .val (.long q0_2), .second, .val (.int p0_3), .val (.long (-1)), .second, .unset, .unset, .unset, .unset] [.null, (.long 0), (.ref b151), (.int 0), (.long 0), .null, (.long q0_2), (.long q0_1), (.long (-1)), (.int 0), .null, .null, (.ref b150), (.ref b150)])) (fun _ k => XS.aconstNull X151.here hx rfl (hb hby at_35) k) ?_
   have f153 := (f150_phase.ext E151)
   have f154 := (f150_type.ext E151)
   have f155 := (f150_client.ext E151)
   have f156 := (f150_arrival.ext E151)
   have f157 := (f150_start.ext E151)
   have f158 := (f150_end.ext E151)
   have f159 := (f150_status.ext E151)
   have f160 := (f150_timestamp.ext E151)
   have f161 := (f150_rounds.ext E151)
   have f162 := (f150_keys.ext E151)
   have f163 := (f150_value.ext E151)
   have f164 := (f150_values.ext E151)
   have f165 := (A150.ext E151)
   obtain ⟨_, _, ⟨T152, L152, k152, n152⟩, -, X152, ⟨Lc152, hQ152, l152, y152, z152⟩, st152⟩ := X151.specialBack hx (y := (⟨"com/example/epochwise/epochwise/bench/Transaction", "<init>", "(Lcom/example/epochwise/epochwise/bench/Transaction$Phase;Lcom/example/epochwise/epochwise/bench/Transaction$Type;IJJJLcom/example/epochwise/epochwise/bench/Transaction$Status;JI[IJ[J)V"⟩ : MethodName)) rfl hown (mvT hZ ww4) (mvT hZ ww5) (mvT hZ ww6) (by decide) (backOf (W := 1) (rm1 l Z a0 hw [] b150 (0 : Int32) (-1 : Int64) q0_1 q0_2 (0 : Int64) (0 : Int32) b151 (0 : Int64) (0 : Int32) (0 : Int64) (0 : Int64) (0 : Int64) (0 : Int64) (0 : Int32) (0 : Int64) h151 n0 (Nat.le_trans Z0 K151.1) f153 f154 f155 f156 f157 f158 f159 f160 f161 f162 f163 f164 f165 g_b150) hZ ww6 ww2 (by decide) (by decide)) (g := (mkF m 36 #[.val (.long q0_0), .second, .val (.long q0_1), .second, .val (.long q0_2), .second, .val (.int p0_3), .val (.long (-1)), .second, .unset, .unset, .unset, .unset] [.null, (.long 0), (.ref b151), (.int 0), (.long 0), .null, (.long q0_2), (.long q0_1), (.long (-1)), (.int 0), .null, .null, (.ref b150), (.ref b150)])) rfl (by rw [hml]; rfl) (Steps.refl _) (a := b150) (argsL := [.null, .null, (.int 0), (.long (-1)), (.long q0_1), (.long q0_2), .null, (.long 0), (.int 0), (.ref b151), (.long 0), .null]) (rest := [(.ref b150)]) (lenOf pd__Lcom_example_epochwise_epochwise_bench_Transaction_Phase_Lcom_example_epochwise_epochwise_bench_Transaction_Type_IJJJLcom_example_epochwise_epochwise_bench_Transaction_Status_JI_IJ_J_V rfl) rfl (by show 2 * 0 + _ ≤ _; exact Nat.le_of_eq rfl) (hb hby at_36) (fun _ _ => ⟨rfl, e151, (by decide : 2 + 0 ≤ _), (by decide : 12 + 0 ≤ _)⟩)
   dsimp only [Pt.U, Pt.locs, Pt.cells, Pt.slots] at X152 l152 y152 z152 st152 hQ152
   subst l152 y152 z152
   obtain ⟨rfl, N152q, K152q, f166, f167, f168, f169, f170, f171, f172, f173, f174, f175, f176, f177, f178⟩ := hQ152
   have K152 := K151.trans K152q (allS (Or.inr sz_b150) all0)
   have N152 := Fr.app N0 N152q
   refine own_trans (g' := (mkF m 39 #[.val (.long q0_0), .second, .val (.long q0_1), .second, .val (.long q0_2), .second, .val (.int p0_3), .val (.long (-1)), .second, .unset, .unset, .unset, .unset] [(.ref b150)])) st152 ?_
   refine own_s (g' := (mkF m 41 #[.val (.long q0_0), .second, .val (.long q0_1), .second, .val (.long q0_2), .second, .val (.int p0_3), .val (.long (-1)), .second, .val (.ref b150), .unset, .unset, .unset] [])) (fun _ k => XS.astore X152.here hx rfl (hb hby at_39) rfl rfl (l' := #[.val (.long q0_0), .second, .val (.long q0_1), .second, .val (.long q0_2), .second, .val (.int p0_3), .val (.long (-1)), .second, .val (.ref b150), .unset, .unset, .unset]) rfl k) ?_
   obtain ⟨T179, h179, X179, e179, E179, A179, D179, -, st179⟩ := newO X152 hx hZ hown ww0 ww1 ww2 rfl (g := (mkF m 41 #[.val (.long q0_0), .second, .val (.long q0_1), .second, .val (.long q0_2), .second, .val (.int p0_3), .val (.long (-1)), .second, .val (.ref b150), .unset, .unset, .unset] [])) rfl (hb hby at_41) (by decide) (by decide)
   obtain ⟨b179, ga179⟩ : ∃ z, z = T152.heap.size := ⟨_, rfl⟩
   rw [← ga179] at A179 D179 st179
   have g_b179 := Nat.le_trans (Nat.le_trans Z0 K152.1) (Nat.le_of_eq ga179.symm)
   have sz_b179 := Nat.le_trans K152.1 (Nat.le_of_eq ga179.symm)
   have f179_phase : Fld Z h179 b179 "com/example/epochwise/epochwise/bench/Transaction" "phase" "Lcom/example/epochwise/epochwise/bench/Transaction$Phase;" .null := D179 (Or.inr ww16) (ty := (.object "com/example/epochwise/epochwise/bench/Transaction$Phase")) (by decide +kernel)
   have f179_type : Fld Z h179 b179 "com/example/epochwise/epochwise/bench/Transaction" "type" "Lcom/example/epochwise/epochwise/bench/Transaction$Type;" .null := D179 (Or.inr ww18) (ty := (.object "com/example/epochwise/epochwise/bench/Transaction$Type")) (by decide +kernel)
   have f179_client : Fld Z h179 b179 "com/example/epochwise/epochwise/bench/Transaction" "client" "I" (.int 0) := D179 (Or.inr ww20) (ty := .int) (by decide +kernel)
   have f179_arrival : Fld Z h179 b179 "com/example/epochwise/epochwise/bench/Transaction" "arrival" "J" (.long 0) := D179 (Or.inr ww22) (ty := .long) (by decide +kernel)
   have f179_start : Fld Z h179 b179 "com/example/epochwise/epochwise/bench/Transaction" "start" "J" (.long 0) := D179 (Or.inr ww24) (ty := .long) (by decide +kernel)
   have f179_end : Fld Z h179 b179 "com/example/epochwise/epochwise/bench/Transaction" "end" "J" (.long 0) := D179 (Or.inr ww26) (ty := .long) (by decide +kernel)
   have f179_status : Fld Z h179 b179 "com/example/epochwise/epochwise/bench/Transaction" "status" "Lcom/example/epochwise/epochwise/bench/Transaction$Status;" .null := D179 (Or.inr ww28) (ty := (.object "com/example/epochwise/epochwise/bench/Transaction$Status")) (by decide +kernel)
   have f179_timestamp : Fld Z h179 b179 "com/example/epochwise/epochwise/bench/Transaction" "timestamp" "J" (.long 0) := D179 (Or.inr ww30) (ty := .long) (by decide +kernel)
   have f179_rounds : Fld Z h179 b179 "com/example/epochwise/epochwise/bench/Transaction" "rounds" "I" (.int 0) := D179 (Or.inr ww32) (ty := .int) (by decide +kernel)
   have f179_keys : Fld Z h179 b179 "com/example/epochwise/epochwise/bench/Transaction" "keys" "[I" .null := D179 (Or.inr ww34) (ty := (.array .int)) (by decide +kernel)
   have f179_value : Fld Z h179 b179 "com/example/epochwise/epochwise/bench/Transaction" "value" "J" (.long 0) := D179 (Or.inr ww36) (ty := .long) (by decide +kernel)
   have f179_values : Fld Z h179 b179 "com/example/epochwise/epochwise/bench/Transaction" "values" "[J" .null := D179 (Or.inr ww38) (ty := (.array .long)) (by decide +kernel)
   have K179 := K152.ext E179
   refine own_s (g' := (mkF m 44 #[.val (.long q0_0), .second, .val (.long q0_1), .second, .val (.long q0_2), .second, .val (.int p0_3), .val (.long (-1)), .second, .val (.ref b150), .unset, .unset, .unset] [(.ref b179)])) st179 ?_
   refine own_s (g' := (mkF m 45 #[.val (.long q0_0), .second, .val (.long q0_1), .second, .val (.long q0_2), .second, .val (.int p0_3), .val (.long (-1)), .second, .val (.ref b150), .unset, .unset, .unset] [(.ref b179), (.ref b179)])) (fun _ k => XS.dup X179.here hx rfl (hb hby at_44) rfl rfl k) ?_
   refine own_s (g' := (mkF m 46 #[.val (.long q0_0), .second, .val (.long q0_1), .second, .val (.long q0_2), .second, .val (.int p0_3), .val (.long (-1)), .second, .val (.ref b150), .unset, .unset, .unset] [.null, (.ref b179), (.ref b179)])) (fun _ k => XS.aconstNull X179.here hx rfl (hb hby at_45) k) ?_
   refine own_s (g' := (mkF m 47 #[.val (.long q0_0), .second, .val (.long q0_1), .second, .val (.long q0_2), .second, .val (.int p0_3), .val (.long (-1)), .second, .val (.ref b150), .unset, .unset, .unset] [.null, .null, (.ref b179), (.ref b179)])) (fun _ k => XS.aconstNull X179.here hx rfl (hb hby at_46) k) ?_
   refine own_s (g' := (mkF m 48 #[.val (.long q0_0), .second, .val (.long q0_1), .second, .val (.long q0_2), .second, .val (.int p0_3), .val (.long (-1)), .second, .val (.ref b150), .unset, .unset, .unset] [(.int 1), .null, .null, (.ref b179), (.ref b179)])) (fun _ k => XS.iconst X179.here hx rfl (hb hby at_47) k) ?_
   refine own_s (g' := (mkF m 49 #[.val (.long q0_0), .second, .val (.long q0_1), .second, .val (.long q0_2), .second, .val (.int p0_3), .val (.long (-1)), .second, .val (.ref b150), .unset, .unset, .unset] [(.long q0_1), (.int 1), .null, .null, (.ref b179), (.ref b179)])) (fun _ k => XS.lloadN X179.here hx rfl (hb hby at_48) rfl k) ?_
   refine own_s (g' := (mkF m 51 #[.val (.long q0_0), .second, .val (.long q0_1), .second, .val (.long q0_2), .second, .val (.int p0_3), .val (.long (-1)), .second, .val (.ref b150), .unset, .unset, .unset] [(.long q0_2), (.long q0_1), (.int 1), .null, .null, (.ref b179), (.ref b179)])) (fun _ k => XS.lload X179.here hx rfl (hb hby at_49) rfl k) ?_
   refine own_s (g' := (mkF m 52 #[.val (.long q0_0), .second, .val (.long q0_1), .second, .val (.long q0_2), .second, .val (.int p0_3), .val (.long (-1)), .second, .val (.ref b150), .unset, .unset, .unset] [.null, (.long q0_2), (.long q0_1), (.int 1), .null, .null, (.ref b179), (.ref b179)])) (fun _ k => XS.aconstNull X179.here hx rfl (hb hby at_51) k) ?_
   refine own_s (g' := (mkF m 53 #[.val (.long q0_0), .second, .val (.long q0_1), .second, .val (.long q0_2), .second, .val (.int p0_3), .val (.long (-1)), .second, .val (.ref b150), .unset, .unset, .unset] [(.long 0), .null, (.long q0_2), (.long q0_1), (.int 1), .null, .null, (.ref b179), (.ref b179)])) (fun _ k => XS.lconst X179.here hx rfl (hb hby at_52) k) ?_
   refine own_s (g' := (mkF m 54 #[.val (.long q0_0), .second, .val (.long q0_1), .second, .val (.long q0_2), .second, .val (.int p0_3), .val (.long (-1)), .second, .val (.ref b150), .unset, .unset, .unset] [(.int 0), (.long 0), .null, (.long q0_2), (.long q0_1), (.int 1), .null, .null, (.ref b179), (.ref b179)])) (fun _ k => XS.iconst X179.here hx rfl (hb hby at_53) k) ?_
   refine own_s (g' := (mkF m 55 #[.val (.long q0_0), .second, .val (.long q0_1), .second, .val (.long q0_2), .second, .val (.int p0_3), .val (.long (-1)), .second, .val (.ref b150), .unset, .unset, .unset] [(.int 0), (.int 0), (.long 0), .null, (.long q0_2), (.long q0_1), (.int 1), .null, .null, (.ref b179), (.ref b179)])) (fun _ k => XS.iconst X179.here hx rfl (hb hby at_54) k) ?_
   obtain ⟨T180, h180, k180, X180, e180, E180, A180, st180⟩ := newP (aty := .int) X179 hx hZ ww3 e179 (g := (mkF m 55 #[.val (.long q0_0), .second, .val (.long q0_1), .second, .val (.long q0_2), .second, .val (.int p0_3), .val (.long (-1)), .second, .val (.ref b150), .unset, .unset, .unset] [(.int 0), (.int 0), (.long 0), .null, (.long q0_2), (.long q0_1), (.int 1), .null, .null, (.ref b179), (.ref b179)])) rfl (hb hby at_55) rfl (by decide) (cap := 0) (by decide) (by decide) (by decide) (by decide)
   obtain ⟨b180, ga180⟩ : ∃ z, z = h179.size := ⟨_, rfl⟩
   rw [← ga180] at A180 st180
   have g_b180 := Nat.le_trans (Nat.le_trans Z0 K179.1) (Nat.le_of_eq ga180.symm)
   have sz_b180 := Nat.le_trans K179.1 (Nat.le_of_eq ga180.symm)
   have V180 : Arv Z h180 b180 k180 .int (0 : Int32) [] (.int 0) := (Arv.new A180 (by decide)).pad (pad_rep [] (.int 0) 0)
   have K180 := K179.ext E180
   refine own_s (g' := (mkF m 57 #[.val (.long q0_0), .second, .val (.long q0_1), .second, .val (.long q0_2), .second, .val (.int p0_3), .val (.long (-1)), .second, .val (.ref b150), .unset, .unset, .unset] [(.ref b180), (.int 0), (.long 0), .null, (.long q0_2), (.long q0_1), (.int 1), .null, .null, (.ref b179), (.ref b179)])) st180 ?_
   refine own_s (g' := (mkF m 58 #[.val (.long q0_0), .second, .val (.long q0_1), .second, .val (.long q0_2), .second, .val (.int p0_3), .val (.long (-1)), .second, .val (.ref b150), .unset, .unset, .unset] [(.long 1), (.ref b180), (.int 0), (.long 0), .null, (.long q0_2), (.long q0_1), (.int 1), .null, .null, (.ref b179), (.ref b179)])) (fun _ k => XS.lconst X180.here hx rfl (hb hby at_57) k) ?_
   refine own_s (g' := (mkF m 59 #[.val (.long q0_0), .second, .val (.long q0_1), .second, .val (.long q0_2), .second, .val (.int p0_3), .val (.long (-1)), .second, .val (.ref b150), .unset, .unset, .unset] [.null, (.long 1), (.ref b180), (.int 0), (.long 0), .null, (.long q0_2), (.long q0_1), (.int 1), .null, .null, (.ref b179), (.ref b179)])) (fun _ k => XS.aconstNull X180.here hx rfl (hb hby at_58) k) ?_
   have f182 := (f179_phase.ext E180)
   have f183 := (f179_type.ext E180)
   have f184 := (f179_client.ext E180)
   have f185 := (f179_arrival.ext E180)
   have f186 := (f179_start.ext E180)
   have f187 := (f179_end.ext E180)
   have f188 := (f179_status.ext E180)
   have f189 := (f179_timestamp.ext E180)
   have f190 := (f179_rounds.ext E180)
   have f191 := (f179_keys.ext E180)
   have f192 := (f179_value.ext E180)
   have f193 := (f179_values.ext E180)
   have f194 := (A179.ext E180)
   obtain ⟨_, _, ⟨T181, L181, k181, n181⟩, -, X181, ⟨Lc181, hQ181, l181, y181, z181⟩, st181⟩ := X180.specialBack hx (y := (⟨"com/example/epochwise/epochwise/bench/Transaction", "<init>", "(Lcom/example/epochwise/epochwise/bench/Transaction$Phase;Lcom/example/epochwise/epochwise/bench/Transaction$Type;IJJLcom/example/epochwise/epochwise/bench/Transaction$Status;JI[IJ[J)V"⟩ : MethodName)) rfl hown (mvT hZ ww39) (mvT hZ ww40) (mvT hZ ww41) (by decide) (backOf (W := 1) (rm4 l Z a0 hw [] b179 (1 : Int32) q0_1 q0_2 (0 : Int64) (0 : Int32) b180 (1 : Int64) (0 : Int32) (0 : Int64) (0 : Int64) (0 : Int64) (0 : Int64) (0 : Int32) (0 : Int64) h180 n0 (Nat.le_trans Z0 K180.1) f182 f183 f184 f185 f186 f187 f188 f189 f190 f191 f192 f193 f194 g_b179) hZ ww41 ww2 (by decide) (by decide)) (g := (mkF m 59 #[.val (.long q0_0), .second, .val (.long q0_1), .second, .val (.long q0_2), .second, .val (.int p0_3), .val (.long (-1)), .second, .val (.ref b150), .unset, .unset, .unset] [.null, (.long 1), (.ref b180), (.int 0), (.long 0), .null, (.long q0_2), (.long q0_1), (.int 1), .null, .null, (.ref b179), (.ref b179)])) rfl (by rw [hml]; rfl) (Steps.refl _) (a := b179) (argsL := [.null, .null, (.int 1), (.long q0_1), (.long q0_2), .null, (.long 0), (.int 0), (.ref b180), (.long 1), .null]) (rest := [(.ref b179)]) (lenOf pd__Lcom_example_epochwise_epochwise_bench_Transaction_Phase_Lcom_example_epochwise_epochwise_bench_Transaction_Type_IJJLcom_example_epochwise_epochwise_bench_Transaction_Status_JI_IJ_J_V rfl) rfl (by show 2 * 0 + _ ≤ _; exact Nat.le_of_eq rfl) (hb hby at_59) (fun _ _ => ⟨rfl, e180, (by decide : 4 + 0 ≤ _), (by decide : 24 + 0 ≤ _)⟩)
   dsimp only [Pt.U, Pt.locs, Pt.cells, Pt.slots] at X181 l181 y181 z181 st181 hQ181
   subst l181 y181 z181
   obtain ⟨rfl, N181q, K181q, f195, f196, f197, f198, f199, f200, f201, f202, f203, f204, f205, f206, f207⟩ := hQ181
   have K181 := K180.trans K181q (allS (Or.inr sz_b179) all0)
   have N181 := Fr.app N152 N181q
   refine own_trans (g' := (mkF m 62 #[.val (.long q0_0), .second, .val (.long q0_1), .second, .val (.long q0_2), .second, .val (.int p0_3), .val (.long (-1)), .second, .val (.ref b150), .unset, .unset, .unset] [(.ref b179)])) st181 ?_
   refine own_s (g' := (mkF m 64 #[.val (.long q0_0), .second, .val (.long q0_1), .second, .val (.long q0_2), .second, .val (.int p0_3), .val (.long (-1)), .second, .val (.ref b150), .val (.ref b179), .unset, .unset] [])) (fun _ k => XS.astore X181.here hx rfl (hb hby at_62) rfl rfl (l' := #[.val (.long q0_0), .second, .val (.long q0_1), .second, .val (.long q0_2), .second, .val (.int p0_3), .val (.long (-1)), .second, .val (.ref b150), .val (.ref b179), .unset, .unset]) rfl k) ?_
   refine own_s (g' := (mkF m 66 #[.val (.long q0_0), .second, .val (.long q0_1), .second, .val (.long q0_2), .second, .val (.int p0_3), .val (.long (-1)), .second, .val (.ref b150), .val (.ref b179), .unset, .unset] [(.ref b179)])) (fun _ k => XS.aload X181.here hx rfl (hb hby at_64) rfl rfl k) ?_
   obtain ⟨cq208, kq208, q208a, q208b, q208c⟩ := isOf hZ rfl f195
   obtain ⟨_, _, ⟨T208, L208, k208, n208⟩, -, X208, ⟨Lc208, hQ208, l208, y208, z208⟩, st208⟩ := X181.virtualBack hx (y := (⟨"com/example/epochwise/epochwise/bench/Transaction", "due", "()J"⟩ : MethodName)) (z := (⟨"com/example/epochwise/epochwise/bench/Transaction", "due", "()J"⟩ : MethodName)) hown (mvT hZ ww44) (mvT hZ ww45) (notFace_of_selects (args := #[]) (mvT hZ ww47)) (mvT hZ ww47) (mvT hZ ww46) (by decide) (backOf (W := 0) (rm5 l Z a0 hw [] b179 (-1 : Int64) q0_1 T181.heap n0 (Nat.le_trans Z0 K181.1) f199 f200) hZ ww48 ww2 (by decide) (by decide)) q208a q208c (g := (mkF m 66 #[.val (.long q0_0), .second, .val (.long q0_1), .second, .val (.long q0_2), .second, .val (.int p0_3), .val (.long (-1)), .second, .val (.ref b150), .val (.ref b179), .unset, .unset] [(.ref b179)])) rfl (by rw [hml]; rfl) (Steps.refl _) (argsL := []) (rest := []) (lenOf pd___J rfl) rfl (by show 2 * 0 + _ ≤ _; exact Nat.le_of_eq rfl) (hb hby at_66) (fun _ _ => ⟨rfl, rfl, (by decide : 4 + 0 ≤ _), (by decide : 24 + 0 ≤ _)⟩)
   dsimp only [Pt.U, Pt.locs, Pt.cells, Pt.slots] at X208 l208 y208 z208 st208 hQ208
   subst l208 y208 z208
   obtain ⟨rfl, N208q, eh208⟩ := hQ208
   have N208 := Fr.app N181 N208q
   refine own_trans (g' := (mkF m 69 #[.val (.long q0_0), .second, .val (.long q0_1), .second, .val (.long q0_2), .second, .val (.int p0_3), .val (.long (-1)), .second, .val (.ref b150), .val (.ref b179), .unset, .unset] [(.long (r5 (-1 : Int64) q0_1))])) st208 ?_
   rw [show (r5 (-1 : Int64) q0_1) = q0_1 from (if_pos ((by decide) : (-1 : Int64) = (-1 : Int64)))]
   refine own_s (g' := (mkF m 70 #[.val (.long q0_0), .second, .val (.long q0_1), .second, .val (.long q0_2), .second, .val (.int p0_3), .val (.long (-1)), .second, .val (.ref b150), .val (.ref b179), .unset, .unset] [(.long q0_1), (.long q0_1)])) (fun _ k => XS.lloadN X208.here hx rfl (hb hby at_69) rfl k) ?_
   refine own_s (g' := (mkF m 71 #[.val (.long q0_0), .second, .val (.long q0_1), .second, .val (.long q0_2), .second, .val (.int p0_3), .val (.long (-1)), .second, .val (.ref b150), .val (.ref b179), .unset, .unset] [(.int (lcmpW q0_1 q0_1))])) (fun _ k => XS.lcmp X208.here hx rfl (hb hby at_70) rfl k) ?_
   refine own_s (g' := (mkF m 74 #[.val (.long q0_0), .second, .val (.long q0_1), .second, .val (.long q0_2), .second, .val (.int p0_3), .val (.long (-1)), .second, .val (.ref b150), .val (.ref b179), .unset, .unset] [])) (fun _ k => XS.ifNo X208.here hx rfl (hb hby at_71) rfl ((if0 _ _).trans (teq ((lw_eq q0_1 q0_1).mpr rfl)).2) k) ?_
   refine own_s (g' := (mkF m 75 #[.val (.long q0_0), .second, .val (.long q0_1), .second, .val (.long q0_2), .second, .val (.int p0_3), .val (.long (-1)), .second, .val (.ref b150), .val (.ref b179), .unset, .unset] [(.int 1)])) (fun _ k => XS.iconst X208.here hx rfl (hb hby at_74) k) ?_
   refine own_s (g' := (mkF m 79 #[.val (.long q0_0), .second, .val (.long q0_1), .second, .val (.long q0_2), .second, .val (.int p0_3), .val (.long (-1)), .second, .val (.ref b150), .val (.ref b179), .unset, .unset] [(.int 1)])) (fun _ k => XS.goto X208.here hx rfl (pc0 := 75) (pc' := 79) rfl (hb hby at_75) (by decide) (by decide) k) ?_
   refine own_s (g' := (mkF m 81 #[.val (.long q0_0), .second, .val (.long q0_1), .second, .val (.long q0_2), .second, .val (.int p0_3), .val (.long (-1)), .second, .val (.ref b150), .val (.ref b179), .val (.int 1), .unset] [])) (fun _ k => XS.istore X208.here hx rfl (hb hby at_79) rfl (l' := #[.val (.long q0_0), .second, .val (.long q0_1), .second, .val (.long q0_2), .second, .val (.int p0_3), .val (.long (-1)), .second, .val (.ref b150), .val (.ref b179), .val (.int 1), .unset]) rfl k) ?_
   refine own_s (g' := (mkF m 83 #[.val (.long q0_0), .second, .val (.long q0_1), .second, .val (.long q0_2), .second, .val (.int p0_3), .val (.long (-1)), .second, .val (.ref b150), .val (.ref b179), .val (.int 1), .unset] [(.long (-1))])) (fun _ k => XS.lload X208.here hx rfl (hb hby at_81) rfl k) ?_
   refine own_s (g' := (mkF m 86 #[.val (.long q0_0), .second, .val (.long q0_1), .second, .val (.long q0_2), .second, .val (.int p0_3), .val (.long (-1)), .second, .val (.ref b150), .val (.ref b179), .val (.int 1), .unset] [(.long (-1)), (.long (-1))])) (X208.ldc2Long hx hown (mvT hZ ww49) (g := (mkF m 83 #[.val (.long q0_0), .second, .val (.long q0_1), .second, .val (.long q0_2), .second, .val (.int p0_3), .val (.long (-1)), .second, .val (.ref b150), .val (.ref b179), .val (.int 1), .unset] [(.long (-1))])) rfl (hb hby at_83)) ?_
   refine own_s (g' := (mkF m 87 #[.val (.long q0_0), .second, .val (.long q0_1), .second, .val (.long q0_2), .second, .val (.int p0_3), .val (.long (-1)), .second, .val (.ref b150), .val (.ref b179), .val (.int 1), .unset] [(.int (lcmpW (-1 : Int64) (-1 : Int64)))])) (fun _ k => XS.lcmp X208.here hx rfl (hb hby at_86) rfl k) ?_
   refine own_s (g' := (mkF m 90 #[.val (.long q0_0), .second, .val (.long q0_1), .second, .val (.long q0_2), .second, .val (.int p0_3), .val (.long (-1)), .second, .val (.ref b150), .val (.ref b179), .val (.int 1), .unset] [])) (fun _ k => XS.ifNo X208.here hx rfl (hb hby at_87) rfl ((if0 _ _).trans (teq ((lw_eq (-1 : Int64) (-1 : Int64)).mpr (by decide))).2) k) ?_
   refine own_s (g' := (mkF m 92 #[.val (.long q0_0), .second, .val (.long q0_1), .second, .val (.long q0_2), .second, .val (.int p0_3), .val (.long (-1)), .second, .val (.ref b150), .val (.ref b179), .val (.int 1), .unset] [(.ref b150)])) (fun _ k => XS.aload X208.here hx rfl (hb hby at_90) rfl rfl k) ?_
   have ne210 : b150 ≠ b179 := Nat.ne_of_lt (Nat.lt_of_lt_of_le f166.lt (Nat.le_of_eq ga179.symm))
   have f211 := (((f170.ext E179).ext E180).keep K181q (ninS ne210 nin0))
   have f212 := (((f171.ext E179).ext E180).keep K181q (ninS ne210 nin0))
   have f213 := (((f166.ext E179).ext E180).keep K181q)
   obtain ⟨cq209, kq209, q209a, q209b, q209c⟩ := isOf hZ eh208 f213
   obtain ⟨_, _, ⟨T209, L209, k209, n209⟩, -, X209, ⟨Lc209, hQ209, l209, y209, z209⟩, st209⟩ := X208.virtualBack hx (y := (⟨"com/example/epochwise/epochwise/bench/Transaction", "due", "()J"⟩ : MethodName)) (z := (⟨"com/example/epochwise/epochwise/bench/Transaction", "due", "()J"⟩ : MethodName)) hown (mvT hZ ww44) (mvT hZ ww45) (notFace_of_selects (args := #[]) (mvT hZ ww47)) (mvT hZ ww47) (mvT hZ ww46) (by decide) (backOf (W := 0) (rm5 l Z a0 hw [] b150 (-1 : Int64) q0_1 T181.heap n0 (Nat.le_trans Z0 K181.1) f211 f212) hZ ww48 ww2 (by decide) (by decide)) q209a q209c (g := (mkF m 92 #[.val (.long q0_0), .second, .val (.long q0_1), .second, .val (.long q0_2), .second, .val (.int p0_3), .val (.long (-1)), .second, .val (.ref b150), .val (.ref b179), .val (.int 1), .unset] [(.ref b150)])) rfl (by rw [hml]; rfl) (Steps.refl _) (argsL := []) (rest := []) (lenOf pd___J rfl) rfl (by show 2 * 0 + _ ≤ _; exact Nat.le_of_eq rfl) (hb hby at_92) (fun _ _ => ⟨rfl, eh208, (by decide : 4 + 0 ≤ _), (by decide : 24 + 0 ≤ _)⟩)
   dsimp only [Pt.U, Pt.locs, Pt.cells, Pt.slots] at X209 l209 y209 z209 st209 hQ209
   subst l209 y209 z209
   obtain ⟨rfl, N209q, eh209⟩ := hQ209
   have N209 := Fr.app N208 N209q
   refine own_trans (g' := (mkF m 95 #[.val (.long q0_0), .second, .val (.long q0_1), .second, .val (.long q0_2), .second, .val (.int p0_3), .val (.long (-1)), .second, .val (.ref b150), .val (.ref b179), .val (.int 1), .unset] [(.long (r5 (-1 : Int64) q0_1))])) st209 ?_
   rw [show (r5 (-1 : Int64) q0_1) = q0_1 from (if_pos ((by decide) : (-1 : Int64) = (-1 : Int64)))]
   refine own_s (g' := (mkF m 96 #[.val (.long q0_0), .second, .val (.long q0_1), .second, .val (.long q0_2), .second, .val (.int p0_3), .val (.long (-1)), .second, .val (.ref b150), .val (.ref b179), .val (.int 1), .unset] [(.long q0_1), (.long q0_1)])) (fun _ k => XS.lloadN X209.here hx rfl (hb hby at_95) rfl k) ?_
   refine own_s (g' := (mkF m 97 #[.val (.long q0_0), .second, .val (.long q0_1), .second, .val (.long q0_2), .second, .val (.int p0_3), .val (.long (-1)), .second, .val (.ref b150), .val (.ref b179), .val (.int 1), .unset] [(.int (lcmpW q0_1 q0_1))])) (fun _ k => XS.lcmp X209.here hx rfl (hb hby at_96) rfl k) ?_
   refine own_s (g' := (mkF m 100 #[.val (.long q0_0), .second, .val (.long q0_1), .second, .val (.long q0_2), .second, .val (.int p0_3), .val (.long (-1)), .second, .val (.ref b150), .val (.ref b179), .val (.int 1), .unset] [])) (fun _ k => XS.ifNo X209.here hx rfl (hb hby at_97) rfl ((if0 _ _).trans (teq ((lw_eq q0_1 q0_1).mpr rfl)).2) k) ?_
   refine own_s (g' := (mkF m 101 #[.val (.long q0_0), .second, .val (.long q0_1), .second, .val (.long q0_2), .second, .val (.int p0_3), .val (.long (-1)), .second, .val (.ref b150), .val (.ref b179), .val (.int 1), .unset] [(.int 1)])) (fun _ k => XS.iconst X209.here hx rfl (hb hby at_100) k) ?_
   refine own_s (g' := (mkF m 105 #[.val (.long q0_0), .second, .val (.long q0_1), .second, .val (.long q0_2), .second, .val (.int p0_3), .val (.long (-1)), .second, .val (.ref b150), .val (.ref b179), .val (.int 1), .unset] [(.int 1)])) (fun _ k => XS.goto X209.here hx rfl (pc0 := 101) (pc' := 105) rfl (hb hby at_101) (by decide) (by decide) k) ?_
   refine own_s (g' := (mkF m 107 #[.val (.long q0_0), .second, .val (.long q0_1), .second, .val (.long q0_2), .second, .val (.int p0_3), .val (.long (-1)), .second, .val (.ref b150), .val (.ref b179), .val (.int 1), .val (.int 1)] [])) (fun _ k => XS.istore X209.here hx rfl (hb hby at_105) rfl (l' := #[.val (.long q0_0), .second, .val (.long q0_1), .second, .val (.long q0_2), .second, .val (.int p0_3), .val (.long (-1)), .second, .val (.ref b150), .val (.ref b179), .val (.int 1), .val (.int 1)]) rfl k) ?_
   refine own_s (g' := (mkF m 128 #[.val (.long q0_0), .second, .val (.long q0_1), .second, .val (.long q0_2), .second, .val (.int p0_3), .val (.long (-1)), .second, .val (.ref b150), .val (.ref b179), .val (.int 1), .val (.int 1)] [])) (fun _ k => XS.goto X209.here hx rfl (pc0 := 107) (pc' := 128) rfl (hb hby at_107) (by decide) (by decide) k) ?_
   refine own_s (g' := (mkF m 130 #[.val (.long q0_0), .second, .val (.long q0_1), .second, .val (.long q0_2), .second, .val (.int p0_3), .val (.long (-1)), .second, .val (.ref b150), .val (.ref b179), .val (.int 1), .val (.int 1)] [(.int 1)])) (fun _ k => XS.iload X209.here hx rfl (hb hby at_128) rfl k) ?_
   refine own_s (g' := (mkF m 133 #[.val (.long q0_0), .second, .val (.long q0_1), .second, .val (.long q0_2), .second, .val (.int p0_3), .val (.long (-1)), .second, .val (.ref b150), .val (.ref b179), .val (.int 1), .val (.int 1)] [])) (fun _ k => XS.ifNo X209.here hx rfl (hb hby at_130) rfl ((if0 _ _).trans (feq ((by decide) : ¬ (1 : Int32) = (0 : Int32))).1) k) ?_
   refine own_s (g' := (mkF m 135 #[.val (.long q0_0), .second, .val (.long q0_1), .second, .val (.long q0_2), .second, .val (.int p0_3), .val (.long (-1)), .second, .val (.ref b150), .val (.ref b179), .val (.int 1), .val (.int 1)] [(.int 1)])) (fun _ k => XS.iload X209.here hx rfl (hb hby at_133) rfl k) ?_
   refine own_s (g' := (mkF m 138 #[.val (.long q0_0), .second, .val (.long q0_1), .second, .val (.long q0_2), .second, .val (.int p0_3), .val (.long (-1)), .second, .val (.ref b150), .val (.ref b179), .val (.int 1), .val (.int 1)] [])) (fun _ k => XS.ifNo X209.here hx rfl (hb hby at_135) rfl ((if0 _ _).trans (feq ((by decide) : ¬ (1 : Int32) = (0 : Int32))).1) k) ?_
   refine own_s (g' := (mkF m 139 #[.val (.long q0_0), .second, .val (.long q0_1), .second, .val (.long q0_2), .second, .val (.int p0_3), .val (.long (-1)), .second, .val (.ref b150), .val (.ref b179), .val (.int 1), .val (.int 1)] [(.int 1)])) (fun _ k => XS.iconst X209.here hx rfl (hb hby at_138) k) ?_
   refine own_s (g' := (mkF m 143 #[.val (.long q0_0), .second, .val (.long q0_1), .second, .val (.long q0_2), .second, .val (.int p0_3), .val (.long (-1)), .second, .val (.ref b150), .val (.ref b179), .val (.int 1), .val (.int 1)] [(.int 1)])) (fun _ k => XS.goto X209.here hx rfl (pc0 := 139) (pc' := 143) rfl (hb hby at_139) (by decide) (by decide) k) ?_
   refine own_retN X209 hx hlk (t := .boolean) hret (by simp) (hb hby at_143) (z' := (1 : Int32)) (by decide) (by decide) (by decide) ?_
   show Q0 Z q0_0 q0_1 q0_2 p0_3 h0 n0 _ T209.heap _
   rw [eh209]
   exact ⟨rfl, N209⟩
set_option maxRecDepth 65536 in
set_option maxHeartbeats 40000000 in
theorem comes_1 {Post : Tables → Env → Array Value → State → Outcome → State → Prop} (hpost : ∀ tb e args s v u, (limb_1_1.after args s (.returned v) u = true ∧ limb_1_2.after args s (.returned v) u = true ∧ True) → FrameEnd s (.returned v) u (Jvm.fieldLocs frame_1_writes args s ++ Jvm.arrayLocs frame_1_arrays args s ++ Jvm.staticLocs frame_1_statics s) 16 128 → Post tb e args s (.returned v) u) :
    ArmFor flags0 classFile x code maxLocals ret World_1 tables_1 room_1 Calls_1 rest_1 Pre_1 Post := by
  intro l hfl _ _ p e ha hc hk s m args below hf hA hF happ hP
  obtain ⟨hcalls, hrest, hpre⟩ := hP
  obtain ⟨-, -, -, hnamed, -, -, -, hat⟩ := (Spec.applies_iff hf).mp happ
  obtain ⟨hg, hn⟩ := and_e (Cond.before_iff.mp (show (Jvm.Cond.and given_1 narrow_1).before args s = true from hpre))
  obtain ⟨gc, hg⟩ := and_e hg
  obtain ⟨gi0, hg⟩ := and_e hg
  obtain ⟨gi1, hg⟩ := and_e hg
  obtain ⟨gi2, hg⟩ := and_e hg
  obtain ⟨w0, w1, w2, w3, rfl⟩ : ∃ w0 w1 w2 w3 : Value, args = #[w0, w1, w2, w3] := by
    have hs : args.size = 4 := by simpa [Cond.value, given_1] using gc
    obtain ⟨L⟩ := args
    match L, hs with
    | [w0, w1, w2, w3], _ => exact ⟨w0, w1, w2, w3, rfl⟩
  have hw := fun d (hd : d ∈ tables_1) => atoms_spec (ws := Jvm.Cond.code x code maxLocals ret :: tables_1) hat d (List.mem_cons_of_mem _ hd)
  obtain ⟨i0, ei0⟩ := isL_v gi0
  obtain rfl : w0 = (.long i0) := Option.some.inj ei0
  obtain ⟨i1, ei1⟩ := isL_v gi1
  obtain rfl : w1 = (.long i1) := Option.some.inj ei1
  obtain ⟨i2, ei2⟩ := isL_v gi2
  obtain rfl : w2 = (.long i2) := Option.some.inj ei2
  obtain ⟨i3, ei3⟩ := is_v hg
  obtain rfl : w3 = (.int i3) := Option.some.inj ei3
  obtain ⟨n, o, h1, h2, h3, _, L, rfl, ⟨rfl, N⟩, hq⟩ := rm0 l s _ hw tables_1 i0 i1 i2 i3 s.heap s.heap.size (Nat.le_refl _)  p e ha hc hk s m _ below hf ((Spec.applies_iff_loose hf).mp happ).1 ⟨rfl, State.Warmed39.refl s, rfl⟩ trivial
  refine ⟨n, _, h1, h2, h3, hpost _ _ _ _ _ _ ⟨Cond.after_iff.mpr rfl, Cond.after_iff.mpr (eq_i res_at (Term.int_eval (1)) rfl), trivial⟩ ⟨hq.1, hq.2.1, (hq.2.2.sift fun y hy => Or.inr (N y hy)).mono (by decide) (by decide)⟩⟩
theorem main_1_1 : Claimed_1_1 := comes_1 fun _ _ _ _ _ _ h hF => ⟨h.1, hF⟩
theorem main_1_2 : Claimed_1_2 := comes_1 fun _ _ _ _ _ _ h hF => ⟨h.2.1, hF⟩
end Jvm.Pilot.@@N@@
namespace Jvm.Pilot.@@N@@
open Jvm Jvm.ClassFile Sem Op Lib Jvm.Free Jvm.Stand Jvm.Pilot.@@N@@.Jvm.D
/-! MADE BY PROGRAM (witnessworld.py) out of the Statement's table words and the real class files: 10 classes; the members and pool entries that the words name. The judged class is class 1, her method 1. -/
namespace start1
open Jvm.ClassFile
def u (s : String) : CpInfo := .utf8 (stringToUtf16 s)
/-- a pool by its gaps: so many unusable entries, then the entry; so many at the end -/
def gap : Nat → List CpInfo → List CpInfo
  | 0, r => r
  | n + 1, r => .unusable :: gap n r
def poolList (es : List (Nat × CpInfo)) (last : Nat) : List CpInfo := es.foldr (fun e r => gap e.1 (e.2 :: r)) (gap last [])
def pool (es : List (Nat × CpInfo)) (last : Nat) : Array CpInfo := ⟨poolList es last⟩
def fileOf (pool : Array CpInfo) (this : Nat) (attrs : Array Attribute := #[]) (ms : Array MethodInfo := #[]) (fl : Nat := 33) (sup : Nat := 0) (ifs : Array Nat := #[]) (fds : Array FieldInfo := #[]) : ClassFile where
  minorVersion := 0
  majorVersion := 65
  constantPool := pool
  accessFlags := fl
  thisClass := this
  superClass := sup
  interfaces := ifs
  fields := fds
  methods := ms
  attributes := attrs
def plain (name : String) (sup : Option ClassId) : Class where
  name := name
  kind := .ordinary
  loader := none
  accessFlags := 33
  super := sup
  interfaces := #[]
  cf := none
  fields := #[]
  methods := #[]
  instanceTypes := #[]
  staticTypes := #[]
  resolved := #[]
  callSites := []
  init := .initialized
  statics := none
  mirror := none

def pool0 : Array CpInfo := pool [(5, u "<init>"), (0, u "()V"), (1, .class_ 10), (1, u "java/lang/Object")] 113

def k0c0 : Code := { maxStack := 0, maxLocals := 1, code := object_method_1_code, exceptionTable := #[], attributes := #[] }
def k0m0 : Method := { name := "<init>", desc := "()V", sig := { parameters := [], returnType := none }, accessFlags := 1, code := some k0c0 }
/-- java/lang/Object -/
def k0 : Class := { plain "java/lang/Object" none with
  accessFlags := 33
  interfaces := #[]
  cf := some (fileOf pool0 8 #[] #[{ accessFlags := 1, nameIndex := 5, descriptorIndex := 6, attributes := #[] }] 33 0 #[] #[])
  fields := #[]
  methods := #[k0m0]
  instanceTypes := #[]
  staticTypes := #[]
  resolved := Array.replicate 124 none
  statics := none }

def pool1 : Array CpInfo := pool [(2, .class_ 4), (1, u "java/lang/Object"), (0, u "<init>"), (0, u "()V"), (0, .class_ 8), (0, u "com/example/epochwise/epochwise/bench/Transaction"), (0, .long 18446744073709551615), (1, .methodref 7 12), (0, .nameAndType 5 13), (0, u "(Lcom/example/epochwise/epochwise/bench/Transaction$Phase;Lcom/example/epochwise/epochwise/bench/Transaction$Type;IJJJLcom/example/epochwise/epochwise/bench/Transaction$Status;JI[IJ[J)V"), (0, .methodref 7 15), (0, .nameAndType 5 16), (0, u "(Lcom/example/epochwise/epochwise/bench/Transaction$Phase;Lcom/example/epochwise/epochwise/bench/Transaction$Type;IJJLcom/example/epochwise/epochwise/bench/Transaction$Status;JI[IJ[J)V"), (0, .methodref 7 18), (0, .nameAndType 19 20), (0, u "due"), (0, u "()J"), (0, .class_ 22), (0, u "com/example/epochwise/epochwise/bench/TransactionDuePinLaw"), (2, u "law"), (0, u "(JJJI)Z")] 13

def k1m0 : Method := { name := "<init>", desc := "()V", sig := { parameters := [], returnType := none }, accessFlags := 1, code := none }
def k1c1 : Code := { maxStack := 19, maxLocals := 13, code := code, exceptionTable := #[], attributes := #[] }
def k1m1 : Method := { name := "law", desc := "(JJJI)Z", sig := { parameters := [.long, .long, .long, .int], returnType := some .boolean }, accessFlags := 9, code := some k1c1 }
/-- com/example/epochwise/epochwise/bench/TransactionDuePinLaw -/
def k1 : Class := { plain "com/example/epochwise/epochwise/bench/TransactionDuePinLaw" (some 0) with
  accessFlags := 49
  interfaces := #[]
  cf := some (fileOf pool1 21 #[] #[{ accessFlags := 1, nameIndex := 5, descriptorIndex := 6, attributes := #[] }, { accessFlags := 9, nameIndex := 25, descriptorIndex := 26, attributes := #[] }] 49 2 #[] #[])
  fields := #[]
  methods := #[k1m0, k1m1]
  instanceTypes := #[]
  staticTypes := #[]
  resolved := Array.replicate 40 none
  statics := none }

def pool2 : Array CpInfo := pool [(1, .methodref 2 3), (0, .class_ 4), (0, .nameAndType 5 6), (0, u "java/lang/Object"), (0, u "<init>"), (0, u "()V"), (0, .class_ 8), (0, u "java/lang/Record")] 13

def k2c0 : Code := { maxStack := 1, maxLocals := 1, code := jdk_30_method_1_code, exceptionTable := #[], attributes := #[] }
def k2m0 : Method := { name := "<init>", desc := "()V", sig := { parameters := [], returnType := none }, accessFlags := 4, code := some k2c0 }
/-- java/lang/Record -/
def k2 : Class := { plain "java/lang/Record" (some 0) with
  accessFlags := 1057
  interfaces := #[]
  cf := some (fileOf pool2 7 #[] #[{ accessFlags := 4, nameIndex := 5, descriptorIndex := 6, attributes := #[] }] 1057 2 #[] #[])
  fields := #[]
  methods := #[k2m0]
  instanceTypes := #[]
  staticTypes := #[]
  resolved := Array.replicate 22 none
  statics := none }

def pool3 : Array CpInfo := pool [(1, .methodref 2 3), (0, .class_ 4), (0, .nameAndType 5 6), (0, u "java/lang/Record"), (0, u "<init>"), (0, u "()V"), (0, .fieldref 8 9), (0, .class_ 10), (0, .nameAndType 11 12), (0, u "com/example/epochwise/epochwise/bench/Transaction"), (0, u "phase"), (0, u "Lcom/example/epochwise/epochwise/bench/Transaction$Phase;"), (0, .fieldref 8 14), (0, .nameAndType 15 16), (0, u "type"), (0, u "Lcom/example/epochwise/epochwise/bench/Transaction$Type;"), (0, .fieldref 8 18), (0, .nameAndType 19 20), (0, u "client"), (0, u "I"), (0, .fieldref 8 22), (0, .nameAndType 23 24), (0, u "arrival"), (0, u "J"), (0, .fieldref 8 26), (0, .nameAndType 27 24), (0, u "start"), (0, .fieldref 8 29), (0, .nameAndType 30 24), (0, u "end"), (0, .fieldref 8 32), (0, .nameAndType 33 34), (0, u "status"), (0, u "Lcom/example/epochwise/epochwise/bench/Transaction$Status;"), (0, .fieldref 8 36), (0, .nameAndType 37 24), (0, u "timestamp"), (0, .fieldref 8 39), (0, .nameAndType 40 20), (0, u "rounds"), (0, .fieldref 8 42), (0, .nameAndType 43 44), (0, u "keys"), (0, u "[I"), (0, .fieldref 8 46), (0, .nameAndType 47 24), (0, u "value"), (0, .fieldref 8 49), (0, .nameAndType 50 51), (0, u "values"), (0, u "[J"), (0, .long 18446744073709551615), (1, .methodref 8 55), (0, .nameAndType 5 56), (0, u "(Lcom/example/epochwise/epochwise/bench/Transaction$Phase;Lcom/example/epochwise/epochwise/bench/Transaction$Type;IJJJLcom/example/epochwise/epochwise/bench/Transaction$Status;JI[IJ[J)V"), (1, .class_ 60), (1, u "com/example/epochwise/epochwise/bench/Transaction$Status"), (19, u "NO_ARRIVAL"), (1, u "ABSENT"), (0, u "FOREIGN"), (2, u "NO_TIMESTAMP"), (0, u "NO_VALUE"), (0, u "(Lcom/example/epochwise/epochwise/bench/Transaction$Phase;Lcom/example/epochwise/epochwise/bench/Transaction$Type;IJJLcom/example/epochwise/epochwise/bench/Transaction$Status;JI[IJ[J)V"), (3, u "due"), (0, u "()J"), (15, .class_ 110), (0, u "com/example/epochwise/epochwise/bench/Transaction$Type"), (0, .class_ 112), (0, u "com/example/epochwise/epochwise/bench/Transaction$Phase")] 32

def k3c0 : Code := { maxStack := 18, maxLocals := 16, code := prog_6_method_1_code, exceptionTable := #[], attributes := #[] }
def k3m0 : Method := { name := "<init>", desc := "(Lcom/example/epochwise/epochwise/bench/Transaction$Phase;Lcom/example/epochwise/epochwise/bench/Transaction$Type;IJJLcom/example/epochwise/epochwise/bench/Transaction$Status;JI[IJ[J)V", sig := { parameters := [(.object "com/example/epochwise/epochwise/bench/Transaction$Phase"), (.object "com/example/epochwise/epochwise/bench/Transaction$Type"), .int, .long, .long, (.object "com/example/epochwise/epochwise/bench/Transaction$Status"), .long, .int, (.array .int), .long, (.array .long)], returnType := none }, accessFlags := 0, code := some k3c0 }
def k3c1 : Code := { maxStack := 3, maxLocals := 18, code := prog_6_method_2_code, exceptionTable := #[], attributes := #[] }
def k3m1 : Method := { name := "<init>", desc := "(Lcom/example/epochwise/epochwise/bench/Transaction$Phase;Lcom/example/epochwise/epochwise/bench/Transaction$Type;IJJJLcom/example/epochwise/epochwise/bench/Transaction$Status;JI[IJ[J)V", sig := { parameters := [(.object "com/example/epochwise/epochwise/bench/Transaction$Phase"), (.object "com/example/epochwise/epochwise/bench/Transaction$Type"), .int, .long, .long, .long, (.object "com/example/epochwise/epochwise/bench/Transaction$Status"), .long, .int, (.array .int), .long, (.array .long)], returnType := none }, accessFlags := 0, code := some k3c1 }
def k3c2 : Code := { maxStack := 4, maxLocals := 1, code := prog_6_method_3_code, exceptionTable := #[], attributes := #[] }
def k3m2 : Method := { name := "due", desc := "()J", sig := { parameters := [], returnType := some .long }, accessFlags := 0, code := some k3c2 }
/-- com/example/epochwise/epochwise/bench/Transaction -/
def k3 : Class := { plain "com/example/epochwise/epochwise/bench/Transaction" (some 2) with
  accessFlags := 48
  interfaces := #[]
  cf := some (fileOf pool3 8 #[.nestMembers #[58, 109, 111]] #[{ accessFlags := 0, nameIndex := 5, descriptorIndex := 88, attributes := #[] }, { accessFlags := 0, nameIndex := 5, descriptorIndex := 56, attributes := #[] }, { accessFlags := 0, nameIndex := 92, descriptorIndex := 93, attributes := #[] }] 48 2 #[] #[{ accessFlags := 18, nameIndex := 11, descriptorIndex := 12, attributes := #[] }, { accessFlags := 18, nameIndex := 15, descriptorIndex := 16, attributes := #[] }, { accessFlags := 18, nameIndex := 19, descriptorIndex := 20, attributes := #[] }, { accessFlags := 18, nameIndex := 23, descriptorIndex := 24, attributes := #[] }, { accessFlags := 18, nameIndex := 27, descriptorIndex := 24, attributes := #[] }, { accessFlags := 18, nameIndex := 30, descriptorIndex := 24, attributes := #[] }, { accessFlags := 18, nameIndex := 33, descriptorIndex := 34, attributes := #[] }, { accessFlags := 18, nameIndex := 37, descriptorIndex := 24, attributes := #[] }, { accessFlags := 18, nameIndex := 40, descriptorIndex := 20, attributes := #[] }, { accessFlags := 18, nameIndex := 43, descriptorIndex := 44, attributes := #[] }, { accessFlags := 18, nameIndex := 47, descriptorIndex := 24, attributes := #[] }, { accessFlags := 18, nameIndex := 50, descriptorIndex := 51, attributes := #[] }, { accessFlags := 24, nameIndex := 80, descriptorIndex := 24, attributes := #[] }, { accessFlags := 24, nameIndex := 82, descriptorIndex := 24, attributes := #[] }, { accessFlags := 24, nameIndex := 83, descriptorIndex := 24, attributes := #[] }, { accessFlags := 24, nameIndex := 86, descriptorIndex := 24, attributes := #[] }, { accessFlags := 24, nameIndex := 87, descriptorIndex := 24, attributes := #[] }])
  fields := #[{ name := "phase", type := (.object "com/example/epochwise/epochwise/bench/Transaction$Phase"), accessFlags := 18, slot := 0, constantValue := 0 }, { name := "type", type := (.object "com/example/epochwise/epochwise/bench/Transaction$Type"), accessFlags := 18, slot := 1, constantValue := 0 }, { name := "client", type := .int, accessFlags := 18, slot := 2, constantValue := 0 }, { name := "arrival", type := .long, accessFlags := 18, slot := 3, constantValue := 0 }, { name := "start", type := .long, accessFlags := 18, slot := 4, constantValue := 0 }, { name := "end", type := .long, accessFlags := 18, slot := 5, constantValue := 0 }, { name := "status", type := (.object "com/example/epochwise/epochwise/bench/Transaction$Status"), accessFlags := 18, slot := 6, constantValue := 0 }, { name := "timestamp", type := .long, accessFlags := 18, slot := 7, constantValue := 0 }, { name := "rounds", type := .int, accessFlags := 18, slot := 8, constantValue := 0 }, { name := "keys", type := (.array .int), accessFlags := 18, slot := 9, constantValue := 0 }, { name := "value", type := .long, accessFlags := 18, slot := 10, constantValue := 0 }, { name := "values", type := (.array .long), accessFlags := 18, slot := 11, constantValue := 0 }, { name := "NO_ARRIVAL", type := .long, accessFlags := 24, slot := 0, constantValue := 0 }, { name := "ABSENT", type := .long, accessFlags := 24, slot := 1, constantValue := 0 }, { name := "FOREIGN", type := .long, accessFlags := 24, slot := 2, constantValue := 0 }, { name := "NO_TIMESTAMP", type := .long, accessFlags := 24, slot := 3, constantValue := 0 }, { name := "NO_VALUE", type := .long, accessFlags := 24, slot := 4, constantValue := 0 }]
  methods := #[k3m0, k3m1, k3m2]
  instanceTypes := #[(.object "com/example/epochwise/epochwise/bench/Transaction$Phase"), (.object "com/example/epochwise/epochwise/bench/Transaction$Type"), .int, .long, .long, .long, (.object "com/example/epochwise/epochwise/bench/Transaction$Status"), .long, .int, (.array .int), .long, (.array .long)]
  staticTypes := #[.long, .long, .long, .long, .long]
  resolved := Array.replicate 145 none
  statics := none }

def pool4 : Array CpInfo := pool [(1, u "java/lang/Cloneable"), (0, .class_ 1), (0, u "java/lang/Object"), (0, .class_ 3)] 3

/-- java/lang/Cloneable -/
def k4 : Class := { plain "java/lang/Cloneable" (some 0) with
  accessFlags := 1537
  interfaces := #[]
  cf := some (fileOf pool4 2 #[] #[] 1537 4 #[] #[])
  fields := #[]
  methods := #[]
  instanceTypes := #[]
  staticTypes := #[]
  resolved := Array.replicate 8 none
  statics := none }

def pool5 : Array CpInfo := pool [(1, u "java/io/Serializable"), (0, .class_ 1), (0, u "java/lang/Object"), (0, .class_ 3)] 3

/-- java/io/Serializable -/
def k5 : Class := { plain "java/io/Serializable" (some 0) with
  accessFlags := 1537
  interfaces := #[]
  cf := some (fileOf pool5 2 #[] #[] 1537 4 #[] #[])
  fields := #[]
  methods := #[]
  instanceTypes := #[]
  staticTypes := #[]
  resolved := Array.replicate 8 none
  statics := none }

/-- the primitive byte -/
def k6 : Class := { plain "byte" none with kind := .primitive 'B', accessFlags := 0x411 }
/-- [B -/
def k7 : Class := { plain "[B" (some 0) with kind := .array 6 .byte, interfaces := #[4, 5], accessFlags := 1041 }

/-- the primitive int -/
def k8 : Class := { plain "int" none with kind := .primitive 'I', accessFlags := 0x411 }
/-- [I -/
def k9 : Class := { plain "[I" (some 0) with kind := .array 8 .int, interfaces := #[4, 5], accessFlags := 1041 }

def heap : Heap := #[]
def classes : Array Class := #[k0, k1, k2, k3, k4, k5, k6, k7, k8, k9]
def interned : List (Array UInt16 × Addr) := []
def slotsUsed : Nat := 0
def theMethod : MethodId := ⟨1, 1⟩
def args0 : Array Value := #[.long 7, .long 7, .long 7, .int 5]
def aboutOver (below : List Frame) : State where
  vm := { classes := classes, interned := interned.toArray }
  heap := heap
  slotsUsed := slotsUsed
  threads := #[{ frames := .invoking theMethod args0 :: below }]
def below0 : List Frame := [.native { method := ⟨0, 0⟩, args := #[] }]
def about1 : State := aboutOver below0
def p0 : Program := .bare "" "" ""
def e0 : Env := launch0.env 0 0 0
theorem w_frames : about1.frames = Frame.invoking theMethod args0 :: below0 := rfl
set_option maxRecDepth 65536 in
theorem w_args : argsFit about1.vm theMethod args0 = true := by decide +kernel
set_option maxRecDepth 65536 in
theorem w_heap : heapFits about1 = true := by decide +kernel
set_option maxRecDepth 65536 in
theorem w_runnable : about1.curStatus? = some .runnable := by decide +kernel
set_option maxRecDepth 65536 in
theorem w_alone : about1.alone = true := by decide +kernel
set_option maxRecDepth 65536 in
theorem w_named : about1.methodNamed? x = some theMethod := by decide +kernel
set_option maxRecDepth 65536 in
theorem w_hears : about1.hears theMethod below0 = true := by decide +kernel
set_option maxRecDepth 65536 in
theorem w_ripe : about1.ripe theMethod args0 below0 = true := by decide +kernel
theorem w_running : about1.status = .running := rfl
set_option maxRecDepth 65536 in
theorem w_room : about1.hasRoom e0.platform room_1 = true :=
  launch0.hasRoom_least _ room_1 (by decide +kernel) (by decide +kernel) (by decide +kernel) (by decide +kernel) (by decide +kernel) (by decide +kernel)
theorem allAtoms_all (ts : List Jvm.Cond) (a : Array Jvm.Value) (st : Jvm.State) : (allAtoms ts).before a st = ts.all (fun c => c.before a st) := by
  induction ts with
  | nil => rfl
  | cons c t ih =>
    show (Jvm.Cond.and c (allAtoms t)).before a st = _
    rw [Jvm.Cond.before_and, ih, List.all_cons]
def words1 : List Jvm.Cond := Jvm.Cond.code x code maxLocals ret :: tables_1
/-- a 'code' word, met by the world's own term for the bytes: nothing is compared byte by byte -/
theorem code_word {y : MethodName} {bytes : ByteArray} {mx : Nat} {rt : Option FieldType} {a : Array Value} {s : State} {m : MethodId} {meth : Method} {c : Code} (h1 : s.methodNamed? y = some m) (h2 : s.vm.method? m = some meth) (h3 : meth.code = some c) (h4 : c.code = bytes)
    (h5 : (c.maxLocals == mx && c.exceptionTable.isEmpty && decide (c.maxStack ≤ mostOperands) && decide (meth.sig.returnType = rt) && !meth.locks && decide (parseMethodDescriptor y.desc = some meth.sig)) = true) : (Jvm.Cond.code y bytes mx rt).before a s = true := by
  simp only [Bool.and_eq_true, beq_iff_eq, Bool.not_eq_true', decide_eq_true_eq] at h5
  obtain ⟨⟨⟨⟨⟨g1, g2⟩, g3⟩, g4⟩, g5⟩, g6⟩ := h5
  simp [Cond.before, Cond.holds, Cond.value, h1, h2, h3, h4, g1, g2, g3, g4, g5, g6]
def isCode : Jvm.Cond → Bool
  | .code _ _ _ _ => true
  | _ => false
theorem all_split {L : List Jvm.Cond} {P : Jvm.Cond → Bool} (h1 : L.all (fun c => isCode c || P c) = true) (h2 : ∀ c ∈ L.filter isCode, P c = true) : L.all P = true := by
  refine List.all_eq_true.mpr fun c hc => ?_
  have h := List.all_eq_true.mp h1 c hc
  rcases Bool.eq_false_or_eq_true (isCode c) with hi | hi
  · exact h2 c (List.mem_filter.mpr ⟨hc, hi⟩)
  · simpa [hi] using h
set_option maxRecDepth 65536 in
theorem w_c0 : (Jvm.Cond.code x code maxLocals ret).before args0 about1 = true := code_word (m := ⟨1, 1⟩) (meth := k1m1) (c := k1c1) (by decide +kernel) rfl rfl rfl (by decide +kernel)
set_option maxRecDepth 65536 in
theorem w_c1 : (Jvm.Cond.code ({ cls := "com/example/epochwise/epochwise/bench/Transaction", name := "<init>", desc := "(Lcom/example/epochwise/epochwise/bench/Transaction$Phase;Lcom/example/epochwise/epochwise/bench/Transaction$Type;IJJJLcom/example/epochwise/epochwise/bench/Transaction$Status;JI[IJ[J)V" } : Jvm.MethodName) prog_6_method_2_code (18 : Nat) (Option.none : Option Jvm.ClassFile.FieldType)).before args0 about1 = true := code_word (m := ⟨3, 1⟩) (meth := k3m1) (c := k3c1) (by decide +kernel) rfl rfl rfl (by decide +kernel)
set_option maxRecDepth 65536 in
theorem w_c2 : (Jvm.Cond.code ({ cls := "java/lang/Record", name := "<init>", desc := "()V" } : Jvm.MethodName) jdk_30_method_1_code (1 : Nat) (Option.none : Option Jvm.ClassFile.FieldType)).before args0 about1 = true := code_word (m := ⟨2, 0⟩) (meth := k2m0) (c := k2c0) (by decide +kernel) rfl rfl rfl (by decide +kernel)
set_option maxRecDepth 65536 in
theorem w_c3 : (Jvm.Cond.code ({ cls := "java/lang/Object", name := "<init>", desc := "()V" } : Jvm.MethodName) object_method_1_code (1 : Nat) (Option.none : Option Jvm.ClassFile.FieldType)).before args0 about1 = true := code_word (m := ⟨0, 0⟩) (meth := k0m0) (c := k0c0) (by decide +kernel) rfl rfl rfl (by decide +kernel)
set_option maxRecDepth 65536 in
theorem w_c4 : (Jvm.Cond.code ({ cls := "com/example/epochwise/epochwise/bench/Transaction", name := "<init>", desc := "(Lcom/example/epochwise/epochwise/bench/Transaction$Phase;Lcom/example/epochwise/epochwise/bench/Transaction$Type;IJJLcom/example/epochwise/epochwise/bench/Transaction$Status;JI[IJ[J)V" } : Jvm.MethodName) prog_6_method_1_code (16 : Nat) (Option.none : Option Jvm.ClassFile.FieldType)).before args0 about1 = true := code_word (m := ⟨3, 0⟩) (meth := k3m0) (c := k3c0) (by decide +kernel) rfl rfl rfl (by decide +kernel)
set_option maxRecDepth 65536 in
theorem w_c5 : (Jvm.Cond.code ({ cls := "com/example/epochwise/epochwise/bench/Transaction", name := "due", desc := "()J" } : Jvm.MethodName) prog_6_method_3_code (1 : Nat) (Option.some Jvm.ClassFile.FieldType.long)).before args0 about1 = true := code_word (m := ⟨3, 2⟩) (meth := k3m2) (c := k3c2) (by decide +kernel) rfl rfl rfl (by decide +kernel)
def codes1 : List Jvm.Cond := [Jvm.Cond.code x code maxLocals ret, Jvm.Cond.code ({ cls := "com/example/epochwise/epochwise/bench/Transaction", name := "<init>", desc := "(Lcom/example/epochwise/epochwise/bench/Transaction$Phase;Lcom/example/epochwise/epochwise/bench/Transaction$Type;IJJJLcom/example/epochwise/epochwise/bench/Transaction$Status;JI[IJ[J)V" } : Jvm.MethodName) prog_6_method_2_code (18 : Nat) (Option.none : Option Jvm.ClassFile.FieldType), Jvm.Cond.code ({ cls := "java/lang/Record", name := "<init>", desc := "()V" } : Jvm.MethodName) jdk_30_method_1_code (1 : Nat) (Option.none : Option Jvm.ClassFile.FieldType), Jvm.Cond.code ({ cls := "java/lang/Object", name := "<init>", desc := "()V" } : Jvm.MethodName) object_method_1_code (1 : Nat) (Option.none : Option Jvm.ClassFile.FieldType), Jvm.Cond.code ({ cls := "com/example/epochwise/epochwise/bench/Transaction", name := "<init>", desc := "(Lcom/example/epochwise/epochwise/bench/Transaction$Phase;Lcom/example/epochwise/epochwise/bench/Transaction$Type;IJJLcom/example/epochwise/epochwise/bench/Transaction$Status;JI[IJ[J)V" } : Jvm.MethodName) prog_6_method_1_code (16 : Nat) (Option.none : Option Jvm.ClassFile.FieldType), Jvm.Cond.code ({ cls := "com/example/epochwise/epochwise/bench/Transaction", name := "due", desc := "()J" } : Jvm.MethodName) prog_6_method_3_code (1 : Nat) (Option.some Jvm.ClassFile.FieldType.long)]
set_option maxRecDepth 65536 in
theorem codes_eq : words1.filter isCode = codes1 := rfl
theorem w_codes : ∀ c ∈ words1.filter isCode, c.before args0 about1 = true := by
  rw [codes_eq]
  intro c hc
  simp only [codes1, List.mem_cons, List.not_mem_nil, or_false] at hc
  rcases hc with rfl | rfl | rfl | rfl | rfl | rfl
  · exact w_c0
  · exact w_c1
  · exact w_c2
  · exact w_c3
  · exact w_c4
  · exact w_c5
set_option maxRecDepth 65536 in
theorem w_t1 : (words1.take 24).all (fun c => isCode c || c.before args0 about1) = true := by decide +kernel
set_option maxRecDepth 65536 in
theorem w_t2 : ((words1.drop 24).take 24).all (fun c => isCode c || c.before args0 about1) = true := by decide +kernel
set_option maxRecDepth 65536 in
theorem w_t3 : ((words1.drop 24).drop 24).all (fun c => isCode c || c.before args0 about1) = true := by decide +kernel
theorem w_tables : (allAtoms (Jvm.Cond.code x code maxLocals ret :: tables_1)).before args0 about1 = true := by
  rw [allAtoms_all]
  show words1.all (fun c => c.before args0 about1) = true
  refine all_split ?_ w_codes
  rw [← List.take_append_drop 24 words1, List.all_append, w_t1, ← List.take_append_drop 24 (words1.drop 24), List.all_append, w_t2, w_t3]
  rfl
set_option maxRecDepth 65536 in
theorem w_case : (Jvm.Cond.and given_1 narrow_1).before args0 about1 = true := by decide +kernel
theorem w_applies : (headSpec (Jvm.Cond.code x code maxLocals ret :: tables_1) room_1).applies x e0.platform about1 = true :=
  (Spec.applies_iff w_frames).mpr ⟨w_running, w_runnable, w_alone, w_named, w_hears, w_ripe, w_room, w_tables⟩
theorem atStart : AtStart classFile x code maxLocals ret World_1 tables_1 room_1 Calls_1 rest_1 Pre_1 launch0 p0 e0 about1 theMethod args0 below0 :=
  ⟨lists_1, trivial, launch0.admits_env _ _ _, launch0.least_env, fairChoices_fair.cas, fairChoices_fair.clock, w_frames, w_args, w_heap, w_applies, trivial, trivial, w_case⟩
end start1
theorem witness_1 : WitnessClaimed_1 := ⟨start1.p0, start1.e0, start1.about1, start1.theMethod, start1.args0, start1.below0, start1.atStart⟩
end Jvm.Pilot.@@N@@
