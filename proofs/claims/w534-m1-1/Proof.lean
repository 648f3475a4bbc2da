import JvmDerived
import JvmDerived.Pilot.@@N@@Statement
import JvmDerived.Pilot.@@N@@Code
set_option linter.unusedVariables false
set_option linter.unusedSimpArgs false
namespace Jvm.Pilot.@@N@@
open Jvm Jvm.ClassFile Sem Op Lib Jvm.Free Jvm.Stand Jvm.LawKit Jvm.RoadKit Bundle Jvm.Pilot.@@N@@.Jvm.D
/-- what is left of a walk: from the frame g on, the run ends as K says -/
def own_G (p : Program) (e : Env) (below : List Frame) (s : State) (K : Option Value → Heap → List Loc → Prop) (nc ns : Nat) (T : State) (g : JFrame) : Prop :=
  ∃ s₂ o, Steps p.tables e below (T.setTop g) s₂ ∧ s₂.status = .running ∧ Ended s₂ below o ∧ ∃ v L, o = .returned v ∧ K v s₂.heap L ∧ FrameEnd s o s₂ L nc ns
section Own
variable {p : Program} {l : Launch} {e : Env} {R : Room} {s : State} {m : MethodId} {args : Array Value} {below : List Frame} {meth : Method} {c : Code} {T T' : State} {locs : List Loc} {cells slots : Nat} {K : Option Value → Heap → List Loc → Prop} {nc ns : Nat} {g g' : JFrame}
theorem own_s (h : ∀ t, Steps p.tables e below (T'.setTop g') t → Steps p.tables e below (T.setTop g) t) (k : own_G p e below s K nc ns T' g') : own_G p e below s K nc ns T g := by
  obtain ⟨s₂, o, h1, r⟩ := k
  exact ⟨s₂, o, h _ h1, r⟩
theorem own_trans (h : Steps p.tables e below (T.setTop g) (T'.setTop g')) (k : own_G p e below s K nc ns T' g') : own_G p e below s K nc ns T g := by
  obtain ⟨s₂, o, h1, r⟩ := k
  exact ⟨s₂, o, h.trans h1, r⟩
theorem own_cast (q : g = g') (k : own_G p e below s K nc ns T g') : own_G p e below s K nc ns T g := q ▸ k
theorem own_leave (X : Stand p l e R s m args below meth c T locs cells slots) {v : Option Value} (hlk : meth.locks = false) (hv : meth.sig.returnType = none → v = none) (hc : cells ≤ nc) (hn : slots ≤ ns) (hq : K v T.heap locs)
    (st : ∀ fs, (∀ (f : JFrame) (acts : List Action), f.method = m → f.locked = none → f.entered = [] → (doReturn e (T.setTop f) acts v).1 = T.setFrames fs) → Steps p.tables e below (T.setTop g) (T.setFrames fs)) : own_G p e below s K nc ns T g := by
  obtain ⟨fs, hr, hrun, hended, hW, hsame⟩ := X.leave (v := v) hv hlk
  exact ⟨_, _, st fs hr, hrun, hended, _, _, rfl, hq, ⟨_, rfl⟩, hW, hsame.mono hc hn⟩
theorem own_retN (X : Stand p l e R s m args below meth c T locs cells slots) (hx : p.tables.exec = Jvm.exec) (hlk : meth.locks = false) {pc : Nat} {Ls : Array Slot} {z z' : Int32} {t : FieldType} {rest : List Value} (hret : meth.sig.returnType = some t) (ht : t = .boolean ∨ t = .byte ∨ t = .char ∨ t = .short)
    (hd : decode c.code pc = .ok (.ireturn, 1)) (hz : nar t z = z') (hc : cells ≤ nc) (hn : slots ≤ ns) (hq : K (some (.int z')) T.heap locs) : own_G p e below s K nc ns T (mkF m pc Ls (.int z :: rest)) := by
  subst hz
  exact own_leave X hlk (fun h => by rw [hret] at h; cases h) hc hn hq fun fs hr => retN X hx hret ht hd hr
theorem own_retI (X : Stand p l e R s m args below meth c T locs cells slots) (hx : p.tables.exec = Jvm.exec) (hlk : meth.locks = false) {pc : Nat} {Ls : Array Slot} {z : Int32} {rest : List Value} (hret : meth.sig.returnType = some .int)
    (hd : decode c.code pc = .ok (.ireturn, 1)) (hc : cells ≤ nc) (hn : slots ≤ ns) (hq : K (some (.int z)) T.heap locs) : own_G p e below s K nc ns T (mkF m pc Ls (.int z :: rest)) :=
  own_leave X hlk (fun h => by rw [hret] at h; cases h) hc hn hq fun fs hr => retOut X hx hret rfl (Or.inl ⟨rfl, Or.inl rfl, _, rfl⟩) hd hr
theorem own_retJ (X : Stand p l e R s m args below meth c T locs cells slots) (hx : p.tables.exec = Jvm.exec) (hlk : meth.locks = false) {pc : Nat} {Ls : Array Slot} {z : Int64} {rest : List Value} (hret : meth.sig.returnType = some .long)
    (hd : decode c.code pc = .ok (.lreturn, 1)) (hc : cells ≤ nc) (hn : slots ≤ ns) (hq : K (some (.long z)) T.heap locs) : own_G p e below s K nc ns T (mkF m pc Ls (.long z :: rest)) :=
  own_leave X hlk (fun h => by rw [hret] at h; cases h) hc hn hq fun fs hr => retOut X hx hret rfl (Or.inr (Or.inl ⟨rfl, rfl, _, rfl⟩)) hd hr
theorem own_retR (X : Stand p l e R s m args below meth c T locs cells slots) (hx : p.tables.exec = Jvm.exec) (hlk : meth.locks = false) {pc : Nat} {Ls : Array Slot} {v : Value} {t : FieldType} {rest : List Value} (hret : meth.sig.returnType = some t) (ht : t.isReference = true) (hv : v.isRef = true) (hnv : narrow t v = v)
    (hd : decode c.code pc = .ok (.areturn, 1)) (hc : cells ≤ nc) (hn : slots ≤ ns) (hq : K (some v) T.heap locs) : own_G p e below s K nc ns T (mkF m pc Ls (v :: rest)) :=
  own_leave X hlk (fun h => by rw [hret] at h; cases h) hc hn hq fun fs hr => retOut X hx hret hnv (Or.inr (Or.inr (Or.inr (Or.inr ⟨rfl, ht, hv⟩)))) hd hr
theorem own_retV (X : Stand p l e R s m args below meth c T locs cells slots) (hx : p.tables.exec = Jvm.exec) (hlk : meth.locks = false) {pc : Nat} {Ls : Array Slot} (hret : meth.sig.returnType = none)
    (hd : decode c.code pc = .ok (.return_, 1)) (hc : cells ≤ nc) (hn : slots ≤ ns) (hq : K none T.heap locs) : own_G p e below s K nc ns T (mkF m pc Ls []) :=
  own_leave X hlk (fun _ => rfl) hc hn hq fun fs hr => X.returnOut hx hret hd hr
theorem own_selp {s : State} {args : Array Value} {y : MethodName} {n : Nat} (wi : (Jvm.Cond.instantiable y.cls n).before args s = true) (hp : (Jvm.Cond.privateMethod y).before args s = true) (hi : (Jvm.Cond.instanceMethod y).before args s = true)
    (hy : y.cls ≠ "java/lang/invoke/MethodHandle" ∧ y.cls ≠ "java/lang/invoke/VarHandle") : (Jvm.Cond.selects y.cls y y).before args s = true := by
  obtain ⟨c, k, h1, h2, h3, h4, -⟩ := Cond.instantiable_spec wi
  exact Jvm.Stand.selects_self_of_private h1 h2 (Bool.or_eq_false_iff.mp h4).1 (Cond.privateMethod_at hp) hi hy
theorem own_miss {k : Int32} (i : Int) (n : Int32) (e : n.toInt = i) (hc : ¬ k = n) : i ≠ k.toInt := fun h => hc (Int32.toInt_inj.mp (h.symm.trans e.symm))
theorem own_posI {x : Int32} (h : (0 : Int32) < x) : x ≠ 0 := fun q => by rw [q] at h; exact absurd h (by decide)
theorem own_posJ {x : Int64} (h : (0 : Int64) < x) : x ≠ 0 := fun q => by rw [q] at h; exact absurd h (by decide)
theorem own_asI {x y : Int32} (h : y < x) : ¬ x < y := fun q => Int32.lt_irrefl (Int32.lt_trans h q)
theorem own_asJ {x y : Int64} (h : y < x) : ¬ x < y := fun q => Int64.lt_irrefl (Int64.lt_trans h q)
theorem own_eqltI {x y : Int32} (h : x = y) : ¬ x < y := fun q => by rw [h] at q; exact Int32.lt_irrefl q
theorem own_eqltJ {x y : Int64} (h : x = y) : ¬ x < y := fun q => by rw [h] at q; exact Int64.lt_irrefl q
theorem own_triI {x y : Int32} (h : ¬ x = y) (q : ¬ y < x) : x < y := by
  rw [Int32.lt_iff_toInt_lt] at *
  rw [← Int32.toInt_inj] at h
  omega
theorem own_triJ {x y : Int64} (h : ¬ x = y) (q : ¬ y < x) : x < y := by
  rw [Int64.lt_iff_toInt_lt] at *
  rw [← Int64.toInt_inj] at h
  omega
theorem own_ltneI {x y : Int32} (h : x < y) : ¬ x = y := fun q => by rw [q] at h; exact Int32.lt_irrefl h
theorem own_ltneJ {x y : Int64} (h : x < y) : ¬ x = y := fun q => by rw [q] at h; exact Int64.lt_irrefl h
theorem own_ltne'I {x y : Int32} (h : y < x) : ¬ x = y := fun q => by rw [q] at h; exact Int32.lt_irrefl h
theorem own_ltne'J {x y : Int64} (h : y < x) : ¬ x = y := fun q => by rw [q] at h; exact Int64.lt_irrefl h
theorem own_nnI {x y : Int32} (h : ¬ x < y) (q : ¬ y < x) : x = y := by
  rw [Int32.lt_iff_toInt_lt] at *
  rw [← Int32.toInt_inj]
  omega
theorem own_nnJ {x y : Int64} (h : ¬ x < y) (q : ¬ y < x) : x = y := by
  rw [Int64.lt_iff_toInt_lt] at *
  rw [← Int64.toInt_inj]
  omega
end Own
theorem d1_0 : decode jdk_29_method_69_code 0 = .ok (.iload_n 0, 1) := by decide +kernel
theorem d1_1 : decode jdk_29_method_69_code 1 = .ok (.iload_n 1, 1) := by decide +kernel
theorem d1_2 : decode jdk_29_method_69_code 2 = .ok (.if_icmp .gt 7, 3) := by decide +kernel
theorem d1_5 : decode jdk_29_method_69_code 5 = .ok (.iload_n 0, 1) := by decide +kernel
theorem d1_6 : decode jdk_29_method_69_code 6 = .ok (.goto 4, 3) := by decide +kernel
theorem d1_9 : decode jdk_29_method_69_code 9 = .ok (.iload_n 1, 1) := by decide +kernel
theorem d1_10 : decode jdk_29_method_69_code 10 = .ok (.ireturn, 1) := by decide +kernel
theorem ef_1 (m : MethodId) (p1_0 : Int32) (p1_1 : Int32) : entryFrame m #[(.int p1_0), (.int p1_1)] 2 = mkF m 0 #[.val (.int p1_0), .val (.int p1_1)] [] := by first | (simp [entryFrame, mkF, argsToLocals, Value.category]; done) | rfl
def r1 (p1_0 : Int32) (p1_1 : Int32) : Int32 := (if p1_1 < p1_0 then p1_1 else p1_0)
def Q1 (Z : State) (p1_0 : Int32) (p1_1 : Int32) (h0 : Heap) (n0 : Nat) (v : Option Value) (h : Heap) (L : List Loc) : Prop := v = some (.int (r1 p1_0 p1_1)) ∧ Fr n0 L ∧ h = h0
set_option maxRecDepth 65536 in
set_option maxHeartbeats 40000000 in
theorem rm1 (l : Launch) (Z : State) (a0 : Array Value) (hw : ∀ d ∈ tables_1, d.before a0 Z = true) (ws : List Jvm.Cond) (p1_0 : Int32) (p1_1 : Int32) (h0 : Heap) (n0 : Nat) (Z0 : n0 ≤ h0.size) :
    MetFree l (⟨"java/lang/Math", "min", "(II)I"⟩ : MethodName) (head1 (Jvm.Cond.code (⟨"java/lang/Math", "min", "(II)I"⟩ : MethodName) jdk_29_method_69_code 2 (some .int) :: ws) ({ frames := 0, cells := 0, slots := 0, locals := 0 } : Room)) (fun a U => a = #[(.int p1_0), (.int p1_1)] ∧ Z.Warmed39 U.vm ∧ U.heap = h0) (fun _ _ _ _ _ => True) (fun _ U o U' => ∃ v L, o = .returned v ∧ Q1 Z p1_0 p1_1 h0 n0 v U'.heap L ∧ FrameEnd U o U' L ({ frames := 0, cells := 0, slots := 0, locals := 0 } : Room).cells ({ frames := 0, cells := 0, slots := 0, locals := 0 } : Room).slots) := by
  refine MetFree.of_bodySF (Jvm.Free.JP.mathPlain rfl (by decide +kernel)) hisR ?_
  intro p e s m args below meth c s₁ Bd hml0 hP hK
  obtain ⟨rfl, hZ, hh⟩ := hP
  have hx := Bd.exec
  have hby := Bd.bytes
  have hlk := Bd.notSynchronized
  have hret := Bd.returns
  have hml : c.maxLocals = 2 := hml0
  have hown : s.vm.findClass "java/lang/Math" = some m.cls := findClass_of_methodNamed Bd.named
  have hnm := (name_of_methodNamed Bd.named Bd.method).1
  have X0 : Stand p l e ({ frames := 0, cells := 0, slots := 0, locals := 0 } : Room) s m #[(.int p1_0), (.int p1_1)] below meth c s₁ [] 0 0 := Stand.of_body Bd
  have e0 : s₁.heap = h0 := by rw [← hh, Bd.state]; rfl
  have N0 := Fr.nil n0
  have K0 : Keep h0 h0 [] := Keep.refl _ _
  show own_G p e below s (Q1 Z p1_0 p1_1 h0 n0) ({ frames := 0, cells := 0, slots := 0, locals := 0 } : Room).cells ({ frames := 0, cells := 0, slots := 0, locals := 0 } : Room).slots s₁ (entryFrame m #[(.int p1_0), (.int p1_1)] 2)
  refine own_cast (ef_1 m p1_0 p1_1) ?_
  refine own_s (g' := (mkF m 1 #[.val (.int p1_0), .val (.int p1_1)] [(.int p1_0)])) (fun _ k => XS.iloadN X0.here hx rfl (hb hby d1_0) rfl k) ?_
  refine own_s (g' := (mkF m 2 #[.val (.int p1_0), .val (.int p1_1)] [(.int p1_1), (.int p1_0)])) (fun _ k => XS.iloadN X0.here hx rfl (hb hby d1_1) rfl k) ?_
  by_cases c1 : p1_1 < p1_0
  ·skip
   refine own_s (g' := (mkF m 9 #[.val (.int p1_0), .val (.int p1_1)] [])) (fun _ k => XS.icmpYes X0.here hx rfl (pc0 := 2) (pc' := 9) rfl (hb hby d1_2) rfl (tlt c1).2.2.1 (by decide) (by decide) k) ?_
   refine own_s (g' := (mkF m 10 #[.val (.int p1_0), .val (.int p1_1)] [(.int p1_1)])) (fun _ k => XS.iloadN X0.here hx rfl (hb hby d1_9) rfl k) ?_
   refine own_retI X0 hx hlk hret (hb hby d1_10) (by decide) (by decide) ?_
   show Q1 Z p1_0 p1_1 h0 n0 _ s₁.heap _
   rw [e0]
   exact ⟨(congrArg (fun z => some (Value.int z)) (show p1_1 = (r1 p1_0 p1_1) from (Eq.symm (if_pos c1)))), N0, rfl⟩
  ·skip
   refine own_s (g' := (mkF m 5 #[.val (.int p1_0), .val (.int p1_1)] [])) (fun _ k => XS.icmpNo X0.here hx rfl (hb hby d1_2) rfl (flt c1).2.2.1 k) ?_
   refine own_s (g' := (mkF m 6 #[.val (.int p1_0), .val (.int p1_1)] [(.int p1_0)])) (fun _ k => XS.iloadN X0.here hx rfl (hb hby d1_5) rfl k) ?_
   refine own_s (g' := (mkF m 10 #[.val (.int p1_0), .val (.int p1_1)] [(.int p1_0)])) (fun _ k => XS.goto X0.here hx rfl (pc0 := 6) (pc' := 10) rfl (hb hby d1_6) (by decide) (by decide) k) ?_
   refine own_retI X0 hx hlk hret (hb hby d1_10) (by decide) (by decide) ?_
   show Q1 Z p1_0 p1_1 h0 n0 _ s₁.heap _
   rw [e0]
   exact ⟨(congrArg (fun z => some (Value.int z)) (show p1_0 = (r1 p1_0 p1_1) from (Eq.symm (if_neg c1)))), N0, rfl⟩
theorem own_sn_18_16 {Z : State} {a0 : Array Value} (hw : ∀ d ∈ tables_1, d.before a0 Z = true) : Jvm.RoadKit.slotOf Z "com/example/epochwise/epochwise/server/Numbering" "next" "I" ≠ Jvm.RoadKit.slotOf Z "com/example/epochwise/epochwise/server/Numbering" "free" "[I" := slot_ne (Or.inl (hw _ (List.mem_of_getElem? (i := 18) rfl))) (Or.inl (hw _ (List.mem_of_getElem? (i := 16) rfl))) (by decide) (t := .int) (t' := (.array .int)) (by decide) (by decide)
theorem own_sn_20_16 {Z : State} {a0 : Array Value} (hw : ∀ d ∈ tables_1, d.before a0 Z = true) : Jvm.RoadKit.slotOf Z "com/example/epochwise/epochwise/server/Numbering" "left" "I" ≠ Jvm.RoadKit.slotOf Z "com/example/epochwise/epochwise/server/Numbering" "free" "[I" := slot_ne (Or.inl (hw _ (List.mem_of_getElem? (i := 20) rfl))) (Or.inl (hw _ (List.mem_of_getElem? (i := 16) rfl))) (by decide) (t := .int) (t' := (.array .int)) (by decide) (by decide)
theorem own_sn_20_18 {Z : State} {a0 : Array Value} (hw : ∀ d ∈ tables_1, d.before a0 Z = true) : Jvm.RoadKit.slotOf Z "com/example/epochwise/epochwise/server/Numbering" "left" "I" ≠ Jvm.RoadKit.slotOf Z "com/example/epochwise/epochwise/server/Numbering" "next" "I" := slot_ne (Or.inl (hw _ (List.mem_of_getElem? (i := 20) rfl))) (Or.inl (hw _ (List.mem_of_getElem? (i := 18) rfl))) (by decide) (t := .int) (t' := .int) (by decide) (by decide)
theorem own_sn_27_16 {Z : State} {a0 : Array Value} (hw : ∀ d ∈ tables_1, d.before a0 Z = true) : Jvm.RoadKit.slotOf Z "com/example/epochwise/epochwise/server/Numbering" "freeCount" "I" ≠ Jvm.RoadKit.slotOf Z "com/example/epochwise/epochwise/server/Numbering" "free" "[I" := slot_ne (Or.inl (hw _ (List.mem_of_getElem? (i := 27) rfl))) (Or.inl (hw _ (List.mem_of_getElem? (i := 16) rfl))) (by decide) (t := .int) (t' := (.array .int)) (by decide) (by decide)
theorem own_sn_27_18 {Z : State} {a0 : Array Value} (hw : ∀ d ∈ tables_1, d.before a0 Z = true) : Jvm.RoadKit.slotOf Z "com/example/epochwise/epochwise/server/Numbering" "freeCount" "I" ≠ Jvm.RoadKit.slotOf Z "com/example/epochwise/epochwise/server/Numbering" "next" "I" := slot_ne (Or.inl (hw _ (List.mem_of_getElem? (i := 27) rfl))) (Or.inl (hw _ (List.mem_of_getElem? (i := 18) rfl))) (by decide) (t := .int) (t' := .int) (by decide) (by decide)
theorem own_sn_27_20 {Z : State} {a0 : Array Value} (hw : ∀ d ∈ tables_1, d.before a0 Z = true) : Jvm.RoadKit.slotOf Z "com/example/epochwise/epochwise/server/Numbering" "freeCount" "I" ≠ Jvm.RoadKit.slotOf Z "com/example/epochwise/epochwise/server/Numbering" "left" "I" := slot_ne (Or.inl (hw _ (List.mem_of_getElem? (i := 27) rfl))) (Or.inl (hw _ (List.mem_of_getElem? (i := 20) rfl))) (by decide) (t := .int) (t' := .int) (by decide) (by decide)
theorem own_sn_16_18 {Z : State} {a0 : Array Value} (hw : ∀ d ∈ tables_1, d.before a0 Z = true) : Jvm.RoadKit.slotOf Z "com/example/epochwise/epochwise/server/Numbering" "free" "[I" ≠ Jvm.RoadKit.slotOf Z "com/example/epochwise/epochwise/server/Numbering" "next" "I" := slot_ne (Or.inl (hw _ (List.mem_of_getElem? (i := 16) rfl))) (Or.inl (hw _ (List.mem_of_getElem? (i := 18) rfl))) (by decide) (t := (.array .int)) (t' := .int) (by decide) (by decide)
theorem own_sn_16_20 {Z : State} {a0 : Array Value} (hw : ∀ d ∈ tables_1, d.before a0 Z = true) : Jvm.RoadKit.slotOf Z "com/example/epochwise/epochwise/server/Numbering" "free" "[I" ≠ Jvm.RoadKit.slotOf Z "com/example/epochwise/epochwise/server/Numbering" "left" "I" := slot_ne (Or.inl (hw _ (List.mem_of_getElem? (i := 16) rfl))) (Or.inl (hw _ (List.mem_of_getElem? (i := 20) rfl))) (by decide) (t := (.array .int)) (t' := .int) (by decide) (by decide)
theorem own_sn_18_20 {Z : State} {a0 : Array Value} (hw : ∀ d ∈ tables_1, d.before a0 Z = true) : Jvm.RoadKit.slotOf Z "com/example/epochwise/epochwise/server/Numbering" "next" "I" ≠ Jvm.RoadKit.slotOf Z "com/example/epochwise/epochwise/server/Numbering" "left" "I" := slot_ne (Or.inl (hw _ (List.mem_of_getElem? (i := 18) rfl))) (Or.inl (hw _ (List.mem_of_getElem? (i := 20) rfl))) (by decide) (t := .int) (t' := .int) (by decide) (by decide)
theorem d2_0 : decode prog_157_method_2_code 0 = .ok (.aload_n 0, 1) := by decide +kernel
theorem d2_1 : decode prog_157_method_2_code 1 = .ok (.invokespecial 10, 3) := by decide +kernel
theorem d2_4 : decode prog_157_method_2_code 4 = .ok (.aload_n 0, 1) := by decide +kernel
theorem d2_5 : decode prog_157_method_2_code 5 = .ok (.bipush 16, 2) := by decide +kernel
theorem d2_7 : decode prog_157_method_2_code 7 = .ok (.newarray .int, 2) := by decide +kernel
theorem d2_9 : decode prog_157_method_2_code 9 = .ok (.putfield 15, 3) := by decide +kernel
theorem d2_12 : decode prog_157_method_2_code 12 = .ok (.aload_n 0, 1) := by decide +kernel
theorem d2_13 : decode prog_157_method_2_code 13 = .ok (.iload_n 1, 1) := by decide +kernel
theorem d2_14 : decode prog_157_method_2_code 14 = .ok (.putfield 19, 3) := by decide +kernel
theorem d2_17 : decode prog_157_method_2_code 17 = .ok (.aload_n 0, 1) := by decide +kernel
theorem d2_18 : decode prog_157_method_2_code 18 = .ok (.iload_n 2, 1) := by decide +kernel
theorem d2_19 : decode prog_157_method_2_code 19 = .ok (.putfield 23, 3) := by decide +kernel
theorem d2_22 : decode prog_157_method_2_code 22 = .ok (.return_, 1) := by decide +kernel
theorem pn_com_example_epochwise_epochwise_server_Numbering : plainName "com/example/epochwise/epochwise/server/Numbering" = true := by first | (simp [plainName, overriddenIn]; done) | decide +kernel
theorem ef_2 (m : MethodId) (a2_0 : Addr) (p2_1 : Int32) (p2_2 : Int32) : entryFrame m #[(.ref a2_0), (.int p2_1), (.int p2_2)] 3 = mkF m 0 #[.val (.ref a2_0), .val (.int p2_1), .val (.int p2_2)] [] := by first | (simp [entryFrame, mkF, argsToLocals, Value.category]; done) | rfl
def Q2 (Z : State) (a2_0 : Addr) (p2_1 : Int32) (p2_2 : Int32) (u2_next : Int32) (u2_left : Int32) (u2_freeCount : Int32) (h0 : Heap) (n0 : Nat) (v : Option Value) (h : Heap) (L : List Loc) : Prop := ∃ (bf0 : Addr) (kf0 : ClassId), h0.size ≤ bf0 ∧ v = none ∧ Fr n0 L ∧ Keep h0 h [a2_0] ∧ Arv Z h bf0 kf0 .int (16 : Int32) [(.int 0), (.int 0)] (.int 0) ∧ Exa Z h a2_0 "com/example/epochwise/epochwise/server/Numbering" ∧ Fld Z h a2_0 "com/example/epochwise/epochwise/server/Numbering" "freeCount" "I" (.int u2_freeCount) ∧ Fld Z h a2_0 "com/example/epochwise/epochwise/server/Numbering" "free" "[I" (.ref bf0) ∧ Fld Z h a2_0 "com/example/epochwise/epochwise/server/Numbering" "next" "I" (.int p2_1) ∧ Fld Z h a2_0 "com/example/epochwise/epochwise/server/Numbering" "left" "I" (.int p2_2)
set_option maxRecDepth 65536 in
set_option maxHeartbeats 40000000 in
theorem rm2 (l : Launch) (Z : State) (a0 : Array Value) (hw : ∀ d ∈ tables_1, d.before a0 Z = true) (ws : List Jvm.Cond) (a2_0 : Addr) (p2_1 : Int32) (p2_2 : Int32) (u2_next : Int32) (u2_left : Int32) (u2_freeCount : Int32) (h0 : Heap) (n0 : Nat) (Z0 : n0 ≤ h0.size) (F_free_a2_0 : Fld Z h0 a2_0 "com/example/epochwise/epochwise/server/Numbering" "free" "[I" .null) (F_next_a2_0 : Fld Z h0 a2_0 "com/example/epochwise/epochwise/server/Numbering" "next" "I" (.int u2_next)) (F_left_a2_0 : Fld Z h0 a2_0 "com/example/epochwise/epochwise/server/Numbering" "left" "I" (.int u2_left)) (F_freeCount_a2_0 : Fld Z h0 a2_0 "com/example/epochwise/epochwise/server/Numbering" "freeCount" "I" (.int u2_freeCount)) (E_a2_0 : Exa Z h0 a2_0 "com/example/epochwise/epochwise/server/Numbering") (g_a2_0 : n0 ≤ a2_0) :
    MetFree l (⟨"com/example/epochwise/epochwise/server/Numbering", "<init>", "(II)V"⟩ : MethodName) (head1 (Jvm.Cond.code (⟨"com/example/epochwise/epochwise/server/Numbering", "<init>", "(II)V"⟩ : MethodName) prog_157_method_2_code 3 none :: ws) ({ frames := 1, cells := 1, slots := 16, locals := 12 } : Room)) (fun a U => a = #[(.ref a2_0), (.int p2_1), (.int p2_2)] ∧ Z.Warmed39 U.vm ∧ U.heap = h0) (fun _ _ _ _ _ => True) (fun _ U o U' => ∃ v L, o = .returned v ∧ Q2 Z a2_0 p2_1 p2_2 u2_next u2_left u2_freeCount h0 n0 v U'.heap L ∧ FrameEnd U o U' L ({ frames := 1, cells := 1, slots := 16, locals := 12 } : Room).cells ({ frames := 1, cells := 1, slots := 16, locals := 12 } : Room).slots) := by
  refine MetFree.of_bodySF (plainFor_of_name pn_com_example_epochwise_epochwise_server_Numbering) hisR ?_
  intro p e s m args below meth c s₁ Bd hml0 hP hK
  obtain ⟨rfl, hZ, hh⟩ := hP
  have hx := Bd.exec
  have hby := Bd.bytes
  have hlk := Bd.notSynchronized
  have hret := Bd.returns
  have hml : c.maxLocals = 3 := hml0
  have hown : s.vm.findClass "com/example/epochwise/epochwise/server/Numbering" = some m.cls := findClass_of_methodNamed Bd.named
  have hnm := (name_of_methodNamed Bd.named Bd.method).1
  have X0 : Stand p l e ({ frames := 1, cells := 1, slots := 16, locals := 12 } : Room) s m #[(.ref a2_0), (.int p2_1), (.int p2_2)] below meth c s₁ [] 0 0 := Stand.of_body Bd
  have e0 : s₁.heap = h0 := by rw [← hh, Bd.state]; rfl
  have N0 := Fr.nil n0
  have K0 : Keep h0 h0 [a2_0] := Keep.refl _ _
  show own_G p e below s (Q2 Z a2_0 p2_1 p2_2 u2_next u2_left u2_freeCount h0 n0) ({ frames := 1, cells := 1, slots := 16, locals := 12 } : Room).cells ({ frames := 1, cells := 1, slots := 16, locals := 12 } : Room).slots s₁ (entryFrame m #[(.ref a2_0), (.int p2_1), (.int p2_2)] 3)
  have ww6 := hw _ (List.mem_of_getElem? (i := 6) rfl)
  have ww11 := hw _ (List.mem_of_getElem? (i := 11) rfl)
  have ww12 := hw _ (List.mem_of_getElem? (i := 12) rfl)
  have ww13 := hw _ (List.mem_of_getElem? (i := 13) rfl)
  have ww14 := hw _ (List.mem_of_getElem? (i := 14) rfl)
  have ww15 := hw _ (List.mem_of_getElem? (i := 15) rfl)
  have ww16 := hw _ (List.mem_of_getElem? (i := 16) rfl)
  have ww17 := hw _ (List.mem_of_getElem? (i := 17) rfl)
  have ww18 := hw _ (List.mem_of_getElem? (i := 18) rfl)
  have ww19 := hw _ (List.mem_of_getElem? (i := 19) rfl)
  have ww20 := hw _ (List.mem_of_getElem? (i := 20) rfl)
  refine own_cast (ef_2 m a2_0 p2_1 p2_2) ?_
  refine own_s (g' := (mkF m 1 #[.val (.ref a2_0), .val (.int p2_1), .val (.int p2_2)] [(.ref a2_0)])) (fun _ k => XS.aloadN X0.here hx rfl (hb hby d2_0) rfl rfl k) ?_
  obtain ⟨T2, X2, e2, st2⟩ := initO X0 hx hZ hown ww11 ww12 ww13 e0 (g := (mkF m 1 #[.val (.ref a2_0), .val (.int p2_1), .val (.int p2_2)] [(.ref a2_0)])) rfl (by rw [hml]; rfl) rfl (hb hby d2_1) (by decide) (W := 0) (by show 2 * 0 + _ ≤ _; exact Nat.le_of_eq rfl) (by decide)
  refine own_s (g' := (mkF m 4 #[.val (.ref a2_0), .val (.int p2_1), .val (.int p2_2)] [])) st2 ?_
  refine own_s (g' := (mkF m 5 #[.val (.ref a2_0), .val (.int p2_1), .val (.int p2_2)] [(.ref a2_0)])) (fun _ k => XS.aloadN X2.here hx rfl (hb hby d2_4) rfl rfl k) ?_
  refine own_s (g' := (mkF m 7 #[.val (.ref a2_0), .val (.int p2_1), .val (.int p2_2)] [(.int 16), (.ref a2_0)])) (fun _ k => XS.bipush X2.here hx rfl (hb hby d2_5) k) ?_
  obtain ⟨T3, h3, k3, X3, e3, E3, A3, st3⟩ := newP (aty := .int) X2 hx hZ ww14 e2 (g := (mkF m 7 #[.val (.ref a2_0), .val (.int p2_1), .val (.int p2_2)] [(.int 16), (.ref a2_0)])) rfl (hb hby d2_7) rfl (by decide) (cap := 16) (by decide) (by decide) (by decide) (by decide)
  obtain ⟨b3, ga3⟩ : ∃ z, z = h0.size := ⟨_, rfl⟩
  rw [← ga3] at A3 st3
  have g_b3 := Nat.le_trans Z0 (Nat.le_of_eq ga3.symm)
  have sz_b3 := Nat.le_trans K0.1 (Nat.le_of_eq ga3.symm)
  have V3 : Arv Z h3 b3 k3 .int (16 : Int32) [(.int 0), (.int 0)] (.int 0) := (Arv.new A3 (by decide)).pad (pad_rep [] (.int 0) 2)
  have K3 := K0.ext E3
  refine own_s (g' := (mkF m 9 #[.val (.ref a2_0), .val (.int p2_1), .val (.int p2_2)] [(.ref b3), (.ref a2_0)])) st3 ?_
  have f4 := (E_a2_0.ext E3)
  have f5 := (F_free_a2_0.ext E3)
  obtain ⟨T6, h6, X6, e6, W6, st6⟩ := putF X3 hx hZ hown (host := "") (Or.inl ww15) Via.refl e3 f5 f4 (Or.inl ww16) ww6 (ty := (.array .int)) (by decide) rfl rfl (g := (mkF m 9 #[.val (.ref a2_0), .val (.int p2_1), .val (.int p2_2)] [(.ref b3), (.ref a2_0)])) rfl rfl (hb hby d2_9)
  have f7 := f5.same W6
  have K6 := K3.wr W6 (Or.inl (List.mem_of_getElem? (i := 0) rfl))
  have N6 := Fr.snoc X6 N0 g_a2_0
  refine own_s (g' := (mkF m 12 #[.val (.ref a2_0), .val (.int p2_1), .val (.int p2_2)] [])) st6 ?_
  refine own_s (g' := (mkF m 13 #[.val (.ref a2_0), .val (.int p2_1), .val (.int p2_2)] [(.ref a2_0)])) (fun _ k => XS.aloadN X6.here hx rfl (hb hby d2_12) rfl rfl k) ?_
  refine own_s (g' := (mkF m 14 #[.val (.ref a2_0), .val (.int p2_1), .val (.int p2_2)] [(.int p2_1), (.ref a2_0)])) (fun _ k => XS.iloadN X6.here hx rfl (hb hby d2_13) rfl k) ?_
  have f8 := (f4.wr W6)
  have f9 := ((F_next_a2_0.ext E3).other W6 (Or.inr (own_sn_18_16 hw)))
  obtain ⟨T10, h10, X10, e10, W10, st10⟩ := putF X6 hx hZ hown (host := "") (Or.inl ww17) Via.refl e6 f9 f8 (Or.inl ww18) ww6 (ty := .int) (by decide) rfl rfl (g := (mkF m 14 #[.val (.ref a2_0), .val (.int p2_1), .val (.int p2_2)] [(.int p2_1), (.ref a2_0)])) rfl rfl (hb hby d2_14)
  have f11 := f9.same W10
  have K10 := K6.wr W10 (Or.inl (List.mem_of_getElem? (i := 0) rfl))
  have N10 := Fr.snoc X10 N6 g_a2_0
  refine own_s (g' := (mkF m 17 #[.val (.ref a2_0), .val (.int p2_1), .val (.int p2_2)] [])) st10 ?_
  refine own_s (g' := (mkF m 18 #[.val (.ref a2_0), .val (.int p2_1), .val (.int p2_2)] [(.ref a2_0)])) (fun _ k => XS.aloadN X10.here hx rfl (hb hby d2_17) rfl rfl k) ?_
  refine own_s (g' := (mkF m 19 #[.val (.ref a2_0), .val (.int p2_1), .val (.int p2_2)] [(.int p2_2), (.ref a2_0)])) (fun _ k => XS.iloadN X10.here hx rfl (hb hby d2_18) rfl k) ?_
  have f12 := (f8.wr W10)
  have f13 := (((F_left_a2_0.ext E3).other W6 (Or.inr (own_sn_20_16 hw))).other W10 (Or.inr (own_sn_20_18 hw)))
  obtain ⟨T14, h14, X14, e14, W14, st14⟩ := putF X10 hx hZ hown (host := "") (Or.inl ww19) Via.refl e10 f13 f12 (Or.inl ww20) ww6 (ty := .int) (by decide) rfl rfl (g := (mkF m 19 #[.val (.ref a2_0), .val (.int p2_1), .val (.int p2_2)] [(.int p2_2), (.ref a2_0)])) rfl rfl (hb hby d2_19)
  have f15 := f13.same W14
  have K14 := K10.wr W14 (Or.inl (List.mem_of_getElem? (i := 0) rfl))
  have N14 := Fr.snoc X14 N10 g_a2_0
  refine own_s (g' := (mkF m 22 #[.val (.ref a2_0), .val (.int p2_1), .val (.int p2_2)] [])) st14 ?_
  have f16 := ((((F_freeCount_a2_0.ext E3).other W6 (Or.inr (own_sn_27_16 hw))).other W10 (Or.inr (own_sn_27_18 hw))).other W14 (Or.inr (own_sn_27_20 hw)))
  have f17 := (f12.wr W14)
  have ne18 : a2_0 ≠ b3 := Nat.ne_of_lt (Nat.lt_of_lt_of_le E_a2_0.lt (Nat.le_of_eq ga3.symm))
  have f19 := (((V3.other W6 (Ne.symm ne18)).other W10 (Ne.symm ne18)).other W14 (Ne.symm ne18))
  have f20 := ((f7.other W10 (Or.inr (own_sn_16_18 hw))).other W14 (Or.inr (own_sn_16_20 hw)))
  have f21 := (f11.other W14 (Or.inr (own_sn_18_20 hw)))
  refine own_retV X14 hx hlk hret (hb hby d2_22) (by decide) (by decide) ?_
  show Q2 Z a2_0 p2_1 p2_2 u2_next u2_left u2_freeCount h0 n0 _ T14.heap _
  rw [e14]
  exact ⟨b3, _, sz_b3, rfl, N14, K14, f19, f17, f16, f20, f21, f15⟩
theorem d4_0 : decode prog_157_method_3_code 0 = .ok (.aload_n 0, 1) := by decide +kernel
theorem d4_1 : decode prog_157_method_3_code 1 = .ok (.getfield 26, 3) := by decide +kernel
theorem d4_4 : decode prog_157_method_3_code 4 = .ok (.ifCond .le 20, 3) := by decide +kernel
theorem d4_24 : decode prog_157_method_3_code 24 = .ok (.aload_n 0, 1) := by decide +kernel
theorem d4_25 : decode prog_157_method_3_code 25 = .ok (.dup, 1) := by decide +kernel
theorem d4_26 : decode prog_157_method_3_code 26 = .ok (.getfield 23, 3) := by decide +kernel
theorem d4_29 : decode prog_157_method_3_code 29 = .ok (.iconst 1, 1) := by decide +kernel
theorem d4_30 : decode prog_157_method_3_code 30 = .ok (.isub, 1) := by decide +kernel
theorem d4_31 : decode prog_157_method_3_code 31 = .ok (.putfield 23, 3) := by decide +kernel
theorem d4_34 : decode prog_157_method_3_code 34 = .ok (.aload_n 0, 1) := by decide +kernel
theorem d4_35 : decode prog_157_method_3_code 35 = .ok (.dup, 1) := by decide +kernel
theorem d4_36 : decode prog_157_method_3_code 36 = .ok (.getfield 19, 3) := by decide +kernel
theorem d4_39 : decode prog_157_method_3_code 39 = .ok (.dup_x1, 1) := by decide +kernel
theorem d4_40 : decode prog_157_method_3_code 40 = .ok (.iconst 1, 1) := by decide +kernel
theorem d4_41 : decode prog_157_method_3_code 41 = .ok (.iadd, 1) := by decide +kernel
theorem d4_42 : decode prog_157_method_3_code 42 = .ok (.putfield 19, 3) := by decide +kernel
theorem d4_45 : decode prog_157_method_3_code 45 = .ok (.ireturn, 1) := by decide +kernel
theorem ef_4v0 (m : MethodId) (a4_0 : Addr) : entryFrame m #[(.ref a4_0)] 1 = mkF m 0 #[.val (.ref a4_0)] [] := by first | (simp [entryFrame, mkF, argsToLocals, Value.category]; done) | rfl
def Q4v0 (Z : State) (a4_0 : Addr) (u4_left : Int32) (b4_free : Addr) (u4_next : Int32) (h0 : Heap) (n0 : Nat) (v : Option Value) (h : Heap) (L : List Loc) : Prop := v = some (.int u4_next) ∧ Fr n0 L ∧ Keep h0 h [a4_0] ∧ Exa Z h a4_0 "com/example/epochwise/epochwise/server/Numbering" ∧ Fld Z h a4_0 "com/example/epochwise/epochwise/server/Numbering" "freeCount" "I" (.int 0) ∧ Fld Z h a4_0 "com/example/epochwise/epochwise/server/Numbering" "free" "[I" (.ref b4_free) ∧ Fld Z h a4_0 "com/example/epochwise/epochwise/server/Numbering" "left" "I" (.int (u4_left - (1 : Int32))) ∧ Fld Z h a4_0 "com/example/epochwise/epochwise/server/Numbering" "next" "I" (.int (u4_next + (1 : Int32)))
set_option maxRecDepth 65536 in
set_option maxHeartbeats 40000000 in
theorem rm4v0 (l : Launch) (Z : State) (a0 : Array Value) (hw : ∀ d ∈ tables_1, d.before a0 Z = true) (ws : List Jvm.Cond) (a4_0 : Addr) (u4_left : Int32) (b4_free : Addr) (u4_next : Int32) (h0 : Heap) (n0 : Nat) (Z0 : n0 ≤ h0.size) (F_freeCount_a4_0 : Fld Z h0 a4_0 "com/example/epochwise/epochwise/server/Numbering" "freeCount" "I" (.int 0)) (F_left_a4_0 : Fld Z h0 a4_0 "com/example/epochwise/epochwise/server/Numbering" "left" "I" (.int u4_left)) (F_free_a4_0 : Fld Z h0 a4_0 "com/example/epochwise/epochwise/server/Numbering" "free" "[I" (.ref b4_free)) (F_next_a4_0 : Fld Z h0 a4_0 "com/example/epochwise/epochwise/server/Numbering" "next" "I" (.int u4_next)) (E_a4_0 : Exa Z h0 a4_0 "com/example/epochwise/epochwise/server/Numbering") (g_a4_0 : n0 ≤ a4_0) :
    MetFree l (⟨"com/example/epochwise/epochwise/server/Numbering", "take", "()I"⟩ : MethodName) (head1 (Jvm.Cond.code (⟨"com/example/epochwise/epochwise/server/Numbering", "take", "()I"⟩ : MethodName) prog_157_method_3_code 1 (some .int) :: ws) ({ frames := 0, cells := 0, slots := 0, locals := 0 } : Room)) (fun a U => a = #[(.ref a4_0)] ∧ Z.Warmed39 U.vm ∧ U.heap = h0) (fun _ _ _ _ _ => True) (fun _ U o U' => ∃ v L, o = .returned v ∧ Q4v0 Z a4_0 u4_left b4_free u4_next h0 n0 v U'.heap L ∧ FrameEnd U o U' L ({ frames := 0, cells := 0, slots := 0, locals := 0 } : Room).cells ({ frames := 0, cells := 0, slots := 0, locals := 0 } : Room).slots) := by
  refine MetFree.of_bodySF (plainFor_of_name pn_com_example_epochwise_epochwise_server_Numbering) hisR ?_
  intro p e s m args below meth c s₁ Bd hml0 hP hK
  obtain ⟨rfl, hZ, hh⟩ := hP
  have hx := Bd.exec
  have hby := Bd.bytes
  have hlk := Bd.notSynchronized
  have hret := Bd.returns
  have hml : c.maxLocals = 1 := hml0
  have hown : s.vm.findClass "com/example/epochwise/epochwise/server/Numbering" = some m.cls := findClass_of_methodNamed Bd.named
  have hnm := (name_of_methodNamed Bd.named Bd.method).1
  have X0 : Stand p l e ({ frames := 0, cells := 0, slots := 0, locals := 0 } : Room) s m #[(.ref a4_0)] below meth c s₁ [] 0 0 := Stand.of_body Bd
  have e0 : s₁.heap = h0 := by rw [← hh, Bd.state]; rfl
  have N0 := Fr.nil n0
  have K0 : Keep h0 h0 [a4_0] := Keep.refl _ _
  show own_G p e below s (Q4v0 Z a4_0 u4_left b4_free u4_next h0 n0) ({ frames := 0, cells := 0, slots := 0, locals := 0 } : Room).cells ({ frames := 0, cells := 0, slots := 0, locals := 0 } : Room).slots s₁ (entryFrame m #[(.ref a4_0)] 1)
  have ww6 := hw _ (List.mem_of_getElem? (i := 6) rfl)
  have ww17 := hw _ (List.mem_of_getElem? (i := 17) rfl)
  have ww18 := hw _ (List.mem_of_getElem? (i := 18) rfl)
  have ww19 := hw _ (List.mem_of_getElem? (i := 19) rfl)
  have ww20 := hw _ (List.mem_of_getElem? (i := 20) rfl)
  have ww26 := hw _ (List.mem_of_getElem? (i := 26) rfl)
  refine own_cast (ef_4v0 m a4_0) ?_
  refine own_s (g' := (mkF m 1 #[.val (.ref a4_0)] [(.ref a4_0)])) (fun _ k => XS.aloadN X0.here hx rfl (hb hby d4_0) rfl rfl k) ?_
  obtain ⟨T22, X22, e22, st22⟩ := getF X0 hx hZ hown (host := "") (Or.inl ww26) Via.refl e0 F_freeCount_a4_0 (g := (mkF m 1 #[.val (.ref a4_0)] [(.ref a4_0)])) rfl rfl (hb hby d4_1)
  refine own_s (g' := (mkF m 4 #[.val (.ref a4_0)] [(.int 0)])) st22 ?_
  refine own_s (g' := (mkF m 24 #[.val (.ref a4_0)] [])) (fun _ k => XS.ifYes X22.here hx rfl (pc0 := 4) (pc' := 24) rfl (hb hby d4_4) rfl ((if0 _ _).trans (flt ((by decide) : ¬ (0 : Int32) < (0 : Int32))).2.2.2) (by decide) (by decide) k) ?_
  refine own_s (g' := (mkF m 25 #[.val (.ref a4_0)] [(.ref a4_0)])) (fun _ k => XS.aloadN X22.here hx rfl (hb hby d4_24) rfl rfl k) ?_
  refine own_s (g' := (mkF m 26 #[.val (.ref a4_0)] [(.ref a4_0), (.ref a4_0)])) (fun _ k => XS.dup X22.here hx rfl (hb hby d4_25) rfl rfl k) ?_
  obtain ⟨T23, X23, e23, st23⟩ := getF X22 hx hZ hown (host := "") (Or.inl ww19) Via.refl e22 F_left_a4_0 (g := (mkF m 26 #[.val (.ref a4_0)] [(.ref a4_0), (.ref a4_0)])) rfl rfl (hb hby d4_26)
  refine own_s (g' := (mkF m 29 #[.val (.ref a4_0)] [(.int u4_left), (.ref a4_0)])) st23 ?_
  refine own_s (g' := (mkF m 30 #[.val (.ref a4_0)] [(.int 1), (.int u4_left), (.ref a4_0)])) (fun _ k => XS.iconst X23.here hx rfl (hb hby d4_29) k) ?_
  refine own_s (g' := (mkF m 31 #[.val (.ref a4_0)] [(.int (u4_left - (1 : Int32))), (.ref a4_0)])) (fun _ k => XS.isub X23.here hx rfl (hb hby d4_30) rfl k) ?_
  obtain ⟨T24, h24, X24, e24, W24, st24⟩ := putF X23 hx hZ hown (host := "") (Or.inl ww19) Via.refl e23 F_left_a4_0 E_a4_0 (Or.inl ww20) ww6 (ty := .int) (by decide) rfl rfl (g := (mkF m 31 #[.val (.ref a4_0)] [(.int (u4_left - (1 : Int32))), (.ref a4_0)])) rfl rfl (hb hby d4_31)
  have f25 := F_left_a4_0.same W24
  have K24 := K0.wr W24 (Or.inl (List.mem_of_getElem? (i := 0) rfl))
  have N24 := Fr.snoc X24 N0 g_a4_0
  refine own_s (g' := (mkF m 34 #[.val (.ref a4_0)] [])) st24 ?_
  refine own_s (g' := (mkF m 35 #[.val (.ref a4_0)] [(.ref a4_0)])) (fun _ k => XS.aloadN X24.here hx rfl (hb hby d4_34) rfl rfl k) ?_
  refine own_s (g' := (mkF m 36 #[.val (.ref a4_0)] [(.ref a4_0), (.ref a4_0)])) (fun _ k => XS.dup X24.here hx rfl (hb hby d4_35) rfl rfl k) ?_
  have f26 := (F_next_a4_0.other W24 (Or.inr (own_sn_18_20 hw)))
  obtain ⟨T27, X27, e27, st27⟩ := getF X24 hx hZ hown (host := "") (Or.inl ww17) Via.refl e24 f26 (g := (mkF m 36 #[.val (.ref a4_0)] [(.ref a4_0), (.ref a4_0)])) rfl rfl (hb hby d4_36)
  refine own_s (g' := (mkF m 39 #[.val (.ref a4_0)] [(.int u4_next), (.ref a4_0)])) st27 ?_
  refine own_s (g' := (mkF m 40 #[.val (.ref a4_0)] [(.int u4_next), (.ref a4_0), (.int u4_next)])) (fun _ k => XS.dupX1 X27.here hx rfl (hb hby d4_39) rfl rfl rfl k) ?_
  refine own_s (g' := (mkF m 41 #[.val (.ref a4_0)] [(.int 1), (.int u4_next), (.ref a4_0), (.int u4_next)])) (fun _ k => XS.iconst X27.here hx rfl (hb hby d4_40) k) ?_
  refine own_s (g' := (mkF m 42 #[.val (.ref a4_0)] [(.int (u4_next + (1 : Int32))), (.ref a4_0), (.int u4_next)])) (fun _ k => XS.iadd X27.here hx rfl (hb hby d4_41) rfl k) ?_
  have f28 := (E_a4_0.wr W24)
  obtain ⟨T29, h29, X29, e29, W29, st29⟩ := putF X27 hx hZ hown (host := "") (Or.inl ww17) Via.refl e27 f26 f28 (Or.inl ww18) ww6 (ty := .int) (by decide) rfl rfl (g := (mkF m 42 #[.val (.ref a4_0)] [(.int (u4_next + (1 : Int32))), (.ref a4_0), (.int u4_next)])) rfl rfl (hb hby d4_42)
  have f30 := f26.same W29
  have K29 := K24.wr W29 (Or.inl (List.mem_of_getElem? (i := 0) rfl))
  have N29 := Fr.snoc X29 N24 g_a4_0
  refine own_s (g' := (mkF m 45 #[.val (.ref a4_0)] [(.int u4_next)])) st29 ?_
  have f31 := ((F_freeCount_a4_0.other W24 (Or.inr (own_sn_27_20 hw))).other W29 (Or.inr (own_sn_27_18 hw)))
  have f32 := ((F_free_a4_0.other W24 (Or.inr (own_sn_16_20 hw))).other W29 (Or.inr (own_sn_16_18 hw)))
  have f33 := (f28.wr W29)
  have f34 := (f25.other W29 (Or.inr (own_sn_20_18 hw)))
  refine own_retI X29 hx hlk hret (hb hby d4_45) (by decide) (by decide) ?_
  show Q4v0 Z a4_0 u4_left b4_free u4_next h0 n0 _ T29.heap _
  rw [e29]
  exact ⟨rfl, N29, K29, f33, f31, f32, f34, f30⟩
theorem own_sn_16_27 {Z : State} {a0 : Array Value} (hw : ∀ d ∈ tables_1, d.before a0 Z = true) : Jvm.RoadKit.slotOf Z "com/example/epochwise/epochwise/server/Numbering" "free" "[I" ≠ Jvm.RoadKit.slotOf Z "com/example/epochwise/epochwise/server/Numbering" "freeCount" "I" := slot_ne (Or.inl (hw _ (List.mem_of_getElem? (i := 16) rfl))) (Or.inl (hw _ (List.mem_of_getElem? (i := 27) rfl))) (by decide) (t := (.array .int)) (t' := .int) (by decide) (by decide)
theorem own_sn_18_27 {Z : State} {a0 : Array Value} (hw : ∀ d ∈ tables_1, d.before a0 Z = true) : Jvm.RoadKit.slotOf Z "com/example/epochwise/epochwise/server/Numbering" "next" "I" ≠ Jvm.RoadKit.slotOf Z "com/example/epochwise/epochwise/server/Numbering" "freeCount" "I" := slot_ne (Or.inl (hw _ (List.mem_of_getElem? (i := 18) rfl))) (Or.inl (hw _ (List.mem_of_getElem? (i := 27) rfl))) (by decide) (t := .int) (t' := .int) (by decide) (by decide)
theorem own_sn_20_27 {Z : State} {a0 : Array Value} (hw : ∀ d ∈ tables_1, d.before a0 Z = true) : Jvm.RoadKit.slotOf Z "com/example/epochwise/epochwise/server/Numbering" "left" "I" ≠ Jvm.RoadKit.slotOf Z "com/example/epochwise/epochwise/server/Numbering" "freeCount" "I" := slot_ne (Or.inl (hw _ (List.mem_of_getElem? (i := 20) rfl))) (Or.inl (hw _ (List.mem_of_getElem? (i := 27) rfl))) (by decide) (t := .int) (t' := .int) (by decide) (by decide)
theorem d4_7 : decode prog_157_method_3_code 7 = .ok (.aload_n 0, 1) := by decide +kernel
theorem d4_8 : decode prog_157_method_3_code 8 = .ok (.getfield 15, 3) := by decide +kernel
theorem d4_11 : decode prog_157_method_3_code 11 = .ok (.aload_n 0, 1) := by decide +kernel
theorem d4_12 : decode prog_157_method_3_code 12 = .ok (.dup, 1) := by decide +kernel
theorem d4_13 : decode prog_157_method_3_code 13 = .ok (.getfield 26, 3) := by decide +kernel
theorem d4_16 : decode prog_157_method_3_code 16 = .ok (.iconst 1, 1) := by decide +kernel
theorem d4_17 : decode prog_157_method_3_code 17 = .ok (.isub, 1) := by decide +kernel
theorem d4_18 : decode prog_157_method_3_code 18 = .ok (.dup_x1, 1) := by decide +kernel
theorem d4_19 : decode prog_157_method_3_code 19 = .ok (.putfield 26, 3) := by decide +kernel
theorem d4_22 : decode prog_157_method_3_code 22 = .ok (.iaload, 1) := by decide +kernel
theorem d4_23 : decode prog_157_method_3_code 23 = .ok (.ireturn, 1) := by decide +kernel
theorem ef_4v1 (m : MethodId) (a4_0 : Addr) : entryFrame m #[(.ref a4_0)] 1 = mkF m 0 #[.val (.ref a4_0)] [] := by first | (simp [entryFrame, mkF, argsToLocals, Value.category]; done) | rfl
def Q4v1 (Z : State) (a4_0 : Addr) (b4_free : Addr) (u4_next : Int32) (u4_left : Int32) (ky : ClassId) (y0 : Int32) (y1 : Int32) (h0 : Heap) (n0 : Nat) (v : Option Value) (h : Heap) (L : List Loc) : Prop := v = some (.int y0) ∧ Fr n0 L ∧ Keep h0 h [a4_0] ∧ Exa Z h a4_0 "com/example/epochwise/epochwise/server/Numbering" ∧ Fld Z h a4_0 "com/example/epochwise/epochwise/server/Numbering" "free" "[I" (.ref b4_free) ∧ Fld Z h a4_0 "com/example/epochwise/epochwise/server/Numbering" "next" "I" (.int u4_next) ∧ Fld Z h a4_0 "com/example/epochwise/epochwise/server/Numbering" "left" "I" (.int u4_left) ∧ Fld Z h a4_0 "com/example/epochwise/epochwise/server/Numbering" "freeCount" "I" (.int 0)
set_option maxRecDepth 65536 in
set_option maxHeartbeats 40000000 in
theorem rm4v1 (l : Launch) (Z : State) (a0 : Array Value) (hw : ∀ d ∈ tables_1, d.before a0 Z = true) (ws : List Jvm.Cond) (a4_0 : Addr) (b4_free : Addr) (u4_next : Int32) (u4_left : Int32) (ky : ClassId) (y0 : Int32) (y1 : Int32) (h0 : Heap) (n0 : Nat) (Z0 : n0 ≤ h0.size) (F_freeCount_a4_0 : Fld Z h0 a4_0 "com/example/epochwise/epochwise/server/Numbering" "freeCount" "I" (.int 1)) (F_free_a4_0 : Fld Z h0 a4_0 "com/example/epochwise/epochwise/server/Numbering" "free" "[I" (.ref b4_free)) (F_next_a4_0 : Fld Z h0 a4_0 "com/example/epochwise/epochwise/server/Numbering" "next" "I" (.int u4_next)) (F_left_a4_0 : Fld Z h0 a4_0 "com/example/epochwise/epochwise/server/Numbering" "left" "I" (.int u4_left)) (E_a4_0 : Exa Z h0 a4_0 "com/example/epochwise/epochwise/server/Numbering") (V_b4_free : Arv Z h0 b4_free ky .int (16 : Int32) [(.int y0), (.int y1)] (.int (0 : Int32))) (g_a4_0 : n0 ≤ a4_0) (ne_b4_free_a4_0 : b4_free ≠ a4_0) :
    MetFree l (⟨"com/example/epochwise/epochwise/server/Numbering", "take", "()I"⟩ : MethodName) (head1 (Jvm.Cond.code (⟨"com/example/epochwise/epochwise/server/Numbering", "take", "()I"⟩ : MethodName) prog_157_method_3_code 1 (some .int) :: ws) ({ frames := 0, cells := 0, slots := 0, locals := 0 } : Room)) (fun a U => a = #[(.ref a4_0)] ∧ Z.Warmed39 U.vm ∧ U.heap = h0) (fun _ _ _ _ _ => True) (fun _ U o U' => ∃ v L, o = .returned v ∧ Q4v1 Z a4_0 b4_free u4_next u4_left ky y0 y1 h0 n0 v U'.heap L ∧ FrameEnd U o U' L ({ frames := 0, cells := 0, slots := 0, locals := 0 } : Room).cells ({ frames := 0, cells := 0, slots := 0, locals := 0 } : Room).slots) := by
  refine MetFree.of_bodySF (plainFor_of_name pn_com_example_epochwise_epochwise_server_Numbering) hisR ?_
  intro p e s m args below meth c s₁ Bd hml0 hP hK
  obtain ⟨rfl, hZ, hh⟩ := hP
  have hx := Bd.exec
  have hby := Bd.bytes
  have hlk := Bd.notSynchronized
  have hret := Bd.returns
  have hml : c.maxLocals = 1 := hml0
  have hown : s.vm.findClass "com/example/epochwise/epochwise/server/Numbering" = some m.cls := findClass_of_methodNamed Bd.named
  have hnm := (name_of_methodNamed Bd.named Bd.method).1
  have X0 : Stand p l e ({ frames := 0, cells := 0, slots := 0, locals := 0 } : Room) s m #[(.ref a4_0)] below meth c s₁ [] 0 0 := Stand.of_body Bd
  have e0 : s₁.heap = h0 := by rw [← hh, Bd.state]; rfl
  have N0 := Fr.nil n0
  have K0 : Keep h0 h0 [a4_0] := Keep.refl _ _
  show own_G p e below s (Q4v1 Z a4_0 b4_free u4_next u4_left ky y0 y1 h0 n0) ({ frames := 0, cells := 0, slots := 0, locals := 0 } : Room).cells ({ frames := 0, cells := 0, slots := 0, locals := 0 } : Room).slots s₁ (entryFrame m #[(.ref a4_0)] 1)
  have ww6 := hw _ (List.mem_of_getElem? (i := 6) rfl)
  have ww15 := hw _ (List.mem_of_getElem? (i := 15) rfl)
  have ww26 := hw _ (List.mem_of_getElem? (i := 26) rfl)
  have ww27 := hw _ (List.mem_of_getElem? (i := 27) rfl)
  refine own_cast (ef_4v1 m a4_0) ?_
  refine own_s (g' := (mkF m 1 #[.val (.ref a4_0)] [(.ref a4_0)])) (fun _ k => XS.aloadN X0.here hx rfl (hb hby d4_0) rfl rfl k) ?_
  obtain ⟨T35, X35, e35, st35⟩ := getF X0 hx hZ hown (host := "") (Or.inl ww26) Via.refl e0 F_freeCount_a4_0 (g := (mkF m 1 #[.val (.ref a4_0)] [(.ref a4_0)])) rfl rfl (hb hby d4_1)
  refine own_s (g' := (mkF m 4 #[.val (.ref a4_0)] [(.int 1)])) st35 ?_
  refine own_s (g' := (mkF m 7 #[.val (.ref a4_0)] [])) (fun _ k => XS.ifNo X35.here hx rfl (hb hby d4_4) rfl ((if0 _ _).trans (tlt ((by decide) : (0 : Int32) < (1 : Int32))).2.2.2) k) ?_
  refine own_s (g' := (mkF m 8 #[.val (.ref a4_0)] [(.ref a4_0)])) (fun _ k => XS.aloadN X35.here hx rfl (hb hby d4_7) rfl rfl k) ?_
  obtain ⟨T36, X36, e36, st36⟩ := getF X35 hx hZ hown (host := "") (Or.inl ww15) Via.refl e35 F_free_a4_0 (g := (mkF m 8 #[.val (.ref a4_0)] [(.ref a4_0)])) rfl rfl (hb hby d4_8)
  refine own_s (g' := (mkF m 11 #[.val (.ref a4_0)] [(.ref b4_free)])) st36 ?_
  refine own_s (g' := (mkF m 12 #[.val (.ref a4_0)] [(.ref a4_0), (.ref b4_free)])) (fun _ k => XS.aloadN X36.here hx rfl (hb hby d4_11) rfl rfl k) ?_
  refine own_s (g' := (mkF m 13 #[.val (.ref a4_0)] [(.ref a4_0), (.ref a4_0), (.ref b4_free)])) (fun _ k => XS.dup X36.here hx rfl (hb hby d4_12) rfl rfl k) ?_
  obtain ⟨T37, X37, e37, st37⟩ := getF X36 hx hZ hown (host := "") (Or.inl ww26) Via.refl e36 F_freeCount_a4_0 (g := (mkF m 13 #[.val (.ref a4_0)] [(.ref a4_0), (.ref a4_0), (.ref b4_free)])) rfl rfl (hb hby d4_13)
  refine own_s (g' := (mkF m 16 #[.val (.ref a4_0)] [(.int 1), (.ref a4_0), (.ref b4_free)])) st37 ?_
  refine own_s (g' := (mkF m 17 #[.val (.ref a4_0)] [(.int 1), (.int 1), (.ref a4_0), (.ref b4_free)])) (fun _ k => XS.iconst X37.here hx rfl (hb hby d4_16) k) ?_
  refine own_s (g' := (mkF m 18 #[.val (.ref a4_0)] [(.int ((1 : Int32) - (1 : Int32))), (.ref a4_0), (.ref b4_free)])) (fun _ k => XS.isub X37.here hx rfl (hb hby d4_17) rfl k) ?_
  rw [show ((1 : Int32) - (1 : Int32)) = (0 : Int32) from by decide]
  refine own_s (g' := (mkF m 19 #[.val (.ref a4_0)] [(.int 0), (.ref a4_0), (.int 0), (.ref b4_free)])) (fun _ k => XS.dupX1 X37.here hx rfl (hb hby d4_18) rfl rfl rfl k) ?_
  obtain ⟨T38, h38, X38, e38, W38, st38⟩ := putF X37 hx hZ hown (host := "") (Or.inl ww26) Via.refl e37 F_freeCount_a4_0 E_a4_0 (Or.inl ww27) ww6 (ty := .int) (by decide) rfl rfl (g := (mkF m 19 #[.val (.ref a4_0)] [(.int 0), (.ref a4_0), (.int 0), (.ref b4_free)])) rfl rfl (hb hby d4_19)
  have f39 := F_freeCount_a4_0.same W38
  have K38 := K0.wr W38 (Or.inl (List.mem_of_getElem? (i := 0) rfl))
  have N38 := Fr.snoc X38 N0 g_a4_0
  refine own_s (g' := (mkF m 22 #[.val (.ref a4_0)] [(.int 0), (.ref b4_free)])) st38 ?_
  have f40 := (V_b4_free.other W38 ne_b4_free_a4_0)
  obtain ⟨cl41, Ar41, -, S41, -, H41, -⟩ := id f40
  have in41 := inb_of S41 (j := (0 : Int32)) ⟨by decide, by decide⟩
  refine own_s (g' := (mkF m 23 #[.val (.ref a4_0)] [(.int y0)])) (X38.iaload hx (j := (0 : Int32)) (v := (.int y0)) (by rw [e38]; exact Ar41.1) (State.isArrayOf_alike hZ.alike Ar41.2.1) Ar41.2.2 in41 (Has.at H41 in41 rfl) (g := (mkF m 22 #[.val (.ref a4_0)] [(.int 0), (.ref b4_free)])) rfl rfl (hb hby d4_22)) ?_
  have f42 := (F_free_a4_0.other W38 (Or.inr (own_sn_16_27 hw)))
  have f43 := (F_next_a4_0.other W38 (Or.inr (own_sn_18_27 hw)))
  have f44 := (F_left_a4_0.other W38 (Or.inr (own_sn_20_27 hw)))
  have f45 := (E_a4_0.wr W38)
  refine own_retI X38 hx hlk hret (hb hby d4_23) (by decide) (by decide) ?_
  show Q4v1 Z a4_0 b4_free u4_next u4_left ky y0 y1 h0 n0 _ T38.heap _
  rw [e38]
  exact ⟨rfl, N38, K38, f45, f42, f43, f44, f39⟩
theorem ef_4v2 (m : MethodId) (a4_0 : Addr) : entryFrame m #[(.ref a4_0)] 1 = mkF m 0 #[.val (.ref a4_0)] [] := by first | (simp [entryFrame, mkF, argsToLocals, Value.category]; done) | rfl
def Q4v2 (Z : State) (a4_0 : Addr) (b4_free : Addr) (u4_next : Int32) (u4_left : Int32) (ky : ClassId) (y0 : Int32) (y1 : Int32) (h0 : Heap) (n0 : Nat) (v : Option Value) (h : Heap) (L : List Loc) : Prop := v = some (.int y1) ∧ Fr n0 L ∧ Keep h0 h [a4_0] ∧ Exa Z h a4_0 "com/example/epochwise/epochwise/server/Numbering" ∧ Fld Z h a4_0 "com/example/epochwise/epochwise/server/Numbering" "free" "[I" (.ref b4_free) ∧ Fld Z h a4_0 "com/example/epochwise/epochwise/server/Numbering" "next" "I" (.int u4_next) ∧ Fld Z h a4_0 "com/example/epochwise/epochwise/server/Numbering" "left" "I" (.int u4_left) ∧ Fld Z h a4_0 "com/example/epochwise/epochwise/server/Numbering" "freeCount" "I" (.int 1)
set_option maxRecDepth 65536 in
set_option maxHeartbeats 40000000 in
theorem rm4v2 (l : Launch) (Z : State) (a0 : Array Value) (hw : ∀ d ∈ tables_1, d.before a0 Z = true) (ws : List Jvm.Cond) (a4_0 : Addr) (b4_free : Addr) (u4_next : Int32) (u4_left : Int32) (ky : ClassId) (y0 : Int32) (y1 : Int32) (h0 : Heap) (n0 : Nat) (Z0 : n0 ≤ h0.size) (F_freeCount_a4_0 : Fld Z h0 a4_0 "com/example/epochwise/epochwise/server/Numbering" "freeCount" "I" (.int 2)) (F_free_a4_0 : Fld Z h0 a4_0 "com/example/epochwise/epochwise/server/Numbering" "free" "[I" (.ref b4_free)) (F_next_a4_0 : Fld Z h0 a4_0 "com/example/epochwise/epochwise/server/Numbering" "next" "I" (.int u4_next)) (F_left_a4_0 : Fld Z h0 a4_0 "com/example/epochwise/epochwise/server/Numbering" "left" "I" (.int u4_left)) (E_a4_0 : Exa Z h0 a4_0 "com/example/epochwise/epochwise/server/Numbering") (V_b4_free : Arv Z h0 b4_free ky .int (16 : Int32) [(.int y0), (.int y1)] (.int (0 : Int32))) (g_a4_0 : n0 ≤ a4_0) (ne_b4_free_a4_0 : b4_free ≠ a4_0) :
    MetFree l (⟨"com/example/epochwise/epochwise/server/Numbering", "take", "()I"⟩ : MethodName) (head1 (Jvm.Cond.code (⟨"com/example/epochwise/epochwise/server/Numbering", "take", "()I"⟩ : MethodName) prog_157_method_3_code 1 (some .int) :: ws) ({ frames := 0, cells := 0, slots := 0, locals := 0 } : Room)) (fun a U => a = #[(.ref a4_0)] ∧ Z.Warmed39 U.vm ∧ U.heap = h0) (fun _ _ _ _ _ => True) (fun _ U o U' => ∃ v L, o = .returned v ∧ Q4v2 Z a4_0 b4_free u4_next u4_left ky y0 y1 h0 n0 v U'.heap L ∧ FrameEnd U o U' L ({ frames := 0, cells := 0, slots := 0, locals := 0 } : Room).cells ({ frames := 0, cells := 0, slots := 0, locals := 0 } : Room).slots) := by
  refine MetFree.of_bodySF (plainFor_of_name pn_com_example_epochwise_epochwise_server_Numbering) hisR ?_
  intro p e s m args below meth c s₁ Bd hml0 hP hK
  obtain ⟨rfl, hZ, hh⟩ := hP
  have hx := Bd.exec
  have hby := Bd.bytes
  have hlk := Bd.notSynchronized
  have hret := Bd.returns
  have hml : c.maxLocals = 1 := hml0
  have hown : s.vm.findClass "com/example/epochwise/epochwise/server/Numbering" = some m.cls := findClass_of_methodNamed Bd.named
  have hnm := (name_of_methodNamed Bd.named Bd.method).1
  have X0 : Stand p l e ({ frames := 0, cells := 0, slots := 0, locals := 0 } : Room) s m #[(.ref a4_0)] below meth c s₁ [] 0 0 := Stand.of_body Bd
  have e0 : s₁.heap = h0 := by rw [← hh, Bd.state]; rfl
  have N0 := Fr.nil n0
  have K0 : Keep h0 h0 [a4_0] := Keep.refl _ _
  show own_G p e below s (Q4v2 Z a4_0 b4_free u4_next u4_left ky y0 y1 h0 n0) ({ frames := 0, cells := 0, slots := 0, locals := 0 } : Room).cells ({ frames := 0, cells := 0, slots := 0, locals := 0 } : Room).slots s₁ (entryFrame m #[(.ref a4_0)] 1)
  have ww6 := hw _ (List.mem_of_getElem? (i := 6) rfl)
  have ww15 := hw _ (List.mem_of_getElem? (i := 15) rfl)
  have ww26 := hw _ (List.mem_of_getElem? (i := 26) rfl)
  have ww27 := hw _ (List.mem_of_getElem? (i := 27) rfl)
  refine own_cast (ef_4v2 m a4_0) ?_
  refine own_s (g' := (mkF m 1 #[.val (.ref a4_0)] [(.ref a4_0)])) (fun _ k => XS.aloadN X0.here hx rfl (hb hby d4_0) rfl rfl k) ?_
  obtain ⟨T46, X46, e46, st46⟩ := getF X0 hx hZ hown (host := "") (Or.inl ww26) Via.refl e0 F_freeCount_a4_0 (g := (mkF m 1 #[.val (.ref a4_0)] [(.ref a4_0)])) rfl rfl (hb hby d4_1)
  refine own_s (g' := (mkF m 4 #[.val (.ref a4_0)] [(.int 2)])) st46 ?_
  refine own_s (g' := (mkF m 7 #[.val (.ref a4_0)] [])) (fun _ k => XS.ifNo X46.here hx rfl (hb hby d4_4) rfl ((if0 _ _).trans (tlt ((by decide) : (0 : Int32) < (2 : Int32))).2.2.2) k) ?_
  refine own_s (g' := (mkF m 8 #[.val (.ref a4_0)] [(.ref a4_0)])) (fun _ k => XS.aloadN X46.here hx rfl (hb hby d4_7) rfl rfl k) ?_
  obtain ⟨T47, X47, e47, st47⟩ := getF X46 hx hZ hown (host := "") (Or.inl ww15) Via.refl e46 F_free_a4_0 (g := (mkF m 8 #[.val (.ref a4_0)] [(.ref a4_0)])) rfl rfl (hb hby d4_8)
  refine own_s (g' := (mkF m 11 #[.val (.ref a4_0)] [(.ref b4_free)])) st47 ?_
  refine own_s (g' := (mkF m 12 #[.val (.ref a4_0)] [(.ref a4_0), (.ref b4_free)])) (fun _ k => XS.aloadN X47.here hx rfl (hb hby d4_11) rfl rfl k) ?_
  refine own_s (g' := (mkF m 13 #[.val (.ref a4_0)] [(.ref a4_0), (.ref a4_0), (.ref b4_free)])) (fun _ k => XS.dup X47.here hx rfl (hb hby d4_12) rfl rfl k) ?_
  obtain ⟨T48, X48, e48, st48⟩ := getF X47 hx hZ hown (host := "") (Or.inl ww26) Via.refl e47 F_freeCount_a4_0 (g := (mkF m 13 #[.val (.ref a4_0)] [(.ref a4_0), (.ref a4_0), (.ref b4_free)])) rfl rfl (hb hby d4_13)
  refine own_s (g' := (mkF m 16 #[.val (.ref a4_0)] [(.int 2), (.ref a4_0), (.ref b4_free)])) st48 ?_
  refine own_s (g' := (mkF m 17 #[.val (.ref a4_0)] [(.int 1), (.int 2), (.ref a4_0), (.ref b4_free)])) (fun _ k => XS.iconst X48.here hx rfl (hb hby d4_16) k) ?_
  refine own_s (g' := (mkF m 18 #[.val (.ref a4_0)] [(.int ((2 : Int32) - (1 : Int32))), (.ref a4_0), (.ref b4_free)])) (fun _ k => XS.isub X48.here hx rfl (hb hby d4_17) rfl k) ?_
  rw [show ((2 : Int32) - (1 : Int32)) = (1 : Int32) from by decide]
  refine own_s (g' := (mkF m 19 #[.val (.ref a4_0)] [(.int 1), (.ref a4_0), (.int 1), (.ref b4_free)])) (fun _ k => XS.dupX1 X48.here hx rfl (hb hby d4_18) rfl rfl rfl k) ?_
  obtain ⟨T49, h49, X49, e49, W49, st49⟩ := putF X48 hx hZ hown (host := "") (Or.inl ww26) Via.refl e48 F_freeCount_a4_0 E_a4_0 (Or.inl ww27) ww6 (ty := .int) (by decide) rfl rfl (g := (mkF m 19 #[.val (.ref a4_0)] [(.int 1), (.ref a4_0), (.int 1), (.ref b4_free)])) rfl rfl (hb hby d4_19)
  have f50 := F_freeCount_a4_0.same W49
  have K49 := K0.wr W49 (Or.inl (List.mem_of_getElem? (i := 0) rfl))
  have N49 := Fr.snoc X49 N0 g_a4_0
  refine own_s (g' := (mkF m 22 #[.val (.ref a4_0)] [(.int 1), (.ref b4_free)])) st49 ?_
  have f51 := (V_b4_free.other W49 ne_b4_free_a4_0)
  obtain ⟨cl52, Ar52, -, S52, -, H52, -⟩ := id f51
  have in52 := inb_of S52 (j := (1 : Int32)) ⟨by decide, by decide⟩
  refine own_s (g' := (mkF m 23 #[.val (.ref a4_0)] [(.int y1)])) (X49.iaload hx (j := (1 : Int32)) (v := (.int y1)) (by rw [e49]; exact Ar52.1) (State.isArrayOf_alike hZ.alike Ar52.2.1) Ar52.2.2 in52 (Has.at H52 in52 rfl) (g := (mkF m 22 #[.val (.ref a4_0)] [(.int 1), (.ref b4_free)])) rfl rfl (hb hby d4_22)) ?_
  have f53 := (F_free_a4_0.other W49 (Or.inr (own_sn_16_27 hw)))
  have f54 := (F_next_a4_0.other W49 (Or.inr (own_sn_18_27 hw)))
  have f55 := (F_left_a4_0.other W49 (Or.inr (own_sn_20_27 hw)))
  have f56 := (E_a4_0.wr W49)
  refine own_retI X49 hx hlk hret (hb hby d4_23) (by decide) (by decide) ?_
  show Q4v2 Z a4_0 b4_free u4_next u4_left ky y0 y1 h0 n0 _ T49.heap _
  rw [e49]
  exact ⟨rfl, N49, K49, f56, f53, f54, f55, f50⟩
theorem d6_0 : decode prog_157_method_4_code 0 = .ok (.aload_n 0, 1) := by decide +kernel
theorem d6_1 : decode prog_157_method_4_code 1 = .ok (.getfield 26, 3) := by decide +kernel
theorem d6_4 : decode prog_157_method_4_code 4 = .ok (.aload_n 0, 1) := by decide +kernel
theorem d6_5 : decode prog_157_method_4_code 5 = .ok (.getfield 15, 3) := by decide +kernel
theorem d6_8 : decode prog_157_method_4_code 8 = .ok (.arraylength, 1) := by decide +kernel
theorem d6_9 : decode prog_157_method_4_code 9 = .ok (.if_icmp .ne 20, 3) := by decide +kernel
theorem d6_29 : decode prog_157_method_4_code 29 = .ok (.aload_n 0, 1) := by decide +kernel
theorem d6_30 : decode prog_157_method_4_code 30 = .ok (.getfield 15, 3) := by decide +kernel
theorem d6_33 : decode prog_157_method_4_code 33 = .ok (.aload_n 0, 1) := by decide +kernel
theorem d6_34 : decode prog_157_method_4_code 34 = .ok (.dup, 1) := by decide +kernel
theorem d6_35 : decode prog_157_method_4_code 35 = .ok (.getfield 26, 3) := by decide +kernel
theorem d6_38 : decode prog_157_method_4_code 38 = .ok (.dup_x1, 1) := by decide +kernel
theorem d6_39 : decode prog_157_method_4_code 39 = .ok (.iconst 1, 1) := by decide +kernel
theorem d6_40 : decode prog_157_method_4_code 40 = .ok (.iadd, 1) := by decide +kernel
theorem d6_41 : decode prog_157_method_4_code 41 = .ok (.putfield 26, 3) := by decide +kernel
theorem d6_44 : decode prog_157_method_4_code 44 = .ok (.iload_n 1, 1) := by decide +kernel
theorem d6_45 : decode prog_157_method_4_code 45 = .ok (.iastore, 1) := by decide +kernel
theorem d6_46 : decode prog_157_method_4_code 46 = .ok (.return_, 1) := by decide +kernel
theorem ef_6v0 (m : MethodId) (a6_0 : Addr) (p6_1 : Int32) : entryFrame m #[(.ref a6_0), (.int p6_1)] 2 = mkF m 0 #[.val (.ref a6_0), .val (.int p6_1)] [] := by first | (simp [entryFrame, mkF, argsToLocals, Value.category]; done) | rfl
def Q6v0 (Z : State) (a6_0 : Addr) (p6_1 : Int32) (b6_free : Addr) (u6_next : Int32) (u6_left : Int32) (ky : ClassId) (y0 : Int32) (y1 : Int32) (h0 : Heap) (n0 : Nat) (v : Option Value) (h : Heap) (L : List Loc) : Prop := v = none ∧ Fr n0 L ∧ Keep h0 h [a6_0, b6_free] ∧ Exa Z h a6_0 "com/example/epochwise/epochwise/server/Numbering" ∧ Fld Z h a6_0 "com/example/epochwise/epochwise/server/Numbering" "free" "[I" (.ref b6_free) ∧ Fld Z h a6_0 "com/example/epochwise/epochwise/server/Numbering" "next" "I" (.int u6_next) ∧ Fld Z h a6_0 "com/example/epochwise/epochwise/server/Numbering" "left" "I" (.int u6_left) ∧ Fld Z h a6_0 "com/example/epochwise/epochwise/server/Numbering" "freeCount" "I" (.int 1) ∧ Arv Z h b6_free ky .int (16 : Int32) [(.int p6_1), (.int y1)] (.int (0 : Int32))
set_option maxRecDepth 65536 in
set_option maxHeartbeats 40000000 in
theorem rm6v0 (l : Launch) (Z : State) (a0 : Array Value) (hw : ∀ d ∈ tables_1, d.before a0 Z = true) (ws : List Jvm.Cond) (a6_0 : Addr) (p6_1 : Int32) (b6_free : Addr) (u6_next : Int32) (u6_left : Int32) (ky : ClassId) (y0 : Int32) (y1 : Int32) (h0 : Heap) (n0 : Nat) (Z0 : n0 ≤ h0.size) (F_freeCount_a6_0 : Fld Z h0 a6_0 "com/example/epochwise/epochwise/server/Numbering" "freeCount" "I" (.int 0)) (F_free_a6_0 : Fld Z h0 a6_0 "com/example/epochwise/epochwise/server/Numbering" "free" "[I" (.ref b6_free)) (F_next_a6_0 : Fld Z h0 a6_0 "com/example/epochwise/epochwise/server/Numbering" "next" "I" (.int u6_next)) (F_left_a6_0 : Fld Z h0 a6_0 "com/example/epochwise/epochwise/server/Numbering" "left" "I" (.int u6_left)) (E_a6_0 : Exa Z h0 a6_0 "com/example/epochwise/epochwise/server/Numbering") (V_b6_free : Arv Z h0 b6_free ky .int (16 : Int32) [(.int y0), (.int y1)] (.int (0 : Int32))) (g_a6_0 : n0 ≤ a6_0) (g_b6_free : n0 ≤ b6_free) (ne_b6_free_a6_0 : b6_free ≠ a6_0) :
    MetFree l (⟨"com/example/epochwise/epochwise/server/Numbering", "give", "(I)V"⟩ : MethodName) (head1 (Jvm.Cond.code (⟨"com/example/epochwise/epochwise/server/Numbering", "give", "(I)V"⟩ : MethodName) prog_157_method_4_code 2 none :: ws) ({ frames := 0, cells := 0, slots := 0, locals := 0 } : Room)) (fun a U => a = #[(.ref a6_0), (.int p6_1)] ∧ Z.Warmed39 U.vm ∧ U.heap = h0) (fun _ _ _ _ _ => True) (fun _ U o U' => ∃ v L, o = .returned v ∧ Q6v0 Z a6_0 p6_1 b6_free u6_next u6_left ky y0 y1 h0 n0 v U'.heap L ∧ FrameEnd U o U' L ({ frames := 0, cells := 0, slots := 0, locals := 0 } : Room).cells ({ frames := 0, cells := 0, slots := 0, locals := 0 } : Room).slots) := by
  refine MetFree.of_bodySF (plainFor_of_name pn_com_example_epochwise_epochwise_server_Numbering) hisR ?_
  intro p e s m args below meth c s₁ Bd hml0 hP hK
  obtain ⟨rfl, hZ, hh⟩ := hP
  have hx := Bd.exec
  have hby := Bd.bytes
  have hlk := Bd.notSynchronized
  have hret := Bd.returns
  have hml : c.maxLocals = 2 := hml0
  have hown : s.vm.findClass "com/example/epochwise/epochwise/server/Numbering" = some m.cls := findClass_of_methodNamed Bd.named
  have hnm := (name_of_methodNamed Bd.named Bd.method).1
  have X0 : Stand p l e ({ frames := 0, cells := 0, slots := 0, locals := 0 } : Room) s m #[(.ref a6_0), (.int p6_1)] below meth c s₁ [] 0 0 := Stand.of_body Bd
  have e0 : s₁.heap = h0 := by rw [← hh, Bd.state]; rfl
  have N0 := Fr.nil n0
  have K0 : Keep h0 h0 [a6_0, b6_free] := Keep.refl _ _
  show own_G p e below s (Q6v0 Z a6_0 p6_1 b6_free u6_next u6_left ky y0 y1 h0 n0) ({ frames := 0, cells := 0, slots := 0, locals := 0 } : Room).cells ({ frames := 0, cells := 0, slots := 0, locals := 0 } : Room).slots s₁ (entryFrame m #[(.ref a6_0), (.int p6_1)] 2)
  have ww6 := hw _ (List.mem_of_getElem? (i := 6) rfl)
  have ww15 := hw _ (List.mem_of_getElem? (i := 15) rfl)
  have ww26 := hw _ (List.mem_of_getElem? (i := 26) rfl)
  have ww27 := hw _ (List.mem_of_getElem? (i := 27) rfl)
  refine own_cast (ef_6v0 m a6_0 p6_1) ?_
  refine own_s (g' := (mkF m 1 #[.val (.ref a6_0), .val (.int p6_1)] [(.ref a6_0)])) (fun _ k => XS.aloadN X0.here hx rfl (hb hby d6_0) rfl rfl k) ?_
  obtain ⟨T57, X57, e57, st57⟩ := getF X0 hx hZ hown (host := "") (Or.inl ww26) Via.refl e0 F_freeCount_a6_0 (g := (mkF m 1 #[.val (.ref a6_0), .val (.int p6_1)] [(.ref a6_0)])) rfl rfl (hb hby d6_1)
  refine own_s (g' := (mkF m 4 #[.val (.ref a6_0), .val (.int p6_1)] [(.int 0)])) st57 ?_
  refine own_s (g' := (mkF m 5 #[.val (.ref a6_0), .val (.int p6_1)] [(.ref a6_0), (.int 0)])) (fun _ k => XS.aloadN X57.here hx rfl (hb hby d6_4) rfl rfl k) ?_
  obtain ⟨T58, X58, e58, st58⟩ := getF X57 hx hZ hown (host := "") (Or.inl ww15) Via.refl e57 F_free_a6_0 (g := (mkF m 5 #[.val (.ref a6_0), .val (.int p6_1)] [(.ref a6_0), (.int 0)])) rfl rfl (hb hby d6_5)
  refine own_s (g' := (mkF m 8 #[.val (.ref a6_0), .val (.int p6_1)] [(.ref b6_free), (.int 0)])) st58 ?_
  obtain ⟨cl59, Ar59, -, S59, M59, -, -⟩ := id V_b6_free
  refine own_s (g' := (mkF m 9 #[.val (.ref a6_0), .val (.int p6_1)] [(.int 16), (.int 0)])) (fun t k => X58.arraylength hx (by rw [e58]; exact Ar59.1) (State.isArrayOf_alike hZ.alike Ar59.2.1) (g := (mkF m 8 #[.val (.ref a6_0), .val (.int p6_1)] [(.ref b6_free), (.int 0)])) rfl rfl (hb hby d6_8) _ (by rw [len_of S59 M59]; exact k)) ?_
  refine own_s (g' := (mkF m 29 #[.val (.ref a6_0), .val (.int p6_1)] [])) (fun _ k => XS.icmpYes X58.here hx rfl (pc0 := 9) (pc' := 29) rfl (hb hby d6_9) rfl (feq ((by decide) : ¬ (0 : Int32) = (16 : Int32))).2 (by decide) (by decide) k) ?_
  refine own_s (g' := (mkF m 30 #[.val (.ref a6_0), .val (.int p6_1)] [(.ref a6_0)])) (fun _ k => XS.aloadN X58.here hx rfl (hb hby d6_29) rfl rfl k) ?_
  obtain ⟨T60, X60, e60, st60⟩ := getF X58 hx hZ hown (host := "") (Or.inl ww15) Via.refl e58 F_free_a6_0 (g := (mkF m 30 #[.val (.ref a6_0), .val (.int p6_1)] [(.ref a6_0)])) rfl rfl (hb hby d6_30)
  refine own_s (g' := (mkF m 33 #[.val (.ref a6_0), .val (.int p6_1)] [(.ref b6_free)])) st60 ?_
  refine own_s (g' := (mkF m 34 #[.val (.ref a6_0), .val (.int p6_1)] [(.ref a6_0), (.ref b6_free)])) (fun _ k => XS.aloadN X60.here hx rfl (hb hby d6_33) rfl rfl k) ?_
  refine own_s (g' := (mkF m 35 #[.val (.ref a6_0), .val (.int p6_1)] [(.ref a6_0), (.ref a6_0), (.ref b6_free)])) (fun _ k => XS.dup X60.here hx rfl (hb hby d6_34) rfl rfl k) ?_
  obtain ⟨T61, X61, e61, st61⟩ := getF X60 hx hZ hown (host := "") (Or.inl ww26) Via.refl e60 F_freeCount_a6_0 (g := (mkF m 35 #[.val (.ref a6_0), .val (.int p6_1)] [(.ref a6_0), (.ref a6_0), (.ref b6_free)])) rfl rfl (hb hby d6_35)
  refine own_s (g' := (mkF m 38 #[.val (.ref a6_0), .val (.int p6_1)] [(.int 0), (.ref a6_0), (.ref b6_free)])) st61 ?_
  refine own_s (g' := (mkF m 39 #[.val (.ref a6_0), .val (.int p6_1)] [(.int 0), (.ref a6_0), (.int 0), (.ref b6_free)])) (fun _ k => XS.dupX1 X61.here hx rfl (hb hby d6_38) rfl rfl rfl k) ?_
  refine own_s (g' := (mkF m 40 #[.val (.ref a6_0), .val (.int p6_1)] [(.int 1), (.int 0), (.ref a6_0), (.int 0), (.ref b6_free)])) (fun _ k => XS.iconst X61.here hx rfl (hb hby d6_39) k) ?_
  refine own_s (g' := (mkF m 41 #[.val (.ref a6_0), .val (.int p6_1)] [(.int ((0 : Int32) + (1 : Int32))), (.ref a6_0), (.int 0), (.ref b6_free)])) (fun _ k => XS.iadd X61.here hx rfl (hb hby d6_40) rfl k) ?_
  rw [show ((0 : Int32) + (1 : Int32)) = (1 : Int32) from by decide]
  obtain ⟨T62, h62, X62, e62, W62, st62⟩ := putF X61 hx hZ hown (host := "") (Or.inl ww26) Via.refl e61 F_freeCount_a6_0 E_a6_0 (Or.inl ww27) ww6 (ty := .int) (by decide) rfl rfl (g := (mkF m 41 #[.val (.ref a6_0), .val (.int p6_1)] [(.int 1), (.ref a6_0), (.int 0), (.ref b6_free)])) rfl rfl (hb hby d6_41)
  have f63 := F_freeCount_a6_0.same W62
  have K62 := K0.wr W62 (Or.inl (List.mem_of_getElem? (i := 0) rfl))
  have N62 := Fr.snoc X62 N0 g_a6_0
  refine own_s (g' := (mkF m 44 #[.val (.ref a6_0), .val (.int p6_1)] [(.int 0), (.ref b6_free)])) st62 ?_
  refine own_s (g' := (mkF m 45 #[.val (.ref a6_0), .val (.int p6_1)] [(.int p6_1), (.int 0), (.ref b6_free)])) (fun _ k => XS.iloadN X62.here hx rfl (hb hby d6_44) rfl k) ?_
  have f64 := (V_b6_free.other W62 ne_b6_free_a6_0)
  obtain ⟨cl65, Ar65, q65, S65, M65, H65, G65⟩ := id f64
  obtain ⟨T65, h65, X65, e65, W65, st65⟩ := stI X62 hx hZ e62 Ar65 (j := (0 : Int32)) (inb_of S65 ⟨by decide, by decide⟩) (g := (mkF m 45 #[.val (.ref a6_0), .val (.int p6_1)] [(.int p6_1), (.int 0), (.ref b6_free)])) rfl rfl (hb hby d6_45)
  have f66 : Arv Z h65 b6_free ky .int (16 : Int32) [(.int p6_1), (.int y1)] (.int (0 : Int32)) := Arv.set Ar65 q65 S65 M65 H65 G65 rfl W65 0 rfl (Nat.le_of_ble_eq_true rfl)
  have K65 := K62.wr W65 (Or.inl (List.mem_of_getElem? (i := 1) rfl))
  have N65 := Fr.snoc X65 N62 g_b6_free
  refine own_s (g' := (mkF m 46 #[.val (.ref a6_0), .val (.int p6_1)] [])) st65 ?_
  have f67 := ((F_free_a6_0.other W62 (Or.inr (own_sn_16_27 hw))).other W65 (Or.inl (Ne.symm ne_b6_free_a6_0)))
  have f68 := ((F_next_a6_0.other W62 (Or.inr (own_sn_18_27 hw))).other W65 (Or.inl (Ne.symm ne_b6_free_a6_0)))
  have f69 := ((F_left_a6_0.other W62 (Or.inr (own_sn_20_27 hw))).other W65 (Or.inl (Ne.symm ne_b6_free_a6_0)))
  have f70 := ((E_a6_0.wr W62).wr W65)
  have f71 := (f63.other W65 (Or.inl (Ne.symm ne_b6_free_a6_0)))
  refine own_retV X65 hx hlk hret (hb hby d6_46) (by decide) (by decide) ?_
  show Q6v0 Z a6_0 p6_1 b6_free u6_next u6_left ky y0 y1 h0 n0 _ T65.heap _
  rw [e65]
  exact ⟨rfl, N65, K65, f70, f67, f68, f69, f71, f66⟩
theorem ef_6v1 (m : MethodId) (a6_0 : Addr) (p6_1 : Int32) : entryFrame m #[(.ref a6_0), (.int p6_1)] 2 = mkF m 0 #[.val (.ref a6_0), .val (.int p6_1)] [] := by first | (simp [entryFrame, mkF, argsToLocals, Value.category]; done) | rfl
def Q6v1 (Z : State) (a6_0 : Addr) (p6_1 : Int32) (b6_free : Addr) (u6_next : Int32) (u6_left : Int32) (ky : ClassId) (y0 : Int32) (y1 : Int32) (h0 : Heap) (n0 : Nat) (v : Option Value) (h : Heap) (L : List Loc) : Prop := v = none ∧ Fr n0 L ∧ Keep h0 h [a6_0, b6_free] ∧ Exa Z h a6_0 "com/example/epochwise/epochwise/server/Numbering" ∧ Fld Z h a6_0 "com/example/epochwise/epochwise/server/Numbering" "free" "[I" (.ref b6_free) ∧ Fld Z h a6_0 "com/example/epochwise/epochwise/server/Numbering" "next" "I" (.int u6_next) ∧ Fld Z h a6_0 "com/example/epochwise/epochwise/server/Numbering" "left" "I" (.int u6_left) ∧ Fld Z h a6_0 "com/example/epochwise/epochwise/server/Numbering" "freeCount" "I" (.int 2) ∧ Arv Z h b6_free ky .int (16 : Int32) [(.int y0), (.int p6_1)] (.int (0 : Int32))
set_option maxRecDepth 65536 in
set_option maxHeartbeats 40000000 in
theorem rm6v1 (l : Launch) (Z : State) (a0 : Array Value) (hw : ∀ d ∈ tables_1, d.before a0 Z = true) (ws : List Jvm.Cond) (a6_0 : Addr) (p6_1 : Int32) (b6_free : Addr) (u6_next : Int32) (u6_left : Int32) (ky : ClassId) (y0 : Int32) (y1 : Int32) (h0 : Heap) (n0 : Nat) (Z0 : n0 ≤ h0.size) (F_freeCount_a6_0 : Fld Z h0 a6_0 "com/example/epochwise/epochwise/server/Numbering" "freeCount" "I" (.int 1)) (F_free_a6_0 : Fld Z h0 a6_0 "com/example/epochwise/epochwise/server/Numbering" "free" "[I" (.ref b6_free)) (F_next_a6_0 : Fld Z h0 a6_0 "com/example/epochwise/epochwise/server/Numbering" "next" "I" (.int u6_next)) (F_left_a6_0 : Fld Z h0 a6_0 "com/example/epochwise/epochwise/server/Numbering" "left" "I" (.int u6_left)) (E_a6_0 : Exa Z h0 a6_0 "com/example/epochwise/epochwise/server/Numbering") (V_b6_free : Arv Z h0 b6_free ky .int (16 : Int32) [(.int y0), (.int y1)] (.int (0 : Int32))) (g_a6_0 : n0 ≤ a6_0) (g_b6_free : n0 ≤ b6_free) (ne_b6_free_a6_0 : b6_free ≠ a6_0) :
    MetFree l (⟨"com/example/epochwise/epochwise/server/Numbering", "give", "(I)V"⟩ : MethodName) (head1 (Jvm.Cond.code (⟨"com/example/epochwise/epochwise/server/Numbering", "give", "(I)V"⟩ : MethodName) prog_157_method_4_code 2 none :: ws) ({ frames := 0, cells := 0, slots := 0, locals := 0 } : Room)) (fun a U => a = #[(.ref a6_0), (.int p6_1)] ∧ Z.Warmed39 U.vm ∧ U.heap = h0) (fun _ _ _ _ _ => True) (fun _ U o U' => ∃ v L, o = .returned v ∧ Q6v1 Z a6_0 p6_1 b6_free u6_next u6_left ky y0 y1 h0 n0 v U'.heap L ∧ FrameEnd U o U' L ({ frames := 0, cells := 0, slots := 0, locals := 0 } : Room).cells ({ frames := 0, cells := 0, slots := 0, locals := 0 } : Room).slots) := by
  refine MetFree.of_bodySF (plainFor_of_name pn_com_example_epochwise_epochwise_server_Numbering) hisR ?_
  intro p e s m args below meth c s₁ Bd hml0 hP hK
  obtain ⟨rfl, hZ, hh⟩ := hP
  have hx := Bd.exec
  have hby := Bd.bytes
  have hlk := Bd.notSynchronized
  have hret := Bd.returns
  have hml : c.maxLocals = 2 := hml0
  have hown : s.vm.findClass "com/example/epochwise/epochwise/server/Numbering" = some m.cls := findClass_of_methodNamed Bd.named
  have hnm := (name_of_methodNamed Bd.named Bd.method).1
  have X0 : Stand p l e ({ frames := 0, cells := 0, slots := 0, locals := 0 } : Room) s m #[(.ref a6_0), (.int p6_1)] below meth c s₁ [] 0 0 := Stand.of_body Bd
  have e0 : s₁.heap = h0 := by rw [← hh, Bd.state]; rfl
  have N0 := Fr.nil n0
  have K0 : Keep h0 h0 [a6_0, b6_free] := Keep.refl _ _
  show own_G p e below s (Q6v1 Z a6_0 p6_1 b6_free u6_next u6_left ky y0 y1 h0 n0) ({ frames := 0, cells := 0, slots := 0, locals := 0 } : Room).cells ({ frames := 0, cells := 0, slots := 0, locals := 0 } : Room).slots s₁ (entryFrame m #[(.ref a6_0), (.int p6_1)] 2)
  have ww6 := hw _ (List.mem_of_getElem? (i := 6) rfl)
  have ww15 := hw _ (List.mem_of_getElem? (i := 15) rfl)
  have ww26 := hw _ (List.mem_of_getElem? (i := 26) rfl)
  have ww27 := hw _ (List.mem_of_getElem? (i := 27) rfl)
  refine own_cast (ef_6v1 m a6_0 p6_1) ?_
  refine own_s (g' := (mkF m 1 #[.val (.ref a6_0), .val (.int p6_1)] [(.ref a6_0)])) (fun _ k => XS.aloadN X0.here hx rfl (hb hby d6_0) rfl rfl k) ?_
  obtain ⟨T72, X72, e72, st72⟩ := getF X0 hx hZ hown (host := "") (Or.inl ww26) Via.refl e0 F_freeCount_a6_0 (g := (mkF m 1 #[.val (.ref a6_0), .val (.int p6_1)] [(.ref a6_0)])) rfl rfl (hb hby d6_1)
  refine own_s (g' := (mkF m 4 #[.val (.ref a6_0), .val (.int p6_1)] [(.int 1)])) st72 ?_
  refine own_s (g' := (mkF m 5 #[.val (.ref a6_0), .val (.int p6_1)] [(.ref a6_0), (.int 1)])) (fun _ k => XS.aloadN X72.here hx rfl (hb hby d6_4) rfl rfl k) ?_
  obtain ⟨T73, X73, e73, st73⟩ := getF X72 hx hZ hown (host := "") (Or.inl ww15) Via.refl e72 F_free_a6_0 (g := (mkF m 5 #[.val (.ref a6_0), .val (.int p6_1)] [(.ref a6_0), (.int 1)])) rfl rfl (hb hby d6_5)
  refine own_s (g' := (mkF m 8 #[.val (.ref a6_0), .val (.int p6_1)] [(.ref b6_free), (.int 1)])) st73 ?_
  obtain ⟨cl74, Ar74, -, S74, M74, -, -⟩ := id V_b6_free
  refine own_s (g' := (mkF m 9 #[.val (.ref a6_0), .val (.int p6_1)] [(.int 16), (.int 1)])) (fun t k => X73.arraylength hx (by rw [e73]; exact Ar74.1) (State.isArrayOf_alike hZ.alike Ar74.2.1) (g := (mkF m 8 #[.val (.ref a6_0), .val (.int p6_1)] [(.ref b6_free), (.int 1)])) rfl rfl (hb hby d6_8) _ (by rw [len_of S74 M74]; exact k)) ?_
  refine own_s (g' := (mkF m 29 #[.val (.ref a6_0), .val (.int p6_1)] [])) (fun _ k => XS.icmpYes X73.here hx rfl (pc0 := 9) (pc' := 29) rfl (hb hby d6_9) rfl (feq ((by decide) : ¬ (1 : Int32) = (16 : Int32))).2 (by decide) (by decide) k) ?_
  refine own_s (g' := (mkF m 30 #[.val (.ref a6_0), .val (.int p6_1)] [(.ref a6_0)])) (fun _ k => XS.aloadN X73.here hx rfl (hb hby d6_29) rfl rfl k) ?_
  obtain ⟨T75, X75, e75, st75⟩ := getF X73 hx hZ hown (host := "") (Or.inl ww15) Via.refl e73 F_free_a6_0 (g := (mkF m 30 #[.val (.ref a6_0), .val (.int p6_1)] [(.ref a6_0)])) rfl rfl (hb hby d6_30)
  refine own_s (g' := (mkF m 33 #[.val (.ref a6_0), .val (.int p6_1)] [(.ref b6_free)])) st75 ?_
  refine own_s (g' := (mkF m 34 #[.val (.ref a6_0), .val (.int p6_1)] [(.ref a6_0), (.ref b6_free)])) (fun _ k => XS.aloadN X75.here hx rfl (hb hby d6_33) rfl rfl k) ?_
  refine own_s (g' := (mkF m 35 #[.val (.ref a6_0), .val (.int p6_1)] [(.ref a6_0), (.ref a6_0), (.ref b6_free)])) (fun _ k => XS.dup X75.here hx rfl (hb hby d6_34) rfl rfl k) ?_
  obtain ⟨T76, X76, e76, st76⟩ := getF X75 hx hZ hown (host := "") (Or.inl ww26) Via.refl e75 F_freeCount_a6_0 (g := (mkF m 35 #[.val (.ref a6_0), .val (.int p6_1)] [(.ref a6_0), (.ref a6_0), (.ref b6_free)])) rfl rfl (hb hby d6_35)
  refine own_s (g' := (mkF m 38 #[.val (.ref a6_0), .val (.int p6_1)] [(.int 1), (.ref a6_0), (.ref b6_free)])) st76 ?_
  refine own_s (g' := (mkF m 39 #[.val (.ref a6_0), .val (.int p6_1)] [(.int 1), (.ref a6_0), (.int 1), (.ref b6_free)])) (fun _ k => XS.dupX1 X76.here hx rfl (hb hby d6_38) rfl rfl rfl k) ?_
  refine own_s (g' := (mkF m 40 #[.val (.ref a6_0), .val (.int p6_1)] [(.int 1), (.int 1), (.ref a6_0), (.int 1), (.ref b6_free)])) (fun _ k => XS.iconst X76.here hx rfl (hb hby d6_39) k) ?_
  refine own_s (g' := (mkF m 41 #[.val (.ref a6_0), .val (.int p6_1)] [(.int ((1 : Int32) + (1 : Int32))), (.ref a6_0), (.int 1), (.ref b6_free)])) (fun _ k => XS.iadd X76.here hx rfl (hb hby d6_40) rfl k) ?_
  rw [show ((1 : Int32) + (1 : Int32)) = (2 : Int32) from by decide]
  obtain ⟨T77, h77, X77, e77, W77, st77⟩ := putF X76 hx hZ hown (host := "") (Or.inl ww26) Via.refl e76 F_freeCount_a6_0 E_a6_0 (Or.inl ww27) ww6 (ty := .int) (by decide) rfl rfl (g := (mkF m 41 #[.val (.ref a6_0), .val (.int p6_1)] [(.int 2), (.ref a6_0), (.int 1), (.ref b6_free)])) rfl rfl (hb hby d6_41)
  have f78 := F_freeCount_a6_0.same W77
  have K77 := K0.wr W77 (Or.inl (List.mem_of_getElem? (i := 0) rfl))
  have N77 := Fr.snoc X77 N0 g_a6_0
  refine own_s (g' := (mkF m 44 #[.val (.ref a6_0), .val (.int p6_1)] [(.int 1), (.ref b6_free)])) st77 ?_
  refine own_s (g' := (mkF m 45 #[.val (.ref a6_0), .val (.int p6_1)] [(.int p6_1), (.int 1), (.ref b6_free)])) (fun _ k => XS.iloadN X77.here hx rfl (hb hby d6_44) rfl k) ?_
  have f79 := (V_b6_free.other W77 ne_b6_free_a6_0)
  obtain ⟨cl80, Ar80, q80, S80, M80, H80, G80⟩ := id f79
  obtain ⟨T80, h80, X80, e80, W80, st80⟩ := stI X77 hx hZ e77 Ar80 (j := (1 : Int32)) (inb_of S80 ⟨by decide, by decide⟩) (g := (mkF m 45 #[.val (.ref a6_0), .val (.int p6_1)] [(.int p6_1), (.int 1), (.ref b6_free)])) rfl rfl (hb hby d6_45)
  have f81 : Arv Z h80 b6_free ky .int (16 : Int32) [(.int y0), (.int p6_1)] (.int (0 : Int32)) := Arv.set Ar80 q80 S80 M80 H80 G80 rfl W80 1 rfl (Nat.le_of_ble_eq_true rfl)
  have K80 := K77.wr W80 (Or.inl (List.mem_of_getElem? (i := 1) rfl))
  have N80 := Fr.snoc X80 N77 g_b6_free
  refine own_s (g' := (mkF m 46 #[.val (.ref a6_0), .val (.int p6_1)] [])) st80 ?_
  have f82 := ((F_free_a6_0.other W77 (Or.inr (own_sn_16_27 hw))).other W80 (Or.inl (Ne.symm ne_b6_free_a6_0)))
  have f83 := ((F_next_a6_0.other W77 (Or.inr (own_sn_18_27 hw))).other W80 (Or.inl (Ne.symm ne_b6_free_a6_0)))
  have f84 := ((F_left_a6_0.other W77 (Or.inr (own_sn_20_27 hw))).other W80 (Or.inl (Ne.symm ne_b6_free_a6_0)))
  have f85 := ((E_a6_0.wr W77).wr W80)
  have f86 := (f78.other W80 (Or.inl (Ne.symm ne_b6_free_a6_0)))
  refine own_retV X80 hx hlk hret (hb hby d6_46) (by decide) (by decide) ?_
  show Q6v1 Z a6_0 p6_1 b6_free u6_next u6_left ky y0 y1 h0 n0 _ T80.heap _
  rw [e80]
  exact ⟨rfl, N80, K80, f85, f82, f83, f84, f86, f81⟩
theorem d5_0 : decode prog_157_method_7_code 0 = .ok (.aload_n 0, 1) := by decide +kernel
theorem d5_1 : decode prog_157_method_7_code 1 = .ok (.getfield 19, 3) := by decide +kernel
theorem d5_4 : decode prog_157_method_7_code 4 = .ok (.ireturn, 1) := by decide +kernel
theorem ef_5 (m : MethodId) (a5_0 : Addr) : entryFrame m #[(.ref a5_0)] 1 = mkF m 0 #[.val (.ref a5_0)] [] := by first | (simp [entryFrame, mkF, argsToLocals, Value.category]; done) | rfl
def Q5 (Z : State) (a5_0 : Addr) (u5_next : Int32) (h0 : Heap) (n0 : Nat) (v : Option Value) (h : Heap) (L : List Loc) : Prop := v = some (.int u5_next) ∧ Fr n0 L ∧ h = h0
set_option maxRecDepth 65536 in
set_option maxHeartbeats 40000000 in
theorem rm5 (l : Launch) (Z : State) (a0 : Array Value) (hw : ∀ d ∈ tables_1, d.before a0 Z = true) (ws : List Jvm.Cond) (a5_0 : Addr) (u5_next : Int32) (h0 : Heap) (n0 : Nat) (Z0 : n0 ≤ h0.size) (F_next_a5_0 : Fld Z h0 a5_0 "com/example/epochwise/epochwise/server/Numbering" "next" "I" (.int u5_next)) :
    MetFree l (⟨"com/example/epochwise/epochwise/server/Numbering", "count", "()I"⟩ : MethodName) (head1 (Jvm.Cond.code (⟨"com/example/epochwise/epochwise/server/Numbering", "count", "()I"⟩ : MethodName) prog_157_method_7_code 1 (some .int) :: ws) ({ frames := 0, cells := 0, slots := 0, locals := 0 } : Room)) (fun a U => a = #[(.ref a5_0)] ∧ Z.Warmed39 U.vm ∧ U.heap = h0) (fun _ _ _ _ _ => True) (fun _ U o U' => ∃ v L, o = .returned v ∧ Q5 Z a5_0 u5_next h0 n0 v U'.heap L ∧ FrameEnd U o U' L ({ frames := 0, cells := 0, slots := 0, locals := 0 } : Room).cells ({ frames := 0, cells := 0, slots := 0, locals := 0 } : Room).slots) := by
  refine MetFree.of_bodySF (plainFor_of_name pn_com_example_epochwise_epochwise_server_Numbering) hisR ?_
  intro p e s m args below meth c s₁ Bd hml0 hP hK
  obtain ⟨rfl, hZ, hh⟩ := hP
  have hx := Bd.exec
  have hby := Bd.bytes
  have hlk := Bd.notSynchronized
  have hret := Bd.returns
  have hml : c.maxLocals = 1 := hml0
  have hown : s.vm.findClass "com/example/epochwise/epochwise/server/Numbering" = some m.cls := findClass_of_methodNamed Bd.named
  have hnm := (name_of_methodNamed Bd.named Bd.method).1
  have X0 : Stand p l e ({ frames := 0, cells := 0, slots := 0, locals := 0 } : Room) s m #[(.ref a5_0)] below meth c s₁ [] 0 0 := Stand.of_body Bd
  have e0 : s₁.heap = h0 := by rw [← hh, Bd.state]; rfl
  have N0 := Fr.nil n0
  have K0 : Keep h0 h0 [] := Keep.refl _ _
  show own_G p e below s (Q5 Z a5_0 u5_next h0 n0) ({ frames := 0, cells := 0, slots := 0, locals := 0 } : Room).cells ({ frames := 0, cells := 0, slots := 0, locals := 0 } : Room).slots s₁ (entryFrame m #[(.ref a5_0)] 1)
  have ww17 := hw _ (List.mem_of_getElem? (i := 17) rfl)
  refine own_cast (ef_5 m a5_0) ?_
  refine own_s (g' := (mkF m 1 #[.val (.ref a5_0)] [(.ref a5_0)])) (fun _ k => XS.aloadN X0.here hx rfl (hb hby d5_0) rfl rfl k) ?_
  obtain ⟨T87, X87, e87, st87⟩ := getF X0 hx hZ hown (host := "") (Or.inl ww17) Via.refl e0 F_next_a5_0 (g := (mkF m 1 #[.val (.ref a5_0)] [(.ref a5_0)])) rfl rfl (hb hby d5_1)
  refine own_s (g' := (mkF m 4 #[.val (.ref a5_0)] [(.int u5_next)])) st87 ?_
  refine own_retI X87 hx hlk hret (hb hby d5_4) (by decide) (by decide) ?_
  show Q5 Z a5_0 u5_next h0 n0 _ T87.heap _
  rw [e87]
  exact ⟨rfl, N0, rfl⟩
theorem d7_0 : decode prog_157_method_5_code 0 = .ok (.aload_n 0, 1) := by decide +kernel
theorem d7_1 : decode prog_157_method_5_code 1 = .ok (.getfield 26, 3) := by decide +kernel
theorem d7_4 : decode prog_157_method_5_code 4 = .ok (.ifCond .ne 14, 3) := by decide +kernel
theorem d7_7 : decode prog_157_method_5_code 7 = .ok (.aload_n 0, 1) := by decide +kernel
theorem d7_8 : decode prog_157_method_5_code 8 = .ok (.getfield 23, 3) := by decide +kernel
theorem d7_11 : decode prog_157_method_5_code 11 = .ok (.ifCond .ne 7, 3) := by decide +kernel
theorem d7_14 : decode prog_157_method_5_code 14 = .ok (.iconst 1, 1) := by decide +kernel
theorem d7_15 : decode prog_157_method_5_code 15 = .ok (.goto 4, 3) := by decide +kernel
theorem d7_18 : decode prog_157_method_5_code 18 = .ok (.iconst 0, 1) := by decide +kernel
theorem d7_19 : decode prog_157_method_5_code 19 = .ok (.ireturn, 1) := by decide +kernel
theorem ef_7 (m : MethodId) (a7_0 : Addr) : entryFrame m #[(.ref a7_0)] 1 = mkF m 0 #[.val (.ref a7_0)] [] := by first | (simp [entryFrame, mkF, argsToLocals, Value.category]; done) | rfl
def r7 (u7_freeCount : Int32) (u7_left : Int32) : Int32 := (if u7_freeCount = (0 : Int32) then (if u7_left = (0 : Int32) then (1 : Int32) else (0 : Int32)) else (0 : Int32))
def Q7 (Z : State) (a7_0 : Addr) (u7_freeCount : Int32) (u7_left : Int32) (h0 : Heap) (n0 : Nat) (v : Option Value) (h : Heap) (L : List Loc) : Prop := v = some (.int (r7 u7_freeCount u7_left)) ∧ Fr n0 L ∧ h = h0
set_option maxRecDepth 65536 in
set_option maxHeartbeats 40000000 in
theorem rm7 (l : Launch) (Z : State) (a0 : Array Value) (hw : ∀ d ∈ tables_1, d.before a0 Z = true) (ws : List Jvm.Cond) (a7_0 : Addr) (u7_freeCount : Int32) (u7_left : Int32) (h0 : Heap) (n0 : Nat) (Z0 : n0 ≤ h0.size) (F_freeCount_a7_0 : Fld Z h0 a7_0 "com/example/epochwise/epochwise/server/Numbering" "freeCount" "I" (.int u7_freeCount)) (F_left_a7_0 : Fld Z h0 a7_0 "com/example/epochwise/epochwise/server/Numbering" "left" "I" (.int u7_left)) :
    MetFree l (⟨"com/example/epochwise/epochwise/server/Numbering", "runOut", "()Z"⟩ : MethodName) (head1 (Jvm.Cond.code (⟨"com/example/epochwise/epochwise/server/Numbering", "runOut", "()Z"⟩ : MethodName) prog_157_method_5_code 1 (some .boolean) :: ws) ({ frames := 0, cells := 0, slots := 0, locals := 0 } : Room)) (fun a U => a = #[(.ref a7_0)] ∧ Z.Warmed39 U.vm ∧ U.heap = h0) (fun _ _ _ _ _ => True) (fun _ U o U' => ∃ v L, o = .returned v ∧ Q7 Z a7_0 u7_freeCount u7_left h0 n0 v U'.heap L ∧ FrameEnd U o U' L ({ frames := 0, cells := 0, slots := 0, locals := 0 } : Room).cells ({ frames := 0, cells := 0, slots := 0, locals := 0 } : Room).slots) := by
  refine MetFree.of_bodySF (plainFor_of_name pn_com_example_epochwise_epochwise_server_Numbering) hisR ?_
  intro p e s m args below meth c s₁ Bd hml0 hP hK
  obtain ⟨rfl, hZ, hh⟩ := hP
  have hx := Bd.exec
  have hby := Bd.bytes
  have hlk := Bd.notSynchronized
  have hret := Bd.returns
  have hml : c.maxLocals = 1 := hml0
  have hown : s.vm.findClass "com/example/epochwise/epochwise/server/Numbering" = some m.cls := findClass_of_methodNamed Bd.named
  have hnm := (name_of_methodNamed Bd.named Bd.method).1
  have X0 : Stand p l e ({ frames := 0, cells := 0, slots := 0, locals := 0 } : Room) s m #[(.ref a7_0)] below meth c s₁ [] 0 0 := Stand.of_body Bd
  have e0 : s₁.heap = h0 := by rw [← hh, Bd.state]; rfl
  have N0 := Fr.nil n0
  have K0 : Keep h0 h0 [] := Keep.refl _ _
  show own_G p e below s (Q7 Z a7_0 u7_freeCount u7_left h0 n0) ({ frames := 0, cells := 0, slots := 0, locals := 0 } : Room).cells ({ frames := 0, cells := 0, slots := 0, locals := 0 } : Room).slots s₁ (entryFrame m #[(.ref a7_0)] 1)
  have ww19 := hw _ (List.mem_of_getElem? (i := 19) rfl)
  have ww26 := hw _ (List.mem_of_getElem? (i := 26) rfl)
  refine own_cast (ef_7 m a7_0) ?_
  refine own_s (g' := (mkF m 1 #[.val (.ref a7_0)] [(.ref a7_0)])) (fun _ k => XS.aloadN X0.here hx rfl (hb hby d7_0) rfl rfl k) ?_
  obtain ⟨T88, X88, e88, st88⟩ := getF X0 hx hZ hown (host := "") (Or.inl ww26) Via.refl e0 F_freeCount_a7_0 (g := (mkF m 1 #[.val (.ref a7_0)] [(.ref a7_0)])) rfl rfl (hb hby d7_1)
  refine own_s (g' := (mkF m 4 #[.val (.ref a7_0)] [(.int u7_freeCount)])) st88 ?_
  by_cases c89 : u7_freeCount = (0 : Int32)
  ·skip
   refine own_s (g' := (mkF m 7 #[.val (.ref a7_0)] [])) (fun _ k => XS.ifNo X88.here hx rfl (hb hby d7_4) rfl ((if0 _ _).trans (teq c89).2) k) ?_
   refine own_s (g' := (mkF m 8 #[.val (.ref a7_0)] [(.ref a7_0)])) (fun _ k => XS.aloadN X88.here hx rfl (hb hby d7_7) rfl rfl k) ?_
   obtain ⟨T90, X90, e90, st90⟩ := getF X88 hx hZ hown (host := "") (Or.inl ww19) Via.refl e88 F_left_a7_0 (g := (mkF m 8 #[.val (.ref a7_0)] [(.ref a7_0)])) rfl rfl (hb hby d7_8)
   refine own_s (g' := (mkF m 11 #[.val (.ref a7_0)] [(.int u7_left)])) st90 ?_
   by_cases c91 : u7_left = (0 : Int32)
   ·skip
    refine own_s (g' := (mkF m 14 #[.val (.ref a7_0)] [])) (fun _ k => XS.ifNo X90.here hx rfl (hb hby d7_11) rfl ((if0 _ _).trans (teq c91).2) k) ?_
    refine own_s (g' := (mkF m 15 #[.val (.ref a7_0)] [(.int 1)])) (fun _ k => XS.iconst X90.here hx rfl (hb hby d7_14) k) ?_
    refine own_s (g' := (mkF m 19 #[.val (.ref a7_0)] [(.int 1)])) (fun _ k => XS.goto X90.here hx rfl (pc0 := 15) (pc' := 19) rfl (hb hby d7_15) (by decide) (by decide) k) ?_
    refine own_retN X90 hx hlk (t := .boolean) hret (by simp) (hb hby d7_19) (z' := (1 : Int32)) (by decide) (by decide) (by decide) ?_
    show Q7 Z a7_0 u7_freeCount u7_left h0 n0 _ T90.heap _
    rw [e90]
    exact ⟨(congrArg (fun z => some (Value.int z)) (show (1 : Int32) = (r7 u7_freeCount u7_left) from (Eq.symm ((if_pos c89).trans (if_pos c91))))), N0, rfl⟩
   ·skip
    refine own_s (g' := (mkF m 18 #[.val (.ref a7_0)] [])) (fun _ k => XS.ifYes X90.here hx rfl (pc0 := 11) (pc' := 18) rfl (hb hby d7_11) rfl ((if0 _ _).trans (feq c91).2) (by decide) (by decide) k) ?_
    refine own_s (g' := (mkF m 19 #[.val (.ref a7_0)] [(.int 0)])) (fun _ k => XS.iconst X90.here hx rfl (hb hby d7_18) k) ?_
    refine own_retN X90 hx hlk (t := .boolean) hret (by simp) (hb hby d7_19) (z' := (0 : Int32)) (by decide) (by decide) (by decide) ?_
    show Q7 Z a7_0 u7_freeCount u7_left h0 n0 _ T90.heap _
    rw [e90]
    exact ⟨(congrArg (fun z => some (Value.int z)) (show (0 : Int32) = (r7 u7_freeCount u7_left) from (Eq.symm ((if_pos c89).trans (if_neg c91))))), N0, rfl⟩
  ·skip
   refine own_s (g' := (mkF m 18 #[.val (.ref a7_0)] [])) (fun _ k => XS.ifYes X88.here hx rfl (pc0 := 4) (pc' := 18) rfl (hb hby d7_4) rfl ((if0 _ _).trans (feq c89).2) (by decide) (by decide) k) ?_
   refine own_s (g' := (mkF m 19 #[.val (.ref a7_0)] [(.int 0)])) (fun _ k => XS.iconst X88.here hx rfl (hb hby d7_18) k) ?_
   refine own_retN X88 hx hlk (t := .boolean) hret (by simp) (hb hby d7_19) (z' := (0 : Int32)) (by decide) (by decide) (by decide) ?_
   show Q7 Z a7_0 u7_freeCount u7_left h0 n0 _ T88.heap _
   rw [e88]
   exact ⟨(congrArg (fun z => some (Value.int z)) (show (0 : Int32) = (r7 u7_freeCount u7_left) from (Eq.symm (if_neg c89)))), N0, rfl⟩
theorem own_112 (x : Int32) : ((x + (1 : Int32)) + (1 : Int32)) = (x + (2 : Int32)) := (Int32.add_assoc x 1 1).trans (congrArg (fun z => x + z) (by decide))
theorem own_two (x : Int32) (h : x = (2 : Int32)) : ((x - (1 : Int32)) - (1 : Int32)) = (0 : Int32) := by rw [h]; decide
theorem own_not2 (x : Int32) (h : ¬ x = (2 : Int32)) : ¬ ((x - (1 : Int32)) - (1 : Int32)) = (0 : Int32) := by
  intro q
  apply h
  rw [← Int32.toInt_inj] at *
  have e1 := c_isub x 1
  have e2 := c_isub (x - 1) 1
  have r1 := rng32 x
  have r2 := rng32 (x - 1)
  have k1 : (1 : Int32).toInt = 1 := by decide
  have k2 : (2 : Int32).toInt = 2 := by decide
  have k0 : (0 : Int32).toInt = 0 := by decide
  rw [k0] at q
  rw [k2]
  omega
theorem pd__II_I : parseMethodDescriptor "(II)I" = some ⟨[.int, .int], some .int⟩ := by decide +kernel
theorem pd__II_V : parseMethodDescriptor "(II)V" = some ⟨[.int, .int], none⟩ := by decide +kernel
theorem pd___I : parseMethodDescriptor "()I" = some ⟨[], some .int⟩ := by decide +kernel
theorem pd__I_V : parseMethodDescriptor "(I)V" = some ⟨[.int], none⟩ := by decide +kernel
theorem pd___Z : parseMethodDescriptor "()Z" = some ⟨[], some .boolean⟩ := by decide +kernel
theorem pn_com_example_epochwise_epochwise_server_NumberingTakePinLaw : plainName "com/example/epochwise/epochwise/server/NumberingTakePinLaw" = true := by first | (simp [plainName, overriddenIn]; done) | decide +kernel
theorem ef_0 (m : MethodId) (p0_0 : Int32) (p0_1 : Int32) (p0_2 : Int32) (p0_3 : Int32) (p0_4 : Int32) : entryFrame m #[(.int p0_0), (.int p0_1), (.int p0_2), (.int p0_3), (.int p0_4)] maxLocals = mkF m 0 #[.val (.int p0_0), .val (.int p0_1), .val (.int p0_2), .val (.int p0_3), .val (.int p0_4), .unset, .unset, .unset, .unset, .unset, .unset, .unset, .unset] [] := by first | (simp [entryFrame, mkF, argsToLocals, Value.category, maxLocals]; done) | rfl
def t0_13 (p0_1 : Int32) : Int32 := ((2 : Int32) + (p0_1 &&& (3 : Int32)))
def Q0 (Z : State) (p0_0 : Int32) (p0_1 : Int32) (p0_2 : Int32) (p0_3 : Int32) (p0_4 : Int32) (h0 : Heap) (n0 : Nat) (v : Option Value) (h : Heap) (L : List Loc) : Prop := v = some (.int (1 : Int32)) ∧ Fr n0 L
set_option maxRecDepth 65536 in
set_option maxHeartbeats 40000000 in
theorem rm0 (l : Launch) (Z : State) (a0 : Array Value) (hw : ∀ d ∈ tables_1, d.before a0 Z = true) (ws : List Jvm.Cond) (p0_0 : Int32) (p0_1 : Int32) (p0_2 : Int32) (p0_3 : Int32) (p0_4 : Int32) (h0 : Heap) (n0 : Nat) (Z0 : n0 ≤ h0.size) :
    MetFree l x (head1 (Jvm.Cond.code x code maxLocals ret :: ws) room_1) (fun a U => a = #[(.int p0_0), (.int p0_1), (.int p0_2), (.int p0_3), (.int p0_4)] ∧ Z.Warmed39 U.vm ∧ U.heap = h0) (fun _ _ _ _ _ => True) (fun _ U o U' => ∃ v L, o = .returned v ∧ Q0 Z p0_0 p0_1 p0_2 p0_3 p0_4 h0 n0 v U'.heap L ∧ FrameEnd U o U' L 16 128) := by
  refine MetFree.of_bodySF (plainFor_of_name pn_com_example_epochwise_epochwise_server_NumberingTakePinLaw) hisR ?_
  intro p e s m args below meth c s₁ Bd hml0 hP hK
  obtain ⟨rfl, hZ, hh⟩ := hP
  have hx := Bd.exec
  have hby := Bd.bytes
  have hlk := Bd.notSynchronized
  have hret := Bd.returns
  have hml : c.maxLocals = 13 := hml0
  have hown : s.vm.findClass "com/example/epochwise/epochwise/server/NumberingTakePinLaw" = some m.cls := findClass_of_methodNamed Bd.named
  have hnm := (name_of_methodNamed Bd.named Bd.method).1
  have X0 : Stand p l e room_1 s m #[(.int p0_0), (.int p0_1), (.int p0_2), (.int p0_3), (.int p0_4)] below meth c s₁ [] 0 0 := Stand.of_body Bd
  have e0 : s₁.heap = h0 := by rw [← hh, Bd.state]; rfl
  have N0 := Fr.nil n0
  have K0 : Keep h0 h0 [] := Keep.refl _ _
  show own_G p e below s (Q0 Z p0_0 p0_1 p0_2 p0_3 p0_4 h0 n0) 16 128 s₁ (entryFrame m #[(.int p0_0), (.int p0_1), (.int p0_2), (.int p0_3), (.int p0_4)] maxLocals)
  have ww0 := hw _ (List.mem_of_getElem? (i := 0) rfl)
  have ww1 := hw _ (List.mem_of_getElem? (i := 1) rfl)
  have ww2 := hw _ (List.mem_of_getElem? (i := 2) rfl)
  have ww3 := hw _ (List.mem_of_getElem? (i := 3) rfl)
  have ww4 := hw _ (List.mem_of_getElem? (i := 4) rfl)
  have ww5 := hw _ (List.mem_of_getElem? (i := 5) rfl)
  have ww6 := hw _ (List.mem_of_getElem? (i := 6) rfl)
  have ww7 := hw _ (List.mem_of_getElem? (i := 7) rfl)
  have ww8 := hw _ (List.mem_of_getElem? (i := 8) rfl)
  have ww9 := hw _ (List.mem_of_getElem? (i := 9) rfl)
  have ww10 := hw _ (List.mem_of_getElem? (i := 10) rfl)
  have ww16 := hw _ (List.mem_of_getElem? (i := 16) rfl)
  have ww18 := hw _ (List.mem_of_getElem? (i := 18) rfl)
  have ww20 := hw _ (List.mem_of_getElem? (i := 20) rfl)
  have ww21 := hw _ (List.mem_of_getElem? (i := 21) rfl)
  have ww22 := hw _ (List.mem_of_getElem? (i := 22) rfl)
  have ww23 := hw _ (List.mem_of_getElem? (i := 23) rfl)
  have ww24 := hw _ (List.mem_of_getElem? (i := 24) rfl)
  have ww25 := hw _ (List.mem_of_getElem? (i := 25) rfl)
  have ww27 := hw _ (List.mem_of_getElem? (i := 27) rfl)
  have ww28 := hw _ (List.mem_of_getElem? (i := 28) rfl)
  have ww29 := hw _ (List.mem_of_getElem? (i := 29) rfl)
  have ww30 := hw _ (List.mem_of_getElem? (i := 30) rfl)
  have ww31 := hw _ (List.mem_of_getElem? (i := 31) rfl)
  have ww32 := hw _ (List.mem_of_getElem? (i := 32) rfl)
  have ww33 := hw _ (List.mem_of_getElem? (i := 33) rfl)
  have ww34 := hw _ (List.mem_of_getElem? (i := 34) rfl)
  have ww35 := hw _ (List.mem_of_getElem? (i := 35) rfl)
  have ww36 := hw _ (List.mem_of_getElem? (i := 36) rfl)
  have ww37 := hw _ (List.mem_of_getElem? (i := 37) rfl)
  have ww38 := hw _ (List.mem_of_getElem? (i := 38) rfl)
  have ww39 := hw _ (List.mem_of_getElem? (i := 39) rfl)
  have ww40 := hw _ (List.mem_of_getElem? (i := 40) rfl)
  have ww41 := hw _ (List.mem_of_getElem? (i := 41) rfl)
  have ww42 := hw _ (List.mem_of_getElem? (i := 42) rfl)
  refine own_cast (ef_0 m p0_0 p0_1 p0_2 p0_3 p0_4) ?_
  refine own_s (g' := (mkF m 1 #[.val (.int p0_0), .val (.int p0_1), .val (.int p0_2), .val (.int p0_3), .val (.int p0_4), .unset, .unset, .unset, .unset, .unset, .unset, .unset, .unset] [(.int p0_0)])) (fun _ k => XS.iloadN X0.here hx rfl (hb hby at_0) rfl k) ?_
  refine own_s (g' := (mkF m 3 #[.val (.int p0_0), .val (.int p0_1), .val (.int p0_2), .val (.int p0_3), .val (.int p0_4), .unset, .unset, .unset, .unset, .unset, .unset, .unset, .unset] [(.int 2147483639), (.int p0_0)])) (X0.ldcInt hx hown (mvT hZ ww0) (g := (mkF m 1 #[.val (.int p0_0), .val (.int p0_1), .val (.int p0_2), .val (.int p0_3), .val (.int p0_4), .unset, .unset, .unset, .unset, .unset, .unset, .unset, .unset] [(.int p0_0)])) rfl (hb hby at_1)) ?_
  obtain ⟨_, _, ⟨T92, L92, k92, n92⟩, -, X92, ⟨Lc92, hQ92, l92, y92, z92⟩, st92⟩ := Jvm.LawKit.callS X0 hx (y := (⟨"java/lang/Math", "min", "(II)I"⟩ : MethodName)) hown (mvT hZ ww1) (mvT hZ ww2) (mvT hZ ww3) (mvT hZ ww4) (by decide) (backOf (W := 0) (rm1 l Z a0 hw [] p0_0 (2147483639 : Int32) h0 n0 Z0 ) hZ ww4 ww3 (by decide) (by decide)) (g := (mkF m 3 #[.val (.int p0_0), .val (.int p0_1), .val (.int p0_2), .val (.int p0_3), .val (.int p0_4), .unset, .unset, .unset, .unset, .unset, .unset, .unset, .unset] [(.int 2147483639), (.int p0_0)])) rfl (by rw [hml]; rfl) (argsL := [(.int p0_0), (.int 2147483639)]) (rest := []) (lenOf pd__II_I rfl) rfl (by show 2 * 0 + _ ≤ _; exact Nat.le_of_eq rfl) (hb hby at_3) (fun _ _ => ⟨rfl, e0, (by decide : 0 + 0 ≤ _), (by decide : 0 + 0 ≤ _)⟩)
  dsimp only [Pt.U, Pt.locs, Pt.cells, Pt.slots] at X92 l92 y92 z92 st92 hQ92
  subst l92 y92 z92
  obtain ⟨rfl, N92q, eh92⟩ := hQ92
  have N92 := Fr.app N0 N92q
  refine own_s (g' := (mkF m 6 #[.val (.int p0_0), .val (.int p0_1), .val (.int p0_2), .val (.int p0_3), .val (.int p0_4), .unset, .unset, .unset, .unset, .unset, .unset, .unset, .unset] [(.int (r1 p0_0 (2147483639 : Int32)))])) st92 ?_
  refine own_s (g' := (mkF m 8 #[.val (.int p0_0), .val (.int p0_1), .val (.int p0_2), .val (.int p0_3), .val (.int p0_4), .val (.int (r1 p0_0 (2147483639 : Int32))), .unset, .unset, .unset, .unset, .unset, .unset, .unset] [])) (fun _ k => XS.istore X92.here hx rfl (hb hby at_6) rfl (l' := #[.val (.int p0_0), .val (.int p0_1), .val (.int p0_2), .val (.int p0_3), .val (.int p0_4), .val (.int (r1 p0_0 (2147483639 : Int32))), .unset, .unset, .unset, .unset, .unset, .unset, .unset]) rfl k) ?_
  refine own_s (g' := (mkF m 9 #[.val (.int p0_0), .val (.int p0_1), .val (.int p0_2), .val (.int p0_3), .val (.int p0_4), .val (.int (r1 p0_0 (2147483639 : Int32))), .unset, .unset, .unset, .unset, .unset, .unset, .unset] [(.int 2)])) (fun _ k => XS.iconst X92.here hx rfl (hb hby at_8) k) ?_
  refine own_s (g' := (mkF m 10 #[.val (.int p0_0), .val (.int p0_1), .val (.int p0_2), .val (.int p0_3), .val (.int p0_4), .val (.int (r1 p0_0 (2147483639 : Int32))), .unset, .unset, .unset, .unset, .unset, .unset, .unset] [(.int p0_1), (.int 2)])) (fun _ k => XS.iloadN X92.here hx rfl (hb hby at_9) rfl k) ?_
  refine own_s (g' := (mkF m 11 #[.val (.int p0_0), .val (.int p0_1), .val (.int p0_2), .val (.int p0_3), .val (.int p0_4), .val (.int (r1 p0_0 (2147483639 : Int32))), .unset, .unset, .unset, .unset, .unset, .unset, .unset] [(.int 3), (.int p0_1), (.int 2)])) (fun _ k => XS.iconst X92.here hx rfl (hb hby at_10) k) ?_
  refine own_s (g' := (mkF m 12 #[.val (.int p0_0), .val (.int p0_1), .val (.int p0_2), .val (.int p0_3), .val (.int p0_4), .val (.int (r1 p0_0 (2147483639 : Int32))), .unset, .unset, .unset, .unset, .unset, .unset, .unset] [(.int (p0_1 &&& (3 : Int32))), (.int 2)])) (fun _ k => XS.iand X92.here hx rfl (hb hby at_11) rfl k) ?_
  refine own_s (g' := (mkF m 13 #[.val (.int p0_0), .val (.int p0_1), .val (.int p0_2), .val (.int p0_3), .val (.int p0_4), .val (.int (r1 p0_0 (2147483639 : Int32))), .unset, .unset, .unset, .unset, .unset, .unset, .unset] [(.int ((2 : Int32) + (p0_1 &&& (3 : Int32))))])) (fun _ k => XS.iadd X92.here hx rfl (hb hby at_12) rfl k) ?_
  refine own_s (g' := (mkF m 15 #[.val (.int p0_0), .val (.int p0_1), .val (.int p0_2), .val (.int p0_3), .val (.int p0_4), .val (.int (r1 p0_0 (2147483639 : Int32))), .val (.int (t0_13 p0_1)), .unset, .unset, .unset, .unset, .unset, .unset] [])) (fun _ k => XS.istore X92.here hx rfl (hb hby at_13) rfl (l' := #[.val (.int p0_0), .val (.int p0_1), .val (.int p0_2), .val (.int p0_3), .val (.int p0_4), .val (.int (r1 p0_0 (2147483639 : Int32))), .val (.int (t0_13 p0_1)), .unset, .unset, .unset, .unset, .unset, .unset]) rfl k) ?_
  refine own_s (g' := (mkF m 17 #[.val (.int p0_0), .val (.int p0_1), .val (.int p0_2), .val (.int p0_3), .val (.int p0_4), .val (.int (r1 p0_0 (2147483639 : Int32))), .val (.int (t0_13 p0_1)), .unset, .unset, .unset, .unset, .unset, .unset] [(.int p0_4)])) (fun _ k => XS.iload X92.here hx rfl (hb hby at_15) rfl k) ?_
  refine own_s (g' := (mkF m 18 #[.val (.int p0_0), .val (.int p0_1), .val (.int p0_2), .val (.int p0_3), .val (.int p0_4), .val (.int (r1 p0_0 (2147483639 : Int32))), .val (.int (t0_13 p0_1)), .unset, .unset, .unset, .unset, .unset, .unset] [(.int 1), (.int p0_4)])) (fun _ k => XS.iconst X92.here hx rfl (hb hby at_17) k) ?_
  refine own_s (g' := (mkF m 19 #[.val (.int p0_0), .val (.int p0_1), .val (.int p0_2), .val (.int p0_3), .val (.int p0_4), .val (.int (r1 p0_0 (2147483639 : Int32))), .val (.int (t0_13 p0_1)), .unset, .unset, .unset, .unset, .unset, .unset] [(.int (p0_4 &&& (1 : Int32)))])) (fun _ k => XS.iand X92.here hx rfl (hb hby at_18) rfl k) ?_
  by_cases c93 : (p0_4 &&& (1 : Int32)) = (0 : Int32)
  ·skip
   refine own_s (g' := (mkF m 26 #[.val (.int p0_0), .val (.int p0_1), .val (.int p0_2), .val (.int p0_3), .val (.int p0_4), .val (.int (r1 p0_0 (2147483639 : Int32))), .val (.int (t0_13 p0_1)), .unset, .unset, .unset, .unset, .unset, .unset] [])) (fun _ k => XS.ifYes X92.here hx rfl (pc0 := 19) (pc' := 26) rfl (hb hby at_19) rfl ((if0 _ _).trans (teq c93).1) (by decide) (by decide) k) ?_
   refine own_s (g' := (mkF m 27 #[.val (.int p0_0), .val (.int p0_1), .val (.int p0_2), .val (.int p0_3), .val (.int p0_4), .val (.int (r1 p0_0 (2147483639 : Int32))), .val (.int (t0_13 p0_1)), .unset, .unset, .unset, .unset, .unset, .unset] [(.int 0)])) (fun _ k => XS.iconst X92.here hx rfl (hb hby at_26) k) ?_
   refine own_s (g' := (mkF m 29 #[.val (.int p0_0), .val (.int p0_1), .val (.int p0_2), .val (.int p0_3), .val (.int p0_4), .val (.int (r1 p0_0 (2147483639 : Int32))), .val (.int (t0_13 p0_1)), .val (.int 0), .unset, .unset, .unset, .unset, .unset] [])) (fun _ k => XS.istore X92.here hx rfl (hb hby at_27) rfl (l' := #[.val (.int p0_0), .val (.int p0_1), .val (.int p0_2), .val (.int p0_3), .val (.int p0_4), .val (.int (r1 p0_0 (2147483639 : Int32))), .val (.int (t0_13 p0_1)), .val (.int 0), .unset, .unset, .unset, .unset, .unset]) rfl k) ?_
   obtain ⟨T94, h94, X94, e94, E94, A94, D94, -, st94⟩ := newO X92 hx hZ hown ww5 ww6 ww7 eh92 (g := (mkF m 29 #[.val (.int p0_0), .val (.int p0_1), .val (.int p0_2), .val (.int p0_3), .val (.int p0_4), .val (.int (r1 p0_0 (2147483639 : Int32))), .val (.int (t0_13 p0_1)), .val (.int 0), .unset, .unset, .unset, .unset, .unset] [])) rfl (hb hby at_29) (by decide) (by decide)
   obtain ⟨b94, ga94⟩ : ∃ z, z = h0.size := ⟨_, rfl⟩
   rw [← ga94] at A94 D94 st94
   have g_b94 := Nat.le_trans Z0 (Nat.le_of_eq ga94.symm)
   have sz_b94 := Nat.le_trans K0.1 (Nat.le_of_eq ga94.symm)
   have f94_free : Fld Z h94 b94 "com/example/epochwise/epochwise/server/Numbering" "free" "[I" .null := D94 (Or.inl ww16) (ty := (.array .int)) (by decide)
   have f94_next : Fld Z h94 b94 "com/example/epochwise/epochwise/server/Numbering" "next" "I" (.int 0) := D94 (Or.inl ww18) (ty := .int) (by decide)
   have f94_left : Fld Z h94 b94 "com/example/epochwise/epochwise/server/Numbering" "left" "I" (.int 0) := D94 (Or.inl ww20) (ty := .int) (by decide)
   have f94_freeCount : Fld Z h94 b94 "com/example/epochwise/epochwise/server/Numbering" "freeCount" "I" (.int 0) := D94 (Or.inl ww27) (ty := .int) (by decide)
   have K94 := K0.ext E94
   refine own_s (g' := (mkF m 32 #[.val (.int p0_0), .val (.int p0_1), .val (.int p0_2), .val (.int p0_3), .val (.int p0_4), .val (.int (r1 p0_0 (2147483639 : Int32))), .val (.int (t0_13 p0_1)), .val (.int 0), .unset, .unset, .unset, .unset, .unset] [(.ref b94)])) st94 ?_
   refine own_s (g' := (mkF m 33 #[.val (.int p0_0), .val (.int p0_1), .val (.int p0_2), .val (.int p0_3), .val (.int p0_4), .val (.int (r1 p0_0 (2147483639 : Int32))), .val (.int (t0_13 p0_1)), .val (.int 0), .unset, .unset, .unset, .unset, .unset] [(.ref b94), (.ref b94)])) (fun _ k => XS.dup X94.here hx rfl (hb hby at_32) rfl rfl k) ?_
   refine own_s (g' := (mkF m 35 #[.val (.int p0_0), .val (.int p0_1), .val (.int p0_2), .val (.int p0_3), .val (.int p0_4), .val (.int (r1 p0_0 (2147483639 : Int32))), .val (.int (t0_13 p0_1)), .val (.int 0), .unset, .unset, .unset, .unset, .unset] [(.int (r1 p0_0 (2147483639 : Int32))), (.ref b94), (.ref b94)])) (fun _ k => XS.iload X94.here hx rfl (hb hby at_33) rfl k) ?_
   refine own_s (g' := (mkF m 37 #[.val (.int p0_0), .val (.int p0_1), .val (.int p0_2), .val (.int p0_3), .val (.int p0_4), .val (.int (r1 p0_0 (2147483639 : Int32))), .val (.int (t0_13 p0_1)), .val (.int 0), .unset, .unset, .unset, .unset, .unset] [(.int (t0_13 p0_1)), (.int (r1 p0_0 (2147483639 : Int32))), (.ref b94), (.ref b94)])) (fun _ k => XS.iload X94.here hx rfl (hb hby at_35) rfl k) ?_
   obtain ⟨_, _, ⟨T95, L95, k95, n95⟩, -, X95, ⟨Lc95, hQ95, l95, y95, z95⟩, st95⟩ := X94.specialBack hx (y := (⟨"com/example/epochwise/epochwise/server/Numbering", "<init>", "(II)V"⟩ : MethodName)) rfl hown (mvT hZ ww8) (mvT hZ ww9) (mvT hZ ww10) (by decide) (backOf (W := 1) (rm2 l Z a0 hw [] b94 (r1 p0_0 (2147483639 : Int32)) (t0_13 p0_1) (0 : Int32) (0 : Int32) (0 : Int32) h94 n0 (Nat.le_trans Z0 K94.1) f94_free f94_next f94_left f94_freeCount A94 g_b94) hZ ww10 ww7 (by decide) (by decide)) (g := (mkF m 37 #[.val (.int p0_0), .val (.int p0_1), .val (.int p0_2), .val (.int p0_3), .val (.int p0_4), .val (.int (r1 p0_0 (2147483639 : Int32))), .val (.int (t0_13 p0_1)), .val (.int 0), .unset, .unset, .unset, .unset, .unset] [(.int (t0_13 p0_1)), (.int (r1 p0_0 (2147483639 : Int32))), (.ref b94), (.ref b94)])) rfl (by rw [hml]; rfl) (Steps.refl _) (a := b94) (argsL := [(.int (r1 p0_0 (2147483639 : Int32))), (.int (t0_13 p0_1))]) (rest := [(.ref b94)]) (lenOf pd__II_V rfl) rfl (by show 2 * 0 + _ ≤ _; exact Nat.le_of_eq rfl) (hb hby at_37) (fun _ _ => ⟨rfl, e94, (by decide : 1 + 1 ≤ _), (by decide : 4 + 16 ≤ _)⟩)
   dsimp only [Pt.U, Pt.locs, Pt.cells, Pt.slots] at X95 l95 y95 z95 st95 hQ95
   subst l95 y95 z95
   obtain ⟨bf0_95, kf0_95, hs_bf0_95, rfl, N95q, K95q, f96, f97, f98, f99, f100, f101⟩ := hQ95
   have g_bf0_95 := Nat.le_trans (Nat.le_trans Z0 K94.1) hs_bf0_95
   have sz_bf0_95 := Nat.le_trans K94.1 hs_bf0_95
   have K95 := K94.trans K95q (allS (Or.inr sz_b94) all0)
   have N95 := Fr.app N92 N95q
   refine own_trans (g' := (mkF m 40 #[.val (.int p0_0), .val (.int p0_1), .val (.int p0_2), .val (.int p0_3), .val (.int p0_4), .val (.int (r1 p0_0 (2147483639 : Int32))), .val (.int (t0_13 p0_1)), .val (.int 0), .unset, .unset, .unset, .unset, .unset] [(.ref b94)])) st95 ?_
   refine own_s (g' := (mkF m 42 #[.val (.int p0_0), .val (.int p0_1), .val (.int p0_2), .val (.int p0_3), .val (.int p0_4), .val (.int (r1 p0_0 (2147483639 : Int32))), .val (.int (t0_13 p0_1)), .val (.int 0), .val (.ref b94), .unset, .unset, .unset, .unset] [])) (fun _ k => XS.astore X95.here hx rfl (hb hby at_40) rfl rfl (l' := #[.val (.int p0_0), .val (.int p0_1), .val (.int p0_2), .val (.int p0_3), .val (.int p0_4), .val (.int (r1 p0_0 (2147483639 : Int32))), .val (.int (t0_13 p0_1)), .val (.int 0), .val (.ref b94), .unset, .unset, .unset, .unset]) rfl k) ?_
   refine own_s (g' := (mkF m 44 #[.val (.int p0_0), .val (.int p0_1), .val (.int p0_2), .val (.int p0_3), .val (.int p0_4), .val (.int (r1 p0_0 (2147483639 : Int32))), .val (.int (t0_13 p0_1)), .val (.int 0), .val (.ref b94), .unset, .unset, .unset, .unset] [(.ref b94)])) (fun _ k => XS.aload X95.here hx rfl (hb hby at_42) rfl rfl k) ?_
   obtain ⟨cq102, kq102, q102a, q102b, q102c⟩ := isOf hZ rfl f97
   obtain ⟨_, _, ⟨T102, L102, k102, n102⟩, -, X102, ⟨Lc102, hQ102, l102, y102, z102⟩, st102⟩ := X95.virtualBack hx (y := (⟨"com/example/epochwise/epochwise/server/Numbering", "take", "()I"⟩ : MethodName)) (z := (⟨"com/example/epochwise/epochwise/server/Numbering", "take", "()I"⟩ : MethodName)) hown (mvT hZ ww21) (mvT hZ ww22) (notFace_of_selects (args := #[]) (mvT hZ ww24)) (mvT hZ ww24) (mvT hZ ww23) (by decide) (backOf (W := 0) (rm4v0 l Z a0 hw [] b94 (t0_13 p0_1) bf0_95 (r1 p0_0 (2147483639 : Int32)) T95.heap n0 (Nat.le_trans Z0 K95.1) f98 f101 f99 f100 f97 g_b94) hZ ww25 ww7 (by decide) (by decide)) q102a q102c (g := (mkF m 44 #[.val (.int p0_0), .val (.int p0_1), .val (.int p0_2), .val (.int p0_3), .val (.int p0_4), .val (.int (r1 p0_0 (2147483639 : Int32))), .val (.int (t0_13 p0_1)), .val (.int 0), .val (.ref b94), .unset, .unset, .unset, .unset] [(.ref b94)])) rfl (by rw [hml]; rfl) (Steps.refl _) (argsL := []) (rest := []) (lenOf pd___I rfl) rfl (by show 2 * 0 + _ ≤ _; exact Nat.le_of_eq rfl) (hb hby at_44) (fun _ _ => ⟨rfl, rfl, (by decide : 2 + 0 ≤ _), (by decide : 20 + 0 ≤ _)⟩)
   dsimp only [Pt.U, Pt.locs, Pt.cells, Pt.slots] at X102 l102 y102 z102 st102 hQ102
   subst l102 y102 z102
   obtain ⟨rfl, N102q, K102q, f103, f104, f105, f106, f107⟩ := hQ102
   have K102 := K95.trans K102q (allS (Or.inr sz_b94) all0)
   have N102 := Fr.app N95 N102q
   refine own_trans (g' := (mkF m 47 #[.val (.int p0_0), .val (.int p0_1), .val (.int p0_2), .val (.int p0_3), .val (.int p0_4), .val (.int (r1 p0_0 (2147483639 : Int32))), .val (.int (t0_13 p0_1)), .val (.int 0), .val (.ref b94), .unset, .unset, .unset, .unset] [(.int (r1 p0_0 (2147483639 : Int32)))])) st102 ?_
   refine own_s (g' := (mkF m 49 #[.val (.int p0_0), .val (.int p0_1), .val (.int p0_2), .val (.int p0_3), .val (.int p0_4), .val (.int (r1 p0_0 (2147483639 : Int32))), .val (.int (t0_13 p0_1)), .val (.int 0), .val (.ref b94), .val (.int (r1 p0_0 (2147483639 : Int32))), .unset, .unset, .unset] [])) (fun _ k => XS.istore X102.here hx rfl (hb hby at_47) rfl (l' := #[.val (.int p0_0), .val (.int p0_1), .val (.int p0_2), .val (.int p0_3), .val (.int p0_4), .val (.int (r1 p0_0 (2147483639 : Int32))), .val (.int (t0_13 p0_1)), .val (.int 0), .val (.ref b94), .val (.int (r1 p0_0 (2147483639 : Int32))), .unset, .unset, .unset]) rfl k) ?_
   refine own_s (g' := (mkF m 51 #[.val (.int p0_0), .val (.int p0_1), .val (.int p0_2), .val (.int p0_3), .val (.int p0_4), .val (.int (r1 p0_0 (2147483639 : Int32))), .val (.int (t0_13 p0_1)), .val (.int 0), .val (.ref b94), .val (.int (r1 p0_0 (2147483639 : Int32))), .unset, .unset, .unset] [(.int (r1 p0_0 (2147483639 : Int32)))])) (fun _ k => XS.iload X102.here hx rfl (hb hby at_49) rfl k) ?_
   refine own_s (g' := (mkF m 53 #[.val (.int p0_0), .val (.int p0_1), .val (.int p0_2), .val (.int p0_3), .val (.int p0_4), .val (.int (r1 p0_0 (2147483639 : Int32))), .val (.int (t0_13 p0_1)), .val (.int 0), .val (.ref b94), .val (.int (r1 p0_0 (2147483639 : Int32))), .unset, .unset, .unset] [(.int (r1 p0_0 (2147483639 : Int32))), (.int (r1 p0_0 (2147483639 : Int32)))])) (fun _ k => XS.iload X102.here hx rfl (hb hby at_51) rfl k) ?_
   refine own_s (g' := (mkF m 56 #[.val (.int p0_0), .val (.int p0_1), .val (.int p0_2), .val (.int p0_3), .val (.int p0_4), .val (.int (r1 p0_0 (2147483639 : Int32))), .val (.int (t0_13 p0_1)), .val (.int 0), .val (.ref b94), .val (.int (r1 p0_0 (2147483639 : Int32))), .unset, .unset, .unset] [])) (fun _ k => XS.icmpNo X102.here hx rfl (hb hby at_53) rfl (teq rfl).2 k) ?_
   refine own_s (g' := (mkF m 58 #[.val (.int p0_0), .val (.int p0_1), .val (.int p0_2), .val (.int p0_3), .val (.int p0_4), .val (.int (r1 p0_0 (2147483639 : Int32))), .val (.int (t0_13 p0_1)), .val (.int 0), .val (.ref b94), .val (.int (r1 p0_0 (2147483639 : Int32))), .unset, .unset, .unset] [(.ref b94)])) (fun _ k => XS.aload X102.here hx rfl (hb hby at_56) rfl rfl k) ?_
   obtain ⟨cq108, kq108, q108a, q108b, q108c⟩ := isOf hZ rfl f103
   obtain ⟨_, _, ⟨T108, L108, k108, n108⟩, -, X108, ⟨Lc108, hQ108, l108, y108, z108⟩, st108⟩ := X102.virtualBack hx (y := (⟨"com/example/epochwise/epochwise/server/Numbering", "count", "()I"⟩ : MethodName)) (z := (⟨"com/example/epochwise/epochwise/server/Numbering", "count", "()I"⟩ : MethodName)) hown (mvT hZ ww28) (mvT hZ ww29) (notFace_of_selects (args := #[]) (mvT hZ ww31)) (mvT hZ ww31) (mvT hZ ww30) (by decide) (backOf (W := 0) (rm5 l Z a0 hw [] b94 ((r1 p0_0 (2147483639 : Int32)) + (1 : Int32)) T102.heap n0 (Nat.le_trans Z0 K102.1) f107) hZ ww32 ww7 (by decide) (by decide)) q108a q108c (g := (mkF m 58 #[.val (.int p0_0), .val (.int p0_1), .val (.int p0_2), .val (.int p0_3), .val (.int p0_4), .val (.int (r1 p0_0 (2147483639 : Int32))), .val (.int (t0_13 p0_1)), .val (.int 0), .val (.ref b94), .val (.int (r1 p0_0 (2147483639 : Int32))), .unset, .unset, .unset] [(.ref b94)])) rfl (by rw [hml]; rfl) (Steps.refl _) (argsL := []) (rest := []) (lenOf pd___I rfl) rfl (by show 2 * 0 + _ ≤ _; exact Nat.le_of_eq rfl) (hb hby at_58) (fun _ _ => ⟨rfl, rfl, (by decide : 2 + 0 ≤ _), (by decide : 20 + 0 ≤ _)⟩)
   dsimp only [Pt.U, Pt.locs, Pt.cells, Pt.slots] at X108 l108 y108 z108 st108 hQ108
   subst l108 y108 z108
   obtain ⟨rfl, N108q, eh108⟩ := hQ108
   have N108 := Fr.app N102 N108q
   refine own_trans (g' := (mkF m 61 #[.val (.int p0_0), .val (.int p0_1), .val (.int p0_2), .val (.int p0_3), .val (.int p0_4), .val (.int (r1 p0_0 (2147483639 : Int32))), .val (.int (t0_13 p0_1)), .val (.int 0), .val (.ref b94), .val (.int (r1 p0_0 (2147483639 : Int32))), .unset, .unset, .unset] [(.int ((r1 p0_0 (2147483639 : Int32)) + (1 : Int32)))])) st108 ?_
   refine own_s (g' := (mkF m 63 #[.val (.int p0_0), .val (.int p0_1), .val (.int p0_2), .val (.int p0_3), .val (.int p0_4), .val (.int (r1 p0_0 (2147483639 : Int32))), .val (.int (t0_13 p0_1)), .val (.int 0), .val (.ref b94), .val (.int (r1 p0_0 (2147483639 : Int32))), .unset, .unset, .unset] [(.int (r1 p0_0 (2147483639 : Int32))), (.int ((r1 p0_0 (2147483639 : Int32)) + (1 : Int32)))])) (fun _ k => XS.iload X108.here hx rfl (hb hby at_61) rfl k) ?_
   refine own_s (g' := (mkF m 64 #[.val (.int p0_0), .val (.int p0_1), .val (.int p0_2), .val (.int p0_3), .val (.int p0_4), .val (.int (r1 p0_0 (2147483639 : Int32))), .val (.int (t0_13 p0_1)), .val (.int 0), .val (.ref b94), .val (.int (r1 p0_0 (2147483639 : Int32))), .unset, .unset, .unset] [(.int 1), (.int (r1 p0_0 (2147483639 : Int32))), (.int ((r1 p0_0 (2147483639 : Int32)) + (1 : Int32)))])) (fun _ k => XS.iconst X108.here hx rfl (hb hby at_63) k) ?_
   refine own_s (g' := (mkF m 65 #[.val (.int p0_0), .val (.int p0_1), .val (.int p0_2), .val (.int p0_3), .val (.int p0_4), .val (.int (r1 p0_0 (2147483639 : Int32))), .val (.int (t0_13 p0_1)), .val (.int 0), .val (.ref b94), .val (.int (r1 p0_0 (2147483639 : Int32))), .unset, .unset, .unset] [(.int ((r1 p0_0 (2147483639 : Int32)) + (1 : Int32))), (.int ((r1 p0_0 (2147483639 : Int32)) + (1 : Int32)))])) (fun _ k => XS.iadd X108.here hx rfl (hb hby at_64) rfl k) ?_
   refine own_s (g' := (mkF m 68 #[.val (.int p0_0), .val (.int p0_1), .val (.int p0_2), .val (.int p0_3), .val (.int p0_4), .val (.int (r1 p0_0 (2147483639 : Int32))), .val (.int (t0_13 p0_1)), .val (.int 0), .val (.ref b94), .val (.int (r1 p0_0 (2147483639 : Int32))), .unset, .unset, .unset] [])) (fun _ k => XS.icmpNo X108.here hx rfl (hb hby at_65) rfl (teq rfl).2 k) ?_
   refine own_s (g' := (mkF m 69 #[.val (.int p0_0), .val (.int p0_1), .val (.int p0_2), .val (.int p0_3), .val (.int p0_4), .val (.int (r1 p0_0 (2147483639 : Int32))), .val (.int (t0_13 p0_1)), .val (.int 0), .val (.ref b94), .val (.int (r1 p0_0 (2147483639 : Int32))), .unset, .unset, .unset] [(.int 1)])) (fun _ k => XS.iconst X108.here hx rfl (hb hby at_68) k) ?_
   refine own_s (g' := (mkF m 73 #[.val (.int p0_0), .val (.int p0_1), .val (.int p0_2), .val (.int p0_3), .val (.int p0_4), .val (.int (r1 p0_0 (2147483639 : Int32))), .val (.int (t0_13 p0_1)), .val (.int 0), .val (.ref b94), .val (.int (r1 p0_0 (2147483639 : Int32))), .unset, .unset, .unset] [(.int 1)])) (fun _ k => XS.goto X108.here hx rfl (pc0 := 69) (pc' := 73) rfl (hb hby at_69) (by decide) (by decide) k) ?_
   refine own_s (g' := (mkF m 75 #[.val (.int p0_0), .val (.int p0_1), .val (.int p0_2), .val (.int p0_3), .val (.int p0_4), .val (.int (r1 p0_0 (2147483639 : Int32))), .val (.int (t0_13 p0_1)), .val (.int 0), .val (.ref b94), .val (.int (r1 p0_0 (2147483639 : Int32))), .val (.int 1), .unset, .unset] [])) (fun _ k => XS.istore X108.here hx rfl (hb hby at_73) rfl (l' := #[.val (.int p0_0), .val (.int p0_1), .val (.int p0_2), .val (.int p0_3), .val (.int p0_4), .val (.int (r1 p0_0 (2147483639 : Int32))), .val (.int (t0_13 p0_1)), .val (.int 0), .val (.ref b94), .val (.int (r1 p0_0 (2147483639 : Int32))), .val (.int 1), .unset, .unset]) rfl k) ?_
   refine own_s (g' := (mkF m 77 #[.val (.int p0_0), .val (.int p0_1), .val (.int p0_2), .val (.int p0_3), .val (.int p0_4), .val (.int (r1 p0_0 (2147483639 : Int32))), .val (.int (t0_13 p0_1)), .val (.int 0), .val (.ref b94), .val (.int (r1 p0_0 (2147483639 : Int32))), .val (.int 1), .unset, .unset] [(.ref b94)])) (fun _ k => XS.aload X108.here hx rfl (hb hby at_75) rfl rfl k) ?_
   refine own_s (g' := (mkF m 78 #[.val (.int p0_0), .val (.int p0_1), .val (.int p0_2), .val (.int p0_3), .val (.int p0_4), .val (.int (r1 p0_0 (2147483639 : Int32))), .val (.int (t0_13 p0_1)), .val (.int 0), .val (.ref b94), .val (.int (r1 p0_0 (2147483639 : Int32))), .val (.int 1), .unset, .unset] [(.int p0_2), (.ref b94)])) (fun _ k => XS.iloadN X108.here hx rfl (hb hby at_77) rfl k) ?_
   have ne110 : b94 ≠ bf0_95 := Nat.ne_of_lt (Nat.lt_of_lt_of_le A94.lt hs_bf0_95)
   have f111 := (f96.keep K102q (ninS (Ne.symm ne110) nin0))
   obtain ⟨cq109, kq109, q109a, q109b, q109c⟩ := isOf hZ eh108 f103
   obtain ⟨_, _, ⟨T109, L109, k109, n109⟩, -, X109, ⟨Lc109, hQ109, l109, y109, z109⟩, st109⟩ := X108.virtualBack hx (y := (⟨"com/example/epochwise/epochwise/server/Numbering", "give", "(I)V"⟩ : MethodName)) (z := (⟨"com/example/epochwise/epochwise/server/Numbering", "give", "(I)V"⟩ : MethodName)) hown (mvT hZ ww33) (mvT hZ ww34) (notFace_of_selects (args := #[]) (mvT hZ ww36)) (mvT hZ ww36) (mvT hZ ww35) (by decide) (backOf (W := 0) (rm6v0 l Z a0 hw [] b94 p0_2 bf0_95 ((r1 p0_0 (2147483639 : Int32)) + (1 : Int32)) ((t0_13 p0_1) - (1 : Int32)) kf0_95 (0 : Int32) (0 : Int32) T102.heap n0 (Nat.le_trans Z0 K102.1) f104 f105 f107 f106 f103 f111 g_b94 g_bf0_95 (Ne.symm ne110)) hZ ww37 ww7 (by decide) (by decide)) q109a q109c (g := (mkF m 78 #[.val (.int p0_0), .val (.int p0_1), .val (.int p0_2), .val (.int p0_3), .val (.int p0_4), .val (.int (r1 p0_0 (2147483639 : Int32))), .val (.int (t0_13 p0_1)), .val (.int 0), .val (.ref b94), .val (.int (r1 p0_0 (2147483639 : Int32))), .val (.int 1), .unset, .unset] [(.int p0_2), (.ref b94)])) rfl (by rw [hml]; rfl) (Steps.refl _) (argsL := [(.int p0_2)]) (rest := []) (lenOf pd__I_V rfl) rfl (by show 2 * 0 + _ ≤ _; exact Nat.le_of_eq rfl) (hb hby at_78) (fun _ _ => ⟨rfl, eh108, (by decide : 2 + 0 ≤ _), (by decide : 20 + 0 ≤ _)⟩)
   dsimp only [Pt.U, Pt.locs, Pt.cells, Pt.slots] at X109 l109 y109 z109 st109 hQ109
   subst l109 y109 z109
   obtain ⟨rfl, N109q, K109q, f112, f113, f114, f115, f116, f117⟩ := hQ109
   have K109 := K102.trans K109q (allS (Or.inr sz_b94) (allS (Or.inr sz_bf0_95) all0))
   have N109 := Fr.app N108 N109q
   refine own_trans (g' := (mkF m 81 #[.val (.int p0_0), .val (.int p0_1), .val (.int p0_2), .val (.int p0_3), .val (.int p0_4), .val (.int (r1 p0_0 (2147483639 : Int32))), .val (.int (t0_13 p0_1)), .val (.int 0), .val (.ref b94), .val (.int (r1 p0_0 (2147483639 : Int32))), .val (.int 1), .unset, .unset] [])) st109 ?_
   refine own_s (g' := (mkF m 83 #[.val (.int p0_0), .val (.int p0_1), .val (.int p0_2), .val (.int p0_3), .val (.int p0_4), .val (.int (r1 p0_0 (2147483639 : Int32))), .val (.int (t0_13 p0_1)), .val (.int 0), .val (.ref b94), .val (.int (r1 p0_0 (2147483639 : Int32))), .val (.int 1), .unset, .unset] [(.int 0)])) (fun _ k => XS.iload X109.here hx rfl (hb hby at_81) rfl k) ?_
   refine own_s (g' := (mkF m 117 #[.val (.int p0_0), .val (.int p0_1), .val (.int p0_2), .val (.int p0_3), .val (.int p0_4), .val (.int (r1 p0_0 (2147483639 : Int32))), .val (.int (t0_13 p0_1)), .val (.int 0), .val (.ref b94), .val (.int (r1 p0_0 (2147483639 : Int32))), .val (.int 1), .unset, .unset] [])) (fun _ k => XS.ifYes X109.here hx rfl (pc0 := 83) (pc' := 117) rfl (hb hby at_83) rfl ((if0 _ _).trans (teq ((by decide) : (0 : Int32) = (0 : Int32))).1) (by decide) (by decide) k) ?_
   refine own_s (g' := (mkF m 119 #[.val (.int p0_0), .val (.int p0_1), .val (.int p0_2), .val (.int p0_3), .val (.int p0_4), .val (.int (r1 p0_0 (2147483639 : Int32))), .val (.int (t0_13 p0_1)), .val (.int 0), .val (.ref b94), .val (.int (r1 p0_0 (2147483639 : Int32))), .val (.int 1), .unset, .unset] [(.ref b94)])) (fun _ k => XS.aload X109.here hx rfl (hb hby at_117) rfl rfl k) ?_
   obtain ⟨cq118, kq118, q118a, q118b, q118c⟩ := isOf hZ rfl f112
   obtain ⟨_, _, ⟨T118, L118, k118, n118⟩, -, X118, ⟨Lc118, hQ118, l118, y118, z118⟩, st118⟩ := X109.virtualBack hx (y := (⟨"com/example/epochwise/epochwise/server/Numbering", "take", "()I"⟩ : MethodName)) (z := (⟨"com/example/epochwise/epochwise/server/Numbering", "take", "()I"⟩ : MethodName)) hown (mvT hZ ww21) (mvT hZ ww22) (notFace_of_selects (args := #[]) (mvT hZ ww24)) (mvT hZ ww24) (mvT hZ ww23) (by decide) (backOf (W := 0) (rm4v1 l Z a0 hw [] b94 bf0_95 ((r1 p0_0 (2147483639 : Int32)) + (1 : Int32)) ((t0_13 p0_1) - (1 : Int32)) kf0_95 p0_2 (0 : Int32) T109.heap n0 (Nat.le_trans Z0 K109.1) f116 f113 f114 f115 f112 f117 g_b94 (Ne.symm ne110)) hZ ww25 ww7 (by decide) (by decide)) q118a q118c (g := (mkF m 119 #[.val (.int p0_0), .val (.int p0_1), .val (.int p0_2), .val (.int p0_3), .val (.int p0_4), .val (.int (r1 p0_0 (2147483639 : Int32))), .val (.int (t0_13 p0_1)), .val (.int 0), .val (.ref b94), .val (.int (r1 p0_0 (2147483639 : Int32))), .val (.int 1), .unset, .unset] [(.ref b94)])) rfl (by rw [hml]; rfl) (Steps.refl _) (argsL := []) (rest := []) (lenOf pd___I rfl) rfl (by show 2 * 0 + _ ≤ _; exact Nat.le_of_eq rfl) (hb hby at_119) (fun _ _ => ⟨rfl, rfl, (by decide : 2 + 0 ≤ _), (by decide : 20 + 0 ≤ _)⟩)
   dsimp only [Pt.U, Pt.locs, Pt.cells, Pt.slots] at X118 l118 y118 z118 st118 hQ118
   subst l118 y118 z118
   obtain ⟨rfl, N118q, K118q, f119, f120, f121, f122, f123⟩ := hQ118
   have K118 := K109.trans K118q (allS (Or.inr sz_b94) all0)
   have N118 := Fr.app N109 N118q
   refine own_trans (g' := (mkF m 122 #[.val (.int p0_0), .val (.int p0_1), .val (.int p0_2), .val (.int p0_3), .val (.int p0_4), .val (.int (r1 p0_0 (2147483639 : Int32))), .val (.int (t0_13 p0_1)), .val (.int 0), .val (.ref b94), .val (.int (r1 p0_0 (2147483639 : Int32))), .val (.int 1), .unset, .unset] [(.int p0_2)])) st118 ?_
   refine own_s (g' := (mkF m 124 #[.val (.int p0_0), .val (.int p0_1), .val (.int p0_2), .val (.int p0_3), .val (.int p0_4), .val (.int (r1 p0_0 (2147483639 : Int32))), .val (.int (t0_13 p0_1)), .val (.int 0), .val (.ref b94), .val (.int (r1 p0_0 (2147483639 : Int32))), .val (.int 1), .val (.int p0_2), .unset] [])) (fun _ k => XS.istore X118.here hx rfl (hb hby at_122) rfl (l' := #[.val (.int p0_0), .val (.int p0_1), .val (.int p0_2), .val (.int p0_3), .val (.int p0_4), .val (.int (r1 p0_0 (2147483639 : Int32))), .val (.int (t0_13 p0_1)), .val (.int 0), .val (.ref b94), .val (.int (r1 p0_0 (2147483639 : Int32))), .val (.int 1), .val (.int p0_2), .unset]) rfl k) ?_
   refine own_s (g' := (mkF m 126 #[.val (.int p0_0), .val (.int p0_1), .val (.int p0_2), .val (.int p0_3), .val (.int p0_4), .val (.int (r1 p0_0 (2147483639 : Int32))), .val (.int (t0_13 p0_1)), .val (.int 0), .val (.ref b94), .val (.int (r1 p0_0 (2147483639 : Int32))), .val (.int 1), .val (.int p0_2), .unset] [(.int 1)])) (fun _ k => XS.iload X118.here hx rfl (hb hby at_124) rfl k) ?_
   refine own_s (g' := (mkF m 129 #[.val (.int p0_0), .val (.int p0_1), .val (.int p0_2), .val (.int p0_3), .val (.int p0_4), .val (.int (r1 p0_0 (2147483639 : Int32))), .val (.int (t0_13 p0_1)), .val (.int 0), .val (.ref b94), .val (.int (r1 p0_0 (2147483639 : Int32))), .val (.int 1), .val (.int p0_2), .unset] [])) (fun _ k => XS.ifNo X118.here hx rfl (hb hby at_126) rfl ((if0 _ _).trans (feq ((by decide) : ¬ (1 : Int32) = (0 : Int32))).1) k) ?_
   refine own_s (g' := (mkF m 131 #[.val (.int p0_0), .val (.int p0_1), .val (.int p0_2), .val (.int p0_3), .val (.int p0_4), .val (.int (r1 p0_0 (2147483639 : Int32))), .val (.int (t0_13 p0_1)), .val (.int 0), .val (.ref b94), .val (.int (r1 p0_0 (2147483639 : Int32))), .val (.int 1), .val (.int p0_2), .unset] [(.int p0_2)])) (fun _ k => XS.iload X118.here hx rfl (hb hby at_129) rfl k) ?_
   refine own_s (g' := (mkF m 132 #[.val (.int p0_0), .val (.int p0_1), .val (.int p0_2), .val (.int p0_3), .val (.int p0_4), .val (.int (r1 p0_0 (2147483639 : Int32))), .val (.int (t0_13 p0_1)), .val (.int 0), .val (.ref b94), .val (.int (r1 p0_0 (2147483639 : Int32))), .val (.int 1), .val (.int p0_2), .unset] [(.int p0_2), (.int p0_2)])) (fun _ k => XS.iloadN X118.here hx rfl (hb hby at_131) rfl k) ?_
   refine own_s (g' := (mkF m 135 #[.val (.int p0_0), .val (.int p0_1), .val (.int p0_2), .val (.int p0_3), .val (.int p0_4), .val (.int (r1 p0_0 (2147483639 : Int32))), .val (.int (t0_13 p0_1)), .val (.int 0), .val (.ref b94), .val (.int (r1 p0_0 (2147483639 : Int32))), .val (.int 1), .val (.int p0_2), .unset] [])) (fun _ k => XS.icmpNo X118.here hx rfl (hb hby at_132) rfl (teq rfl).2 k) ?_
   refine own_s (g' := (mkF m 136 #[.val (.int p0_0), .val (.int p0_1), .val (.int p0_2), .val (.int p0_3), .val (.int p0_4), .val (.int (r1 p0_0 (2147483639 : Int32))), .val (.int (t0_13 p0_1)), .val (.int 0), .val (.ref b94), .val (.int (r1 p0_0 (2147483639 : Int32))), .val (.int 1), .val (.int p0_2), .unset] [(.int 1)])) (fun _ k => XS.iconst X118.here hx rfl (hb hby at_135) k) ?_
   refine own_s (g' := (mkF m 140 #[.val (.int p0_0), .val (.int p0_1), .val (.int p0_2), .val (.int p0_3), .val (.int p0_4), .val (.int (r1 p0_0 (2147483639 : Int32))), .val (.int (t0_13 p0_1)), .val (.int 0), .val (.ref b94), .val (.int (r1 p0_0 (2147483639 : Int32))), .val (.int 1), .val (.int p0_2), .unset] [(.int 1)])) (fun _ k => XS.goto X118.here hx rfl (pc0 := 136) (pc' := 140) rfl (hb hby at_136) (by decide) (by decide) k) ?_
   refine own_s (g' := (mkF m 142 #[.val (.int p0_0), .val (.int p0_1), .val (.int p0_2), .val (.int p0_3), .val (.int p0_4), .val (.int (r1 p0_0 (2147483639 : Int32))), .val (.int (t0_13 p0_1)), .val (.int 0), .val (.ref b94), .val (.int (r1 p0_0 (2147483639 : Int32))), .val (.int 1), .val (.int p0_2), .unset] [])) (fun _ k => XS.istore X118.here hx rfl (hb hby at_140) rfl (l' := #[.val (.int p0_0), .val (.int p0_1), .val (.int p0_2), .val (.int p0_3), .val (.int p0_4), .val (.int (r1 p0_0 (2147483639 : Int32))), .val (.int (t0_13 p0_1)), .val (.int 0), .val (.ref b94), .val (.int (r1 p0_0 (2147483639 : Int32))), .val (.int 1), .val (.int p0_2), .unset]) rfl k) ?_
   refine own_s (g' := (mkF m 144 #[.val (.int p0_0), .val (.int p0_1), .val (.int p0_2), .val (.int p0_3), .val (.int p0_4), .val (.int (r1 p0_0 (2147483639 : Int32))), .val (.int (t0_13 p0_1)), .val (.int 0), .val (.ref b94), .val (.int (r1 p0_0 (2147483639 : Int32))), .val (.int 1), .val (.int p0_2), .unset] [(.ref b94)])) (fun _ k => XS.aload X118.here hx rfl (hb hby at_142) rfl rfl k) ?_
   obtain ⟨cq124, kq124, q124a, q124b, q124c⟩ := isOf hZ rfl f119
   obtain ⟨_, _, ⟨T124, L124, k124, n124⟩, -, X124, ⟨Lc124, hQ124, l124, y124, z124⟩, st124⟩ := X118.virtualBack hx (y := (⟨"com/example/epochwise/epochwise/server/Numbering", "take", "()I"⟩ : MethodName)) (z := (⟨"com/example/epochwise/epochwise/server/Numbering", "take", "()I"⟩ : MethodName)) hown (mvT hZ ww21) (mvT hZ ww22) (notFace_of_selects (args := #[]) (mvT hZ ww24)) (mvT hZ ww24) (mvT hZ ww23) (by decide) (backOf (W := 0) (rm4v0 l Z a0 hw [] b94 ((t0_13 p0_1) - (1 : Int32)) bf0_95 ((r1 p0_0 (2147483639 : Int32)) + (1 : Int32)) T118.heap n0 (Nat.le_trans Z0 K118.1) f123 f122 f120 f121 f119 g_b94) hZ ww25 ww7 (by decide) (by decide)) q124a q124c (g := (mkF m 144 #[.val (.int p0_0), .val (.int p0_1), .val (.int p0_2), .val (.int p0_3), .val (.int p0_4), .val (.int (r1 p0_0 (2147483639 : Int32))), .val (.int (t0_13 p0_1)), .val (.int 0), .val (.ref b94), .val (.int (r1 p0_0 (2147483639 : Int32))), .val (.int 1), .val (.int p0_2), .unset] [(.ref b94)])) rfl (by rw [hml]; rfl) (Steps.refl _) (argsL := []) (rest := []) (lenOf pd___I rfl) rfl (by show 2 * 0 + _ ≤ _; exact Nat.le_of_eq rfl) (hb hby at_144) (fun _ _ => ⟨rfl, rfl, (by decide : 2 + 0 ≤ _), (by decide : 20 + 0 ≤ _)⟩)
   dsimp only [Pt.U, Pt.locs, Pt.cells, Pt.slots] at X124 l124 y124 z124 st124 hQ124
   subst l124 y124 z124
   obtain ⟨rfl, N124q, K124q, f125, f126, f127, f128, f129⟩ := hQ124
   have K124 := K118.trans K124q (allS (Or.inr sz_b94) all0)
   have N124 := Fr.app N118 N124q
   refine own_trans (g' := (mkF m 147 #[.val (.int p0_0), .val (.int p0_1), .val (.int p0_2), .val (.int p0_3), .val (.int p0_4), .val (.int (r1 p0_0 (2147483639 : Int32))), .val (.int (t0_13 p0_1)), .val (.int 0), .val (.ref b94), .val (.int (r1 p0_0 (2147483639 : Int32))), .val (.int 1), .val (.int p0_2), .unset] [(.int ((r1 p0_0 (2147483639 : Int32)) + (1 : Int32)))])) st124 ?_
   refine own_s (g' := (mkF m 149 #[.val (.int p0_0), .val (.int p0_1), .val (.int p0_2), .val (.int p0_3), .val (.int p0_4), .val (.int (r1 p0_0 (2147483639 : Int32))), .val (.int (t0_13 p0_1)), .val (.int 0), .val (.ref b94), .val (.int (r1 p0_0 (2147483639 : Int32))), .val (.int 1), .val (.int p0_2), .val (.int ((r1 p0_0 (2147483639 : Int32)) + (1 : Int32)))] [])) (fun _ k => XS.istore X124.here hx rfl (hb hby at_147) rfl (l' := #[.val (.int p0_0), .val (.int p0_1), .val (.int p0_2), .val (.int p0_3), .val (.int p0_4), .val (.int (r1 p0_0 (2147483639 : Int32))), .val (.int (t0_13 p0_1)), .val (.int 0), .val (.ref b94), .val (.int (r1 p0_0 (2147483639 : Int32))), .val (.int 1), .val (.int p0_2), .val (.int ((r1 p0_0 (2147483639 : Int32)) + (1 : Int32)))]) rfl k) ?_
   refine own_s (g' := (mkF m 151 #[.val (.int p0_0), .val (.int p0_1), .val (.int p0_2), .val (.int p0_3), .val (.int p0_4), .val (.int (r1 p0_0 (2147483639 : Int32))), .val (.int (t0_13 p0_1)), .val (.int 0), .val (.ref b94), .val (.int (r1 p0_0 (2147483639 : Int32))), .val (.int 1), .val (.int p0_2), .val (.int ((r1 p0_0 (2147483639 : Int32)) + (1 : Int32)))] [(.int 1)])) (fun _ k => XS.iload X124.here hx rfl (hb hby at_149) rfl k) ?_
   refine own_s (g' := (mkF m 154 #[.val (.int p0_0), .val (.int p0_1), .val (.int p0_2), .val (.int p0_3), .val (.int p0_4), .val (.int (r1 p0_0 (2147483639 : Int32))), .val (.int (t0_13 p0_1)), .val (.int 0), .val (.ref b94), .val (.int (r1 p0_0 (2147483639 : Int32))), .val (.int 1), .val (.int p0_2), .val (.int ((r1 p0_0 (2147483639 : Int32)) + (1 : Int32)))] [])) (fun _ k => XS.ifNo X124.here hx rfl (hb hby at_151) rfl ((if0 _ _).trans (feq ((by decide) : ¬ (1 : Int32) = (0 : Int32))).1) k) ?_
   refine own_s (g' := (mkF m 156 #[.val (.int p0_0), .val (.int p0_1), .val (.int p0_2), .val (.int p0_3), .val (.int p0_4), .val (.int (r1 p0_0 (2147483639 : Int32))), .val (.int (t0_13 p0_1)), .val (.int 0), .val (.ref b94), .val (.int (r1 p0_0 (2147483639 : Int32))), .val (.int 1), .val (.int p0_2), .val (.int ((r1 p0_0 (2147483639 : Int32)) + (1 : Int32)))] [(.int ((r1 p0_0 (2147483639 : Int32)) + (1 : Int32)))])) (fun _ k => XS.iload X124.here hx rfl (hb hby at_154) rfl k) ?_
   refine own_s (g' := (mkF m 158 #[.val (.int p0_0), .val (.int p0_1), .val (.int p0_2), .val (.int p0_3), .val (.int p0_4), .val (.int (r1 p0_0 (2147483639 : Int32))), .val (.int (t0_13 p0_1)), .val (.int 0), .val (.ref b94), .val (.int (r1 p0_0 (2147483639 : Int32))), .val (.int 1), .val (.int p0_2), .val (.int ((r1 p0_0 (2147483639 : Int32)) + (1 : Int32)))] [(.int (r1 p0_0 (2147483639 : Int32))), (.int ((r1 p0_0 (2147483639 : Int32)) + (1 : Int32)))])) (fun _ k => XS.iload X124.here hx rfl (hb hby at_156) rfl k) ?_
   refine own_s (g' := (mkF m 159 #[.val (.int p0_0), .val (.int p0_1), .val (.int p0_2), .val (.int p0_3), .val (.int p0_4), .val (.int (r1 p0_0 (2147483639 : Int32))), .val (.int (t0_13 p0_1)), .val (.int 0), .val (.ref b94), .val (.int (r1 p0_0 (2147483639 : Int32))), .val (.int 1), .val (.int p0_2), .val (.int ((r1 p0_0 (2147483639 : Int32)) + (1 : Int32)))] [(.int 1), (.int (r1 p0_0 (2147483639 : Int32))), (.int ((r1 p0_0 (2147483639 : Int32)) + (1 : Int32)))])) (fun _ k => XS.iconst X124.here hx rfl (hb hby at_158) k) ?_
   refine own_s (g' := (mkF m 160 #[.val (.int p0_0), .val (.int p0_1), .val (.int p0_2), .val (.int p0_3), .val (.int p0_4), .val (.int (r1 p0_0 (2147483639 : Int32))), .val (.int (t0_13 p0_1)), .val (.int 0), .val (.ref b94), .val (.int (r1 p0_0 (2147483639 : Int32))), .val (.int 1), .val (.int p0_2), .val (.int ((r1 p0_0 (2147483639 : Int32)) + (1 : Int32)))] [(.int ((r1 p0_0 (2147483639 : Int32)) + (1 : Int32))), (.int ((r1 p0_0 (2147483639 : Int32)) + (1 : Int32)))])) (fun _ k => XS.iadd X124.here hx rfl (hb hby at_159) rfl k) ?_
   refine own_s (g' := (mkF m 163 #[.val (.int p0_0), .val (.int p0_1), .val (.int p0_2), .val (.int p0_3), .val (.int p0_4), .val (.int (r1 p0_0 (2147483639 : Int32))), .val (.int (t0_13 p0_1)), .val (.int 0), .val (.ref b94), .val (.int (r1 p0_0 (2147483639 : Int32))), .val (.int 1), .val (.int p0_2), .val (.int ((r1 p0_0 (2147483639 : Int32)) + (1 : Int32)))] [])) (fun _ k => XS.icmpNo X124.here hx rfl (hb hby at_160) rfl (teq rfl).2 k) ?_
   refine own_s (g' := (mkF m 165 #[.val (.int p0_0), .val (.int p0_1), .val (.int p0_2), .val (.int p0_3), .val (.int p0_4), .val (.int (r1 p0_0 (2147483639 : Int32))), .val (.int (t0_13 p0_1)), .val (.int 0), .val (.ref b94), .val (.int (r1 p0_0 (2147483639 : Int32))), .val (.int 1), .val (.int p0_2), .val (.int ((r1 p0_0 (2147483639 : Int32)) + (1 : Int32)))] [(.ref b94)])) (fun _ k => XS.aload X124.here hx rfl (hb hby at_163) rfl rfl k) ?_
   obtain ⟨cq130, kq130, q130a, q130b, q130c⟩ := isOf hZ rfl f125
   obtain ⟨_, _, ⟨T130, L130, k130, n130⟩, -, X130, ⟨Lc130, hQ130, l130, y130, z130⟩, st130⟩ := X124.virtualBack hx (y := (⟨"com/example/epochwise/epochwise/server/Numbering", "count", "()I"⟩ : MethodName)) (z := (⟨"com/example/epochwise/epochwise/server/Numbering", "count", "()I"⟩ : MethodName)) hown (mvT hZ ww28) (mvT hZ ww29) (notFace_of_selects (args := #[]) (mvT hZ ww31)) (mvT hZ ww31) (mvT hZ ww30) (by decide) (backOf (W := 0) (rm5 l Z a0 hw [] b94 (((r1 p0_0 (2147483639 : Int32)) + (1 : Int32)) + (1 : Int32)) T124.heap n0 (Nat.le_trans Z0 K124.1) f129) hZ ww32 ww7 (by decide) (by decide)) q130a q130c (g := (mkF m 165 #[.val (.int p0_0), .val (.int p0_1), .val (.int p0_2), .val (.int p0_3), .val (.int p0_4), .val (.int (r1 p0_0 (2147483639 : Int32))), .val (.int (t0_13 p0_1)), .val (.int 0), .val (.ref b94), .val (.int (r1 p0_0 (2147483639 : Int32))), .val (.int 1), .val (.int p0_2), .val (.int ((r1 p0_0 (2147483639 : Int32)) + (1 : Int32)))] [(.ref b94)])) rfl (by rw [hml]; rfl) (Steps.refl _) (argsL := []) (rest := []) (lenOf pd___I rfl) rfl (by show 2 * 0 + _ ≤ _; exact Nat.le_of_eq rfl) (hb hby at_165) (fun _ _ => ⟨rfl, rfl, (by decide : 2 + 0 ≤ _), (by decide : 20 + 0 ≤ _)⟩)
   dsimp only [Pt.U, Pt.locs, Pt.cells, Pt.slots] at X130 l130 y130 z130 st130 hQ130
   subst l130 y130 z130
   obtain ⟨rfl, N130q, eh130⟩ := hQ130
   have N130 := Fr.app N124 N130q
   refine own_trans (g' := (mkF m 168 #[.val (.int p0_0), .val (.int p0_1), .val (.int p0_2), .val (.int p0_3), .val (.int p0_4), .val (.int (r1 p0_0 (2147483639 : Int32))), .val (.int (t0_13 p0_1)), .val (.int 0), .val (.ref b94), .val (.int (r1 p0_0 (2147483639 : Int32))), .val (.int 1), .val (.int p0_2), .val (.int ((r1 p0_0 (2147483639 : Int32)) + (1 : Int32)))] [(.int (((r1 p0_0 (2147483639 : Int32)) + (1 : Int32)) + (1 : Int32)))])) st130 ?_
   refine own_s (g' := (mkF m 170 #[.val (.int p0_0), .val (.int p0_1), .val (.int p0_2), .val (.int p0_3), .val (.int p0_4), .val (.int (r1 p0_0 (2147483639 : Int32))), .val (.int (t0_13 p0_1)), .val (.int 0), .val (.ref b94), .val (.int (r1 p0_0 (2147483639 : Int32))), .val (.int 1), .val (.int p0_2), .val (.int ((r1 p0_0 (2147483639 : Int32)) + (1 : Int32)))] [(.int (r1 p0_0 (2147483639 : Int32))), (.int (((r1 p0_0 (2147483639 : Int32)) + (1 : Int32)) + (1 : Int32)))])) (fun _ k => XS.iload X130.here hx rfl (hb hby at_168) rfl k) ?_
   refine own_s (g' := (mkF m 171 #[.val (.int p0_0), .val (.int p0_1), .val (.int p0_2), .val (.int p0_3), .val (.int p0_4), .val (.int (r1 p0_0 (2147483639 : Int32))), .val (.int (t0_13 p0_1)), .val (.int 0), .val (.ref b94), .val (.int (r1 p0_0 (2147483639 : Int32))), .val (.int 1), .val (.int p0_2), .val (.int ((r1 p0_0 (2147483639 : Int32)) + (1 : Int32)))] [(.int 2), (.int (r1 p0_0 (2147483639 : Int32))), (.int (((r1 p0_0 (2147483639 : Int32)) + (1 : Int32)) + (1 : Int32)))])) (fun _ k => XS.iconst X130.here hx rfl (hb hby at_170) k) ?_
   refine own_s (g' := (mkF m 172 #[.val (.int p0_0), .val (.int p0_1), .val (.int p0_2), .val (.int p0_3), .val (.int p0_4), .val (.int (r1 p0_0 (2147483639 : Int32))), .val (.int (t0_13 p0_1)), .val (.int 0), .val (.ref b94), .val (.int (r1 p0_0 (2147483639 : Int32))), .val (.int 1), .val (.int p0_2), .val (.int ((r1 p0_0 (2147483639 : Int32)) + (1 : Int32)))] [(.int ((r1 p0_0 (2147483639 : Int32)) + (2 : Int32))), (.int (((r1 p0_0 (2147483639 : Int32)) + (1 : Int32)) + (1 : Int32)))])) (fun _ k => XS.iadd X130.here hx rfl (hb hby at_171) rfl k) ?_
   refine own_s (g' := (mkF m 175 #[.val (.int p0_0), .val (.int p0_1), .val (.int p0_2), .val (.int p0_3), .val (.int p0_4), .val (.int (r1 p0_0 (2147483639 : Int32))), .val (.int (t0_13 p0_1)), .val (.int 0), .val (.ref b94), .val (.int (r1 p0_0 (2147483639 : Int32))), .val (.int 1), .val (.int p0_2), .val (.int ((r1 p0_0 (2147483639 : Int32)) + (1 : Int32)))] [])) (fun _ k => XS.icmpNo X130.here hx rfl (hb hby at_172) rfl (teq ((own_112 _) : (((r1 p0_0 (2147483639 : Int32)) + (1 : Int32)) + (1 : Int32)) = ((r1 p0_0 (2147483639 : Int32)) + (2 : Int32)))).2 k) ?_
   refine own_s (g' := (mkF m 177 #[.val (.int p0_0), .val (.int p0_1), .val (.int p0_2), .val (.int p0_3), .val (.int p0_4), .val (.int (r1 p0_0 (2147483639 : Int32))), .val (.int (t0_13 p0_1)), .val (.int 0), .val (.ref b94), .val (.int (r1 p0_0 (2147483639 : Int32))), .val (.int 1), .val (.int p0_2), .val (.int ((r1 p0_0 (2147483639 : Int32)) + (1 : Int32)))] [(.ref b94)])) (fun _ k => XS.aload X130.here hx rfl (hb hby at_175) rfl rfl k) ?_
   obtain ⟨cq131, kq131, q131a, q131b, q131c⟩ := isOf hZ eh130 f125
   obtain ⟨_, _, ⟨T131, L131, k131, n131⟩, -, X131, ⟨Lc131, hQ131, l131, y131, z131⟩, st131⟩ := X130.virtualBack hx (y := (⟨"com/example/epochwise/epochwise/server/Numbering", "runOut", "()Z"⟩ : MethodName)) (z := (⟨"com/example/epochwise/epochwise/server/Numbering", "runOut", "()Z"⟩ : MethodName)) hown (mvT hZ ww38) (mvT hZ ww39) (notFace_of_selects (args := #[]) (mvT hZ ww41)) (mvT hZ ww41) (mvT hZ ww40) (by decide) (backOf (W := 0) (rm7 l Z a0 hw [] b94 (0 : Int32) (((t0_13 p0_1) - (1 : Int32)) - (1 : Int32)) T124.heap n0 (Nat.le_trans Z0 K124.1) f126 f128) hZ ww42 ww7 (by decide) (by decide)) q131a q131c (g := (mkF m 177 #[.val (.int p0_0), .val (.int p0_1), .val (.int p0_2), .val (.int p0_3), .val (.int p0_4), .val (.int (r1 p0_0 (2147483639 : Int32))), .val (.int (t0_13 p0_1)), .val (.int 0), .val (.ref b94), .val (.int (r1 p0_0 (2147483639 : Int32))), .val (.int 1), .val (.int p0_2), .val (.int ((r1 p0_0 (2147483639 : Int32)) + (1 : Int32)))] [(.ref b94)])) rfl (by rw [hml]; rfl) (Steps.refl _) (argsL := []) (rest := []) (lenOf pd___Z rfl) rfl (by show 2 * 0 + _ ≤ _; exact Nat.le_of_eq rfl) (hb hby at_177) (fun _ _ => ⟨rfl, eh130, (by decide : 2 + 0 ≤ _), (by decide : 20 + 0 ≤ _)⟩)
   dsimp only [Pt.U, Pt.locs, Pt.cells, Pt.slots] at X131 l131 y131 z131 st131 hQ131
   subst l131 y131 z131
   obtain ⟨rfl, N131q, eh131⟩ := hQ131
   have N131 := Fr.app N130 N131q
   refine own_trans (g' := (mkF m 180 #[.val (.int p0_0), .val (.int p0_1), .val (.int p0_2), .val (.int p0_3), .val (.int p0_4), .val (.int (r1 p0_0 (2147483639 : Int32))), .val (.int (t0_13 p0_1)), .val (.int 0), .val (.ref b94), .val (.int (r1 p0_0 (2147483639 : Int32))), .val (.int 1), .val (.int p0_2), .val (.int ((r1 p0_0 (2147483639 : Int32)) + (1 : Int32)))] [(.int (r7 (0 : Int32) (((t0_13 p0_1) - (1 : Int32)) - (1 : Int32))))])) st131 ?_
   refine own_s (g' := (mkF m 182 #[.val (.int p0_0), .val (.int p0_1), .val (.int p0_2), .val (.int p0_3), .val (.int p0_4), .val (.int (r1 p0_0 (2147483639 : Int32))), .val (.int (t0_13 p0_1)), .val (.int 0), .val (.ref b94), .val (.int (r1 p0_0 (2147483639 : Int32))), .val (.int 1), .val (.int p0_2), .val (.int ((r1 p0_0 (2147483639 : Int32)) + (1 : Int32)))] [(.int (t0_13 p0_1)), (.int (r7 (0 : Int32) (((t0_13 p0_1) - (1 : Int32)) - (1 : Int32))))])) (fun _ k => XS.iload X131.here hx rfl (hb hby at_180) rfl k) ?_
   refine own_s (g' := (mkF m 183 #[.val (.int p0_0), .val (.int p0_1), .val (.int p0_2), .val (.int p0_3), .val (.int p0_4), .val (.int (r1 p0_0 (2147483639 : Int32))), .val (.int (t0_13 p0_1)), .val (.int 0), .val (.ref b94), .val (.int (r1 p0_0 (2147483639 : Int32))), .val (.int 1), .val (.int p0_2), .val (.int ((r1 p0_0 (2147483639 : Int32)) + (1 : Int32)))] [(.int 2), (.int (t0_13 p0_1)), (.int (r7 (0 : Int32) (((t0_13 p0_1) - (1 : Int32)) - (1 : Int32))))])) (fun _ k => XS.iconst X131.here hx rfl (hb hby at_182) k) ?_
   by_cases c132 : (t0_13 p0_1) = (2 : Int32)
   ·skip
    refine own_s (g' := (mkF m 186 #[.val (.int p0_0), .val (.int p0_1), .val (.int p0_2), .val (.int p0_3), .val (.int p0_4), .val (.int (r1 p0_0 (2147483639 : Int32))), .val (.int (t0_13 p0_1)), .val (.int 0), .val (.ref b94), .val (.int (r1 p0_0 (2147483639 : Int32))), .val (.int 1), .val (.int p0_2), .val (.int ((r1 p0_0 (2147483639 : Int32)) + (1 : Int32)))] [(.int (r7 (0 : Int32) (((t0_13 p0_1) - (1 : Int32)) - (1 : Int32))))])) (fun _ k => XS.icmpNo X131.here hx rfl (hb hby at_183) rfl (teq c132).2 k) ?_
    refine own_s (g' := (mkF m 187 #[.val (.int p0_0), .val (.int p0_1), .val (.int p0_2), .val (.int p0_3), .val (.int p0_4), .val (.int (r1 p0_0 (2147483639 : Int32))), .val (.int (t0_13 p0_1)), .val (.int 0), .val (.ref b94), .val (.int (r1 p0_0 (2147483639 : Int32))), .val (.int 1), .val (.int p0_2), .val (.int ((r1 p0_0 (2147483639 : Int32)) + (1 : Int32)))] [(.int 1), (.int (r7 (0 : Int32) (((t0_13 p0_1) - (1 : Int32)) - (1 : Int32))))])) (fun _ k => XS.iconst X131.here hx rfl (hb hby at_186) k) ?_
    refine own_s (g' := (mkF m 191 #[.val (.int p0_0), .val (.int p0_1), .val (.int p0_2), .val (.int p0_3), .val (.int p0_4), .val (.int (r1 p0_0 (2147483639 : Int32))), .val (.int (t0_13 p0_1)), .val (.int 0), .val (.ref b94), .val (.int (r1 p0_0 (2147483639 : Int32))), .val (.int 1), .val (.int p0_2), .val (.int ((r1 p0_0 (2147483639 : Int32)) + (1 : Int32)))] [(.int 1), (.int (r7 (0 : Int32) (((t0_13 p0_1) - (1 : Int32)) - (1 : Int32))))])) (fun _ k => XS.goto X131.here hx rfl (pc0 := 187) (pc' := 191) rfl (hb hby at_187) (by decide) (by decide) k) ?_
    refine own_s (g' := (mkF m 194 #[.val (.int p0_0), .val (.int p0_1), .val (.int p0_2), .val (.int p0_3), .val (.int p0_4), .val (.int (r1 p0_0 (2147483639 : Int32))), .val (.int (t0_13 p0_1)), .val (.int 0), .val (.ref b94), .val (.int (r1 p0_0 (2147483639 : Int32))), .val (.int 1), .val (.int p0_2), .val (.int ((r1 p0_0 (2147483639 : Int32)) + (1 : Int32)))] [])) (fun _ k => XS.icmpNo X131.here hx rfl (hb hby at_191) rfl (teq (((if_pos rfl).trans (if_pos (own_two _ c132))) : (r7 (0 : Int32) (((t0_13 p0_1) - (1 : Int32)) - (1 : Int32))) = (1 : Int32))).2 k) ?_
    refine own_s (g' := (mkF m 195 #[.val (.int p0_0), .val (.int p0_1), .val (.int p0_2), .val (.int p0_3), .val (.int p0_4), .val (.int (r1 p0_0 (2147483639 : Int32))), .val (.int (t0_13 p0_1)), .val (.int 0), .val (.ref b94), .val (.int (r1 p0_0 (2147483639 : Int32))), .val (.int 1), .val (.int p0_2), .val (.int ((r1 p0_0 (2147483639 : Int32)) + (1 : Int32)))] [(.int 1)])) (fun _ k => XS.iconst X131.here hx rfl (hb hby at_194) k) ?_
    refine own_s (g' := (mkF m 199 #[.val (.int p0_0), .val (.int p0_1), .val (.int p0_2), .val (.int p0_3), .val (.int p0_4), .val (.int (r1 p0_0 (2147483639 : Int32))), .val (.int (t0_13 p0_1)), .val (.int 0), .val (.ref b94), .val (.int (r1 p0_0 (2147483639 : Int32))), .val (.int 1), .val (.int p0_2), .val (.int ((r1 p0_0 (2147483639 : Int32)) + (1 : Int32)))] [(.int 1)])) (fun _ k => XS.goto X131.here hx rfl (pc0 := 195) (pc' := 199) rfl (hb hby at_195) (by decide) (by decide) k) ?_
    refine own_s (g' := (mkF m 201 #[.val (.int p0_0), .val (.int p0_1), .val (.int p0_2), .val (.int p0_3), .val (.int p0_4), .val (.int (r1 p0_0 (2147483639 : Int32))), .val (.int (t0_13 p0_1)), .val (.int 0), .val (.ref b94), .val (.int (r1 p0_0 (2147483639 : Int32))), .val (.int 1), .val (.int p0_2), .val (.int ((r1 p0_0 (2147483639 : Int32)) + (1 : Int32)))] [])) (fun _ k => XS.istore X131.here hx rfl (hb hby at_199) rfl (l' := #[.val (.int p0_0), .val (.int p0_1), .val (.int p0_2), .val (.int p0_3), .val (.int p0_4), .val (.int (r1 p0_0 (2147483639 : Int32))), .val (.int (t0_13 p0_1)), .val (.int 0), .val (.ref b94), .val (.int (r1 p0_0 (2147483639 : Int32))), .val (.int 1), .val (.int p0_2), .val (.int ((r1 p0_0 (2147483639 : Int32)) + (1 : Int32)))]) rfl k) ?_
    refine own_s (g' := (mkF m 203 #[.val (.int p0_0), .val (.int p0_1), .val (.int p0_2), .val (.int p0_3), .val (.int p0_4), .val (.int (r1 p0_0 (2147483639 : Int32))), .val (.int (t0_13 p0_1)), .val (.int 0), .val (.ref b94), .val (.int (r1 p0_0 (2147483639 : Int32))), .val (.int 1), .val (.int p0_2), .val (.int ((r1 p0_0 (2147483639 : Int32)) + (1 : Int32)))] [(.int 1)])) (fun _ k => XS.iload X131.here hx rfl (hb hby at_201) rfl k) ?_
    refine own_retN X131 hx hlk (t := .boolean) hret (by simp) (hb hby at_203) (z' := (1 : Int32)) (by decide) (by decide) (by decide) ?_
    show Q0 Z p0_0 p0_1 p0_2 p0_3 p0_4 h0 n0 _ T131.heap _
    rw [eh131]
    exact ⟨rfl, N131⟩
   ·skip
    refine own_s (g' := (mkF m 190 #[.val (.int p0_0), .val (.int p0_1), .val (.int p0_2), .val (.int p0_3), .val (.int p0_4), .val (.int (r1 p0_0 (2147483639 : Int32))), .val (.int (t0_13 p0_1)), .val (.int 0), .val (.ref b94), .val (.int (r1 p0_0 (2147483639 : Int32))), .val (.int 1), .val (.int p0_2), .val (.int ((r1 p0_0 (2147483639 : Int32)) + (1 : Int32)))] [(.int (r7 (0 : Int32) (((t0_13 p0_1) - (1 : Int32)) - (1 : Int32))))])) (fun _ k => XS.icmpYes X131.here hx rfl (pc0 := 183) (pc' := 190) rfl (hb hby at_183) rfl (feq c132).2 (by decide) (by decide) k) ?_
    refine own_s (g' := (mkF m 191 #[.val (.int p0_0), .val (.int p0_1), .val (.int p0_2), .val (.int p0_3), .val (.int p0_4), .val (.int (r1 p0_0 (2147483639 : Int32))), .val (.int (t0_13 p0_1)), .val (.int 0), .val (.ref b94), .val (.int (r1 p0_0 (2147483639 : Int32))), .val (.int 1), .val (.int p0_2), .val (.int ((r1 p0_0 (2147483639 : Int32)) + (1 : Int32)))] [(.int 0), (.int (r7 (0 : Int32) (((t0_13 p0_1) - (1 : Int32)) - (1 : Int32))))])) (fun _ k => XS.iconst X131.here hx rfl (hb hby at_190) k) ?_
    refine own_s (g' := (mkF m 194 #[.val (.int p0_0), .val (.int p0_1), .val (.int p0_2), .val (.int p0_3), .val (.int p0_4), .val (.int (r1 p0_0 (2147483639 : Int32))), .val (.int (t0_13 p0_1)), .val (.int 0), .val (.ref b94), .val (.int (r1 p0_0 (2147483639 : Int32))), .val (.int 1), .val (.int p0_2), .val (.int ((r1 p0_0 (2147483639 : Int32)) + (1 : Int32)))] [])) (fun _ k => XS.icmpNo X131.here hx rfl (hb hby at_191) rfl (teq (((if_pos rfl).trans (if_neg (own_not2 _ c132))) : (r7 (0 : Int32) (((t0_13 p0_1) - (1 : Int32)) - (1 : Int32))) = (0 : Int32))).2 k) ?_
    refine own_s (g' := (mkF m 195 #[.val (.int p0_0), .val (.int p0_1), .val (.int p0_2), .val (.int p0_3), .val (.int p0_4), .val (.int (r1 p0_0 (2147483639 : Int32))), .val (.int (t0_13 p0_1)), .val (.int 0), .val (.ref b94), .val (.int (r1 p0_0 (2147483639 : Int32))), .val (.int 1), .val (.int p0_2), .val (.int ((r1 p0_0 (2147483639 : Int32)) + (1 : Int32)))] [(.int 1)])) (fun _ k => XS.iconst X131.here hx rfl (hb hby at_194) k) ?_
    refine own_s (g' := (mkF m 199 #[.val (.int p0_0), .val (.int p0_1), .val (.int p0_2), .val (.int p0_3), .val (.int p0_4), .val (.int (r1 p0_0 (2147483639 : Int32))), .val (.int (t0_13 p0_1)), .val (.int 0), .val (.ref b94), .val (.int (r1 p0_0 (2147483639 : Int32))), .val (.int 1), .val (.int p0_2), .val (.int ((r1 p0_0 (2147483639 : Int32)) + (1 : Int32)))] [(.int 1)])) (fun _ k => XS.goto X131.here hx rfl (pc0 := 195) (pc' := 199) rfl (hb hby at_195) (by decide) (by decide) k) ?_
    refine own_s (g' := (mkF m 201 #[.val (.int p0_0), .val (.int p0_1), .val (.int p0_2), .val (.int p0_3), .val (.int p0_4), .val (.int (r1 p0_0 (2147483639 : Int32))), .val (.int (t0_13 p0_1)), .val (.int 0), .val (.ref b94), .val (.int (r1 p0_0 (2147483639 : Int32))), .val (.int 1), .val (.int p0_2), .val (.int ((r1 p0_0 (2147483639 : Int32)) + (1 : Int32)))] [])) (fun _ k => XS.istore X131.here hx rfl (hb hby at_199) rfl (l' := #[.val (.int p0_0), .val (.int p0_1), .val (.int p0_2), .val (.int p0_3), .val (.int p0_4), .val (.int (r1 p0_0 (2147483639 : Int32))), .val (.int (t0_13 p0_1)), .val (.int 0), .val (.ref b94), .val (.int (r1 p0_0 (2147483639 : Int32))), .val (.int 1), .val (.int p0_2), .val (.int ((r1 p0_0 (2147483639 : Int32)) + (1 : Int32)))]) rfl k) ?_
    refine own_s (g' := (mkF m 203 #[.val (.int p0_0), .val (.int p0_1), .val (.int p0_2), .val (.int p0_3), .val (.int p0_4), .val (.int (r1 p0_0 (2147483639 : Int32))), .val (.int (t0_13 p0_1)), .val (.int 0), .val (.ref b94), .val (.int (r1 p0_0 (2147483639 : Int32))), .val (.int 1), .val (.int p0_2), .val (.int ((r1 p0_0 (2147483639 : Int32)) + (1 : Int32)))] [(.int 1)])) (fun _ k => XS.iload X131.here hx rfl (hb hby at_201) rfl k) ?_
    refine own_retN X131 hx hlk (t := .boolean) hret (by simp) (hb hby at_203) (z' := (1 : Int32)) (by decide) (by decide) (by decide) ?_
    show Q0 Z p0_0 p0_1 p0_2 p0_3 p0_4 h0 n0 _ T131.heap _
    rw [eh131]
    exact ⟨rfl, N131⟩
  ·skip
   refine own_s (g' := (mkF m 22 #[.val (.int p0_0), .val (.int p0_1), .val (.int p0_2), .val (.int p0_3), .val (.int p0_4), .val (.int (r1 p0_0 (2147483639 : Int32))), .val (.int (t0_13 p0_1)), .unset, .unset, .unset, .unset, .unset, .unset] [])) (fun _ k => XS.ifNo X92.here hx rfl (hb hby at_19) rfl ((if0 _ _).trans (feq c93).1) k) ?_
   refine own_s (g' := (mkF m 23 #[.val (.int p0_0), .val (.int p0_1), .val (.int p0_2), .val (.int p0_3), .val (.int p0_4), .val (.int (r1 p0_0 (2147483639 : Int32))), .val (.int (t0_13 p0_1)), .unset, .unset, .unset, .unset, .unset, .unset] [(.int 1)])) (fun _ k => XS.iconst X92.here hx rfl (hb hby at_22) k) ?_
   refine own_s (g' := (mkF m 27 #[.val (.int p0_0), .val (.int p0_1), .val (.int p0_2), .val (.int p0_3), .val (.int p0_4), .val (.int (r1 p0_0 (2147483639 : Int32))), .val (.int (t0_13 p0_1)), .unset, .unset, .unset, .unset, .unset, .unset] [(.int 1)])) (fun _ k => XS.goto X92.here hx rfl (pc0 := 23) (pc' := 27) rfl (hb hby at_23) (by decide) (by decide) k) ?_
   refine own_s (g' := (mkF m 29 #[.val (.int p0_0), .val (.int p0_1), .val (.int p0_2), .val (.int p0_3), .val (.int p0_4), .val (.int (r1 p0_0 (2147483639 : Int32))), .val (.int (t0_13 p0_1)), .val (.int 1), .unset, .unset, .unset, .unset, .unset] [])) (fun _ k => XS.istore X92.here hx rfl (hb hby at_27) rfl (l' := #[.val (.int p0_0), .val (.int p0_1), .val (.int p0_2), .val (.int p0_3), .val (.int p0_4), .val (.int (r1 p0_0 (2147483639 : Int32))), .val (.int (t0_13 p0_1)), .val (.int 1), .unset, .unset, .unset, .unset, .unset]) rfl k) ?_
   obtain ⟨T133, h133, X133, e133, E133, A133, D133, -, st133⟩ := newO X92 hx hZ hown ww5 ww6 ww7 eh92 (g := (mkF m 29 #[.val (.int p0_0), .val (.int p0_1), .val (.int p0_2), .val (.int p0_3), .val (.int p0_4), .val (.int (r1 p0_0 (2147483639 : Int32))), .val (.int (t0_13 p0_1)), .val (.int 1), .unset, .unset, .unset, .unset, .unset] [])) rfl (hb hby at_29) (by decide) (by decide)
   obtain ⟨b133, ga133⟩ : ∃ z, z = h0.size := ⟨_, rfl⟩
   rw [← ga133] at A133 D133 st133
   have g_b133 := Nat.le_trans Z0 (Nat.le_of_eq ga133.symm)
   have sz_b133 := Nat.le_trans K0.1 (Nat.le_of_eq ga133.symm)
   have f133_free : Fld Z h133 b133 "com/example/epochwise/epochwise/server/Numbering" "free" "[I" .null := D133 (Or.inl ww16) (ty := (.array .int)) (by decide)
   have f133_next : Fld Z h133 b133 "com/example/epochwise/epochwise/server/Numbering" "next" "I" (.int 0) := D133 (Or.inl ww18) (ty := .int) (by decide)
   have f133_left : Fld Z h133 b133 "com/example/epochwise/epochwise/server/Numbering" "left" "I" (.int 0) := D133 (Or.inl ww20) (ty := .int) (by decide)
   have f133_freeCount : Fld Z h133 b133 "com/example/epochwise/epochwise/server/Numbering" "freeCount" "I" (.int 0) := D133 (Or.inl ww27) (ty := .int) (by decide)
   have K133 := K0.ext E133
   refine own_s (g' := (mkF m 32 #[.val (.int p0_0), .val (.int p0_1), .val (.int p0_2), .val (.int p0_3), .val (.int p0_4), .val (.int (r1 p0_0 (2147483639 : Int32))), .val (.int (t0_13 p0_1)), .val (.int 1), .unset, .unset, .unset, .unset, .unset] [(.ref b133)])) st133 ?_
   refine own_s (g' := (mkF m 33 #[.val (.int p0_0), .val (.int p0_1), .val (.int p0_2), .val (.int p0_3), .val (.int p0_4), .val (.int (r1 p0_0 (2147483639 : Int32))), .val (.int (t0_13 p0_1)), .val (.int 1), .unset, .unset, .unset, .unset, .unset] [(.ref b133), (.ref b133)])) (fun _ k => XS.dup X133.here hx rfl (hb hby at_32) rfl rfl k) ?_
   refine own_s (g' := (mkF m 35 #[.val (.int p0_0), .val (.int p0_1), .val (.int p0_2), .val (.int p0_3), .val (.int p0_4), .val (.int (r1 p0_0 (2147483639 : Int32))), .val (.int (t0_13 p0_1)), .val (.int 1), .unset, .unset, .unset, .unset, .unset] [(.int (r1 p0_0 (2147483639 : Int32))), (.ref b133), (.ref b133)])) (fun _ k => XS.iload X133.here hx rfl (hb hby at_33) rfl k) ?_
   refine own_s (g' := (mkF m 37 #[.val (.int p0_0), .val (.int p0_1), .val (.int p0_2), .val (.int p0_3), .val (.int p0_4), .val (.int (r1 p0_0 (2147483639 : Int32))), .val (.int (t0_13 p0_1)), .val (.int 1), .unset, .unset, .unset, .unset, .unset] [(.int (t0_13 p0_1)), (.int (r1 p0_0 (2147483639 : Int32))), (.ref b133), (.ref b133)])) (fun _ k => XS.iload X133.here hx rfl (hb hby at_35) rfl k) ?_
   obtain ⟨_, _, ⟨T134, L134, k134, n134⟩, -, X134, ⟨Lc134, hQ134, l134, y134, z134⟩, st134⟩ := X133.specialBack hx (y := (⟨"com/example/epochwise/epochwise/server/Numbering", "<init>", "(II)V"⟩ : MethodName)) rfl hown (mvT hZ ww8) (mvT hZ ww9) (mvT hZ ww10) (by decide) (backOf (W := 1) (rm2 l Z a0 hw [] b133 (r1 p0_0 (2147483639 : Int32)) (t0_13 p0_1) (0 : Int32) (0 : Int32) (0 : Int32) h133 n0 (Nat.le_trans Z0 K133.1) f133_free f133_next f133_left f133_freeCount A133 g_b133) hZ ww10 ww7 (by decide) (by decide)) (g := (mkF m 37 #[.val (.int p0_0), .val (.int p0_1), .val (.int p0_2), .val (.int p0_3), .val (.int p0_4), .val (.int (r1 p0_0 (2147483639 : Int32))), .val (.int (t0_13 p0_1)), .val (.int 1), .unset, .unset, .unset, .unset, .unset] [(.int (t0_13 p0_1)), (.int (r1 p0_0 (2147483639 : Int32))), (.ref b133), (.ref b133)])) rfl (by rw [hml]; rfl) (Steps.refl _) (a := b133) (argsL := [(.int (r1 p0_0 (2147483639 : Int32))), (.int (t0_13 p0_1))]) (rest := [(.ref b133)]) (lenOf pd__II_V rfl) rfl (by show 2 * 0 + _ ≤ _; exact Nat.le_of_eq rfl) (hb hby at_37) (fun _ _ => ⟨rfl, e133, (by decide : 1 + 1 ≤ _), (by decide : 4 + 16 ≤ _)⟩)
   dsimp only [Pt.U, Pt.locs, Pt.cells, Pt.slots] at X134 l134 y134 z134 st134 hQ134
   subst l134 y134 z134
   obtain ⟨bf0_134, kf0_134, hs_bf0_134, rfl, N134q, K134q, f135, f136, f137, f138, f139, f140⟩ := hQ134
   have g_bf0_134 := Nat.le_trans (Nat.le_trans Z0 K133.1) hs_bf0_134
   have sz_bf0_134 := Nat.le_trans K133.1 hs_bf0_134
   have K134 := K133.trans K134q (allS (Or.inr sz_b133) all0)
   have N134 := Fr.app N92 N134q
   refine own_trans (g' := (mkF m 40 #[.val (.int p0_0), .val (.int p0_1), .val (.int p0_2), .val (.int p0_3), .val (.int p0_4), .val (.int (r1 p0_0 (2147483639 : Int32))), .val (.int (t0_13 p0_1)), .val (.int 1), .unset, .unset, .unset, .unset, .unset] [(.ref b133)])) st134 ?_
   refine own_s (g' := (mkF m 42 #[.val (.int p0_0), .val (.int p0_1), .val (.int p0_2), .val (.int p0_3), .val (.int p0_4), .val (.int (r1 p0_0 (2147483639 : Int32))), .val (.int (t0_13 p0_1)), .val (.int 1), .val (.ref b133), .unset, .unset, .unset, .unset] [])) (fun _ k => XS.astore X134.here hx rfl (hb hby at_40) rfl rfl (l' := #[.val (.int p0_0), .val (.int p0_1), .val (.int p0_2), .val (.int p0_3), .val (.int p0_4), .val (.int (r1 p0_0 (2147483639 : Int32))), .val (.int (t0_13 p0_1)), .val (.int 1), .val (.ref b133), .unset, .unset, .unset, .unset]) rfl k) ?_
   refine own_s (g' := (mkF m 44 #[.val (.int p0_0), .val (.int p0_1), .val (.int p0_2), .val (.int p0_3), .val (.int p0_4), .val (.int (r1 p0_0 (2147483639 : Int32))), .val (.int (t0_13 p0_1)), .val (.int 1), .val (.ref b133), .unset, .unset, .unset, .unset] [(.ref b133)])) (fun _ k => XS.aload X134.here hx rfl (hb hby at_42) rfl rfl k) ?_
   obtain ⟨cq141, kq141, q141a, q141b, q141c⟩ := isOf hZ rfl f136
   obtain ⟨_, _, ⟨T141, L141, k141, n141⟩, -, X141, ⟨Lc141, hQ141, l141, y141, z141⟩, st141⟩ := X134.virtualBack hx (y := (⟨"com/example/epochwise/epochwise/server/Numbering", "take", "()I"⟩ : MethodName)) (z := (⟨"com/example/epochwise/epochwise/server/Numbering", "take", "()I"⟩ : MethodName)) hown (mvT hZ ww21) (mvT hZ ww22) (notFace_of_selects (args := #[]) (mvT hZ ww24)) (mvT hZ ww24) (mvT hZ ww23) (by decide) (backOf (W := 0) (rm4v0 l Z a0 hw [] b133 (t0_13 p0_1) bf0_134 (r1 p0_0 (2147483639 : Int32)) T134.heap n0 (Nat.le_trans Z0 K134.1) f137 f140 f138 f139 f136 g_b133) hZ ww25 ww7 (by decide) (by decide)) q141a q141c (g := (mkF m 44 #[.val (.int p0_0), .val (.int p0_1), .val (.int p0_2), .val (.int p0_3), .val (.int p0_4), .val (.int (r1 p0_0 (2147483639 : Int32))), .val (.int (t0_13 p0_1)), .val (.int 1), .val (.ref b133), .unset, .unset, .unset, .unset] [(.ref b133)])) rfl (by rw [hml]; rfl) (Steps.refl _) (argsL := []) (rest := []) (lenOf pd___I rfl) rfl (by show 2 * 0 + _ ≤ _; exact Nat.le_of_eq rfl) (hb hby at_44) (fun _ _ => ⟨rfl, rfl, (by decide : 2 + 0 ≤ _), (by decide : 20 + 0 ≤ _)⟩)
   dsimp only [Pt.U, Pt.locs, Pt.cells, Pt.slots] at X141 l141 y141 z141 st141 hQ141
   subst l141 y141 z141
   obtain ⟨rfl, N141q, K141q, f142, f143, f144, f145, f146⟩ := hQ141
   have K141 := K134.trans K141q (allS (Or.inr sz_b133) all0)
   have N141 := Fr.app N134 N141q
   refine own_trans (g' := (mkF m 47 #[.val (.int p0_0), .val (.int p0_1), .val (.int p0_2), .val (.int p0_3), .val (.int p0_4), .val (.int (r1 p0_0 (2147483639 : Int32))), .val (.int (t0_13 p0_1)), .val (.int 1), .val (.ref b133), .unset, .unset, .unset, .unset] [(.int (r1 p0_0 (2147483639 : Int32)))])) st141 ?_
   refine own_s (g' := (mkF m 49 #[.val (.int p0_0), .val (.int p0_1), .val (.int p0_2), .val (.int p0_3), .val (.int p0_4), .val (.int (r1 p0_0 (2147483639 : Int32))), .val (.int (t0_13 p0_1)), .val (.int 1), .val (.ref b133), .val (.int (r1 p0_0 (2147483639 : Int32))), .unset, .unset, .unset] [])) (fun _ k => XS.istore X141.here hx rfl (hb hby at_47) rfl (l' := #[.val (.int p0_0), .val (.int p0_1), .val (.int p0_2), .val (.int p0_3), .val (.int p0_4), .val (.int (r1 p0_0 (2147483639 : Int32))), .val (.int (t0_13 p0_1)), .val (.int 1), .val (.ref b133), .val (.int (r1 p0_0 (2147483639 : Int32))), .unset, .unset, .unset]) rfl k) ?_
   refine own_s (g' := (mkF m 51 #[.val (.int p0_0), .val (.int p0_1), .val (.int p0_2), .val (.int p0_3), .val (.int p0_4), .val (.int (r1 p0_0 (2147483639 : Int32))), .val (.int (t0_13 p0_1)), .val (.int 1), .val (.ref b133), .val (.int (r1 p0_0 (2147483639 : Int32))), .unset, .unset, .unset] [(.int (r1 p0_0 (2147483639 : Int32)))])) (fun _ k => XS.iload X141.here hx rfl (hb hby at_49) rfl k) ?_
   refine own_s (g' := (mkF m 53 #[.val (.int p0_0), .val (.int p0_1), .val (.int p0_2), .val (.int p0_3), .val (.int p0_4), .val (.int (r1 p0_0 (2147483639 : Int32))), .val (.int (t0_13 p0_1)), .val (.int 1), .val (.ref b133), .val (.int (r1 p0_0 (2147483639 : Int32))), .unset, .unset, .unset] [(.int (r1 p0_0 (2147483639 : Int32))), (.int (r1 p0_0 (2147483639 : Int32)))])) (fun _ k => XS.iload X141.here hx rfl (hb hby at_51) rfl k) ?_
   refine own_s (g' := (mkF m 56 #[.val (.int p0_0), .val (.int p0_1), .val (.int p0_2), .val (.int p0_3), .val (.int p0_4), .val (.int (r1 p0_0 (2147483639 : Int32))), .val (.int (t0_13 p0_1)), .val (.int 1), .val (.ref b133), .val (.int (r1 p0_0 (2147483639 : Int32))), .unset, .unset, .unset] [])) (fun _ k => XS.icmpNo X141.here hx rfl (hb hby at_53) rfl (teq rfl).2 k) ?_
   refine own_s (g' := (mkF m 58 #[.val (.int p0_0), .val (.int p0_1), .val (.int p0_2), .val (.int p0_3), .val (.int p0_4), .val (.int (r1 p0_0 (2147483639 : Int32))), .val (.int (t0_13 p0_1)), .val (.int 1), .val (.ref b133), .val (.int (r1 p0_0 (2147483639 : Int32))), .unset, .unset, .unset] [(.ref b133)])) (fun _ k => XS.aload X141.here hx rfl (hb hby at_56) rfl rfl k) ?_
   obtain ⟨cq147, kq147, q147a, q147b, q147c⟩ := isOf hZ rfl f142
   obtain ⟨_, _, ⟨T147, L147, k147, n147⟩, -, X147, ⟨Lc147, hQ147, l147, y147, z147⟩, st147⟩ := X141.virtualBack hx (y := (⟨"com/example/epochwise/epochwise/server/Numbering", "count", "()I"⟩ : MethodName)) (z := (⟨"com/example/epochwise/epochwise/server/Numbering", "count", "()I"⟩ : MethodName)) hown (mvT hZ ww28) (mvT hZ ww29) (notFace_of_selects (args := #[]) (mvT hZ ww31)) (mvT hZ ww31) (mvT hZ ww30) (by decide) (backOf (W := 0) (rm5 l Z a0 hw [] b133 ((r1 p0_0 (2147483639 : Int32)) + (1 : Int32)) T141.heap n0 (Nat.le_trans Z0 K141.1) f146) hZ ww32 ww7 (by decide) (by decide)) q147a q147c (g := (mkF m 58 #[.val (.int p0_0), .val (.int p0_1), .val (.int p0_2), .val (.int p0_3), .val (.int p0_4), .val (.int (r1 p0_0 (2147483639 : Int32))), .val (.int (t0_13 p0_1)), .val (.int 1), .val (.ref b133), .val (.int (r1 p0_0 (2147483639 : Int32))), .unset, .unset, .unset] [(.ref b133)])) rfl (by rw [hml]; rfl) (Steps.refl _) (argsL := []) (rest := []) (lenOf pd___I rfl) rfl (by show 2 * 0 + _ ≤ _; exact Nat.le_of_eq rfl) (hb hby at_58) (fun _ _ => ⟨rfl, rfl, (by decide : 2 + 0 ≤ _), (by decide : 20 + 0 ≤ _)⟩)
   dsimp only [Pt.U, Pt.locs, Pt.cells, Pt.slots] at X147 l147 y147 z147 st147 hQ147
   subst l147 y147 z147
   obtain ⟨rfl, N147q, eh147⟩ := hQ147
   have N147 := Fr.app N141 N147q
   refine own_trans (g' := (mkF m 61 #[.val (.int p0_0), .val (.int p0_1), .val (.int p0_2), .val (.int p0_3), .val (.int p0_4), .val (.int (r1 p0_0 (2147483639 : Int32))), .val (.int (t0_13 p0_1)), .val (.int 1), .val (.ref b133), .val (.int (r1 p0_0 (2147483639 : Int32))), .unset, .unset, .unset] [(.int ((r1 p0_0 (2147483639 : Int32)) + (1 : Int32)))])) st147 ?_
   refine own_s (g' := (mkF m 63 #[.val (.int p0_0), .val (.int p0_1), .val (.int p0_2), .val (.int p0_3), .val (.int p0_4), .val (.int (r1 p0_0 (2147483639 : Int32))), .val (.int (t0_13 p0_1)), .val (.int 1), .val (.ref b133), .val (.int (r1 p0_0 (2147483639 : Int32))), .unset, .unset, .unset] [(.int (r1 p0_0 (2147483639 : Int32))), (.int ((r1 p0_0 (2147483639 : Int32)) + (1 : Int32)))])) (fun _ k => XS.iload X147.here hx rfl (hb hby at_61) rfl k) ?_
   refine own_s (g' := (mkF m 64 #[.val (.int p0_0), .val (.int p0_1), .val (.int p0_2), .val (.int p0_3), .val (.int p0_4), .val (.int (r1 p0_0 (2147483639 : Int32))), .val (.int (t0_13 p0_1)), .val (.int 1), .val (.ref b133), .val (.int (r1 p0_0 (2147483639 : Int32))), .unset, .unset, .unset] [(.int 1), (.int (r1 p0_0 (2147483639 : Int32))), (.int ((r1 p0_0 (2147483639 : Int32)) + (1 : Int32)))])) (fun _ k => XS.iconst X147.here hx rfl (hb hby at_63) k) ?_
   refine own_s (g' := (mkF m 65 #[.val (.int p0_0), .val (.int p0_1), .val (.int p0_2), .val (.int p0_3), .val (.int p0_4), .val (.int (r1 p0_0 (2147483639 : Int32))), .val (.int (t0_13 p0_1)), .val (.int 1), .val (.ref b133), .val (.int (r1 p0_0 (2147483639 : Int32))), .unset, .unset, .unset] [(.int ((r1 p0_0 (2147483639 : Int32)) + (1 : Int32))), (.int ((r1 p0_0 (2147483639 : Int32)) + (1 : Int32)))])) (fun _ k => XS.iadd X147.here hx rfl (hb hby at_64) rfl k) ?_
   refine own_s (g' := (mkF m 68 #[.val (.int p0_0), .val (.int p0_1), .val (.int p0_2), .val (.int p0_3), .val (.int p0_4), .val (.int (r1 p0_0 (2147483639 : Int32))), .val (.int (t0_13 p0_1)), .val (.int 1), .val (.ref b133), .val (.int (r1 p0_0 (2147483639 : Int32))), .unset, .unset, .unset] [])) (fun _ k => XS.icmpNo X147.here hx rfl (hb hby at_65) rfl (teq rfl).2 k) ?_
   refine own_s (g' := (mkF m 69 #[.val (.int p0_0), .val (.int p0_1), .val (.int p0_2), .val (.int p0_3), .val (.int p0_4), .val (.int (r1 p0_0 (2147483639 : Int32))), .val (.int (t0_13 p0_1)), .val (.int 1), .val (.ref b133), .val (.int (r1 p0_0 (2147483639 : Int32))), .unset, .unset, .unset] [(.int 1)])) (fun _ k => XS.iconst X147.here hx rfl (hb hby at_68) k) ?_
   refine own_s (g' := (mkF m 73 #[.val (.int p0_0), .val (.int p0_1), .val (.int p0_2), .val (.int p0_3), .val (.int p0_4), .val (.int (r1 p0_0 (2147483639 : Int32))), .val (.int (t0_13 p0_1)), .val (.int 1), .val (.ref b133), .val (.int (r1 p0_0 (2147483639 : Int32))), .unset, .unset, .unset] [(.int 1)])) (fun _ k => XS.goto X147.here hx rfl (pc0 := 69) (pc' := 73) rfl (hb hby at_69) (by decide) (by decide) k) ?_
   refine own_s (g' := (mkF m 75 #[.val (.int p0_0), .val (.int p0_1), .val (.int p0_2), .val (.int p0_3), .val (.int p0_4), .val (.int (r1 p0_0 (2147483639 : Int32))), .val (.int (t0_13 p0_1)), .val (.int 1), .val (.ref b133), .val (.int (r1 p0_0 (2147483639 : Int32))), .val (.int 1), .unset, .unset] [])) (fun _ k => XS.istore X147.here hx rfl (hb hby at_73) rfl (l' := #[.val (.int p0_0), .val (.int p0_1), .val (.int p0_2), .val (.int p0_3), .val (.int p0_4), .val (.int (r1 p0_0 (2147483639 : Int32))), .val (.int (t0_13 p0_1)), .val (.int 1), .val (.ref b133), .val (.int (r1 p0_0 (2147483639 : Int32))), .val (.int 1), .unset, .unset]) rfl k) ?_
   refine own_s (g' := (mkF m 77 #[.val (.int p0_0), .val (.int p0_1), .val (.int p0_2), .val (.int p0_3), .val (.int p0_4), .val (.int (r1 p0_0 (2147483639 : Int32))), .val (.int (t0_13 p0_1)), .val (.int 1), .val (.ref b133), .val (.int (r1 p0_0 (2147483639 : Int32))), .val (.int 1), .unset, .unset] [(.ref b133)])) (fun _ k => XS.aload X147.here hx rfl (hb hby at_75) rfl rfl k) ?_
   refine own_s (g' := (mkF m 78 #[.val (.int p0_0), .val (.int p0_1), .val (.int p0_2), .val (.int p0_3), .val (.int p0_4), .val (.int (r1 p0_0 (2147483639 : Int32))), .val (.int (t0_13 p0_1)), .val (.int 1), .val (.ref b133), .val (.int (r1 p0_0 (2147483639 : Int32))), .val (.int 1), .unset, .unset] [(.int p0_2), (.ref b133)])) (fun _ k => XS.iloadN X147.here hx rfl (hb hby at_77) rfl k) ?_
   have ne149 : b133 ≠ bf0_134 := Nat.ne_of_lt (Nat.lt_of_lt_of_le A133.lt hs_bf0_134)
   have f150 := (f135.keep K141q (ninS (Ne.symm ne149) nin0))
   obtain ⟨cq148, kq148, q148a, q148b, q148c⟩ := isOf hZ eh147 f142
   obtain ⟨_, _, ⟨T148, L148, k148, n148⟩, -, X148, ⟨Lc148, hQ148, l148, y148, z148⟩, st148⟩ := X147.virtualBack hx (y := (⟨"com/example/epochwise/epochwise/server/Numbering", "give", "(I)V"⟩ : MethodName)) (z := (⟨"com/example/epochwise/epochwise/server/Numbering", "give", "(I)V"⟩ : MethodName)) hown (mvT hZ ww33) (mvT hZ ww34) (notFace_of_selects (args := #[]) (mvT hZ ww36)) (mvT hZ ww36) (mvT hZ ww35) (by decide) (backOf (W := 0) (rm6v0 l Z a0 hw [] b133 p0_2 bf0_134 ((r1 p0_0 (2147483639 : Int32)) + (1 : Int32)) ((t0_13 p0_1) - (1 : Int32)) kf0_134 (0 : Int32) (0 : Int32) T141.heap n0 (Nat.le_trans Z0 K141.1) f143 f144 f146 f145 f142 f150 g_b133 g_bf0_134 (Ne.symm ne149)) hZ ww37 ww7 (by decide) (by decide)) q148a q148c (g := (mkF m 78 #[.val (.int p0_0), .val (.int p0_1), .val (.int p0_2), .val (.int p0_3), .val (.int p0_4), .val (.int (r1 p0_0 (2147483639 : Int32))), .val (.int (t0_13 p0_1)), .val (.int 1), .val (.ref b133), .val (.int (r1 p0_0 (2147483639 : Int32))), .val (.int 1), .unset, .unset] [(.int p0_2), (.ref b133)])) rfl (by rw [hml]; rfl) (Steps.refl _) (argsL := [(.int p0_2)]) (rest := []) (lenOf pd__I_V rfl) rfl (by show 2 * 0 + _ ≤ _; exact Nat.le_of_eq rfl) (hb hby at_78) (fun _ _ => ⟨rfl, eh147, (by decide : 2 + 0 ≤ _), (by decide : 20 + 0 ≤ _)⟩)
   dsimp only [Pt.U, Pt.locs, Pt.cells, Pt.slots] at X148 l148 y148 z148 st148 hQ148
   subst l148 y148 z148
   obtain ⟨rfl, N148q, K148q, f151, f152, f153, f154, f155, f156⟩ := hQ148
   have K148 := K141.trans K148q (allS (Or.inr sz_b133) (allS (Or.inr sz_bf0_134) all0))
   have N148 := Fr.app N147 N148q
   refine own_trans (g' := (mkF m 81 #[.val (.int p0_0), .val (.int p0_1), .val (.int p0_2), .val (.int p0_3), .val (.int p0_4), .val (.int (r1 p0_0 (2147483639 : Int32))), .val (.int (t0_13 p0_1)), .val (.int 1), .val (.ref b133), .val (.int (r1 p0_0 (2147483639 : Int32))), .val (.int 1), .unset, .unset] [])) st148 ?_
   refine own_s (g' := (mkF m 83 #[.val (.int p0_0), .val (.int p0_1), .val (.int p0_2), .val (.int p0_3), .val (.int p0_4), .val (.int (r1 p0_0 (2147483639 : Int32))), .val (.int (t0_13 p0_1)), .val (.int 1), .val (.ref b133), .val (.int (r1 p0_0 (2147483639 : Int32))), .val (.int 1), .unset, .unset] [(.int 1)])) (fun _ k => XS.iload X148.here hx rfl (hb hby at_81) rfl k) ?_
   refine own_s (g' := (mkF m 86 #[.val (.int p0_0), .val (.int p0_1), .val (.int p0_2), .val (.int p0_3), .val (.int p0_4), .val (.int (r1 p0_0 (2147483639 : Int32))), .val (.int (t0_13 p0_1)), .val (.int 1), .val (.ref b133), .val (.int (r1 p0_0 (2147483639 : Int32))), .val (.int 1), .unset, .unset] [])) (fun _ k => XS.ifNo X148.here hx rfl (hb hby at_83) rfl ((if0 _ _).trans (feq ((by decide) : ¬ (1 : Int32) = (0 : Int32))).1) k) ?_
   refine own_s (g' := (mkF m 88 #[.val (.int p0_0), .val (.int p0_1), .val (.int p0_2), .val (.int p0_3), .val (.int p0_4), .val (.int (r1 p0_0 (2147483639 : Int32))), .val (.int (t0_13 p0_1)), .val (.int 1), .val (.ref b133), .val (.int (r1 p0_0 (2147483639 : Int32))), .val (.int 1), .unset, .unset] [(.ref b133)])) (fun _ k => XS.aload X148.here hx rfl (hb hby at_86) rfl rfl k) ?_
   refine own_s (g' := (mkF m 89 #[.val (.int p0_0), .val (.int p0_1), .val (.int p0_2), .val (.int p0_3), .val (.int p0_4), .val (.int (r1 p0_0 (2147483639 : Int32))), .val (.int (t0_13 p0_1)), .val (.int 1), .val (.ref b133), .val (.int (r1 p0_0 (2147483639 : Int32))), .val (.int 1), .unset, .unset] [(.int p0_3), (.ref b133)])) (fun _ k => XS.iloadN X148.here hx rfl (hb hby at_88) rfl k) ?_
   obtain ⟨cq157, kq157, q157a, q157b, q157c⟩ := isOf hZ rfl f151
   obtain ⟨_, _, ⟨T157, L157, k157, n157⟩, -, X157, ⟨Lc157, hQ157, l157, y157, z157⟩, st157⟩ := X148.virtualBack hx (y := (⟨"com/example/epochwise/epochwise/server/Numbering", "give", "(I)V"⟩ : MethodName)) (z := (⟨"com/example/epochwise/epochwise/server/Numbering", "give", "(I)V"⟩ : MethodName)) hown (mvT hZ ww33) (mvT hZ ww34) (notFace_of_selects (args := #[]) (mvT hZ ww36)) (mvT hZ ww36) (mvT hZ ww35) (by decide) (backOf (W := 0) (rm6v1 l Z a0 hw [] b133 p0_3 bf0_134 ((r1 p0_0 (2147483639 : Int32)) + (1 : Int32)) ((t0_13 p0_1) - (1 : Int32)) kf0_134 p0_2 (0 : Int32) T148.heap n0 (Nat.le_trans Z0 K148.1) f155 f152 f153 f154 f151 f156 g_b133 g_bf0_134 (Ne.symm ne149)) hZ ww37 ww7 (by decide) (by decide)) q157a q157c (g := (mkF m 89 #[.val (.int p0_0), .val (.int p0_1), .val (.int p0_2), .val (.int p0_3), .val (.int p0_4), .val (.int (r1 p0_0 (2147483639 : Int32))), .val (.int (t0_13 p0_1)), .val (.int 1), .val (.ref b133), .val (.int (r1 p0_0 (2147483639 : Int32))), .val (.int 1), .unset, .unset] [(.int p0_3), (.ref b133)])) rfl (by rw [hml]; rfl) (Steps.refl _) (argsL := [(.int p0_3)]) (rest := []) (lenOf pd__I_V rfl) rfl (by show 2 * 0 + _ ≤ _; exact Nat.le_of_eq rfl) (hb hby at_89) (fun _ _ => ⟨rfl, rfl, (by decide : 2 + 0 ≤ _), (by decide : 20 + 0 ≤ _)⟩)
   dsimp only [Pt.U, Pt.locs, Pt.cells, Pt.slots] at X157 l157 y157 z157 st157 hQ157
   subst l157 y157 z157
   obtain ⟨rfl, N157q, K157q, f158, f159, f160, f161, f162, f163⟩ := hQ157
   have K157 := K148.trans K157q (allS (Or.inr sz_b133) (allS (Or.inr sz_bf0_134) all0))
   have N157 := Fr.app N148 N157q
   refine own_trans (g' := (mkF m 92 #[.val (.int p0_0), .val (.int p0_1), .val (.int p0_2), .val (.int p0_3), .val (.int p0_4), .val (.int (r1 p0_0 (2147483639 : Int32))), .val (.int (t0_13 p0_1)), .val (.int 1), .val (.ref b133), .val (.int (r1 p0_0 (2147483639 : Int32))), .val (.int 1), .unset, .unset] [])) st157 ?_
   refine own_s (g' := (mkF m 94 #[.val (.int p0_0), .val (.int p0_1), .val (.int p0_2), .val (.int p0_3), .val (.int p0_4), .val (.int (r1 p0_0 (2147483639 : Int32))), .val (.int (t0_13 p0_1)), .val (.int 1), .val (.ref b133), .val (.int (r1 p0_0 (2147483639 : Int32))), .val (.int 1), .unset, .unset] [(.ref b133)])) (fun _ k => XS.aload X157.here hx rfl (hb hby at_92) rfl rfl k) ?_
   obtain ⟨cq164, kq164, q164a, q164b, q164c⟩ := isOf hZ rfl f158
   obtain ⟨_, _, ⟨T164, L164, k164, n164⟩, -, X164, ⟨Lc164, hQ164, l164, y164, z164⟩, st164⟩ := X157.virtualBack hx (y := (⟨"com/example/epochwise/epochwise/server/Numbering", "take", "()I"⟩ : MethodName)) (z := (⟨"com/example/epochwise/epochwise/server/Numbering", "take", "()I"⟩ : MethodName)) hown (mvT hZ ww21) (mvT hZ ww22) (notFace_of_selects (args := #[]) (mvT hZ ww24)) (mvT hZ ww24) (mvT hZ ww23) (by decide) (backOf (W := 0) (rm4v2 l Z a0 hw [] b133 bf0_134 ((r1 p0_0 (2147483639 : Int32)) + (1 : Int32)) ((t0_13 p0_1) - (1 : Int32)) kf0_134 p0_2 p0_3 T157.heap n0 (Nat.le_trans Z0 K157.1) f162 f159 f160 f161 f158 f163 g_b133 (Ne.symm ne149)) hZ ww25 ww7 (by decide) (by decide)) q164a q164c (g := (mkF m 94 #[.val (.int p0_0), .val (.int p0_1), .val (.int p0_2), .val (.int p0_3), .val (.int p0_4), .val (.int (r1 p0_0 (2147483639 : Int32))), .val (.int (t0_13 p0_1)), .val (.int 1), .val (.ref b133), .val (.int (r1 p0_0 (2147483639 : Int32))), .val (.int 1), .unset, .unset] [(.ref b133)])) rfl (by rw [hml]; rfl) (Steps.refl _) (argsL := []) (rest := []) (lenOf pd___I rfl) rfl (by show 2 * 0 + _ ≤ _; exact Nat.le_of_eq rfl) (hb hby at_94) (fun _ _ => ⟨rfl, rfl, (by decide : 2 + 0 ≤ _), (by decide : 20 + 0 ≤ _)⟩)
   dsimp only [Pt.U, Pt.locs, Pt.cells, Pt.slots] at X164 l164 y164 z164 st164 hQ164
   subst l164 y164 z164
   obtain ⟨rfl, N164q, K164q, f165, f166, f167, f168, f169⟩ := hQ164
   have K164 := K157.trans K164q (allS (Or.inr sz_b133) all0)
   have N164 := Fr.app N157 N164q
   refine own_trans (g' := (mkF m 97 #[.val (.int p0_0), .val (.int p0_1), .val (.int p0_2), .val (.int p0_3), .val (.int p0_4), .val (.int (r1 p0_0 (2147483639 : Int32))), .val (.int (t0_13 p0_1)), .val (.int 1), .val (.ref b133), .val (.int (r1 p0_0 (2147483639 : Int32))), .val (.int 1), .unset, .unset] [(.int p0_3)])) st164 ?_
   refine own_s (g' := (mkF m 99 #[.val (.int p0_0), .val (.int p0_1), .val (.int p0_2), .val (.int p0_3), .val (.int p0_4), .val (.int (r1 p0_0 (2147483639 : Int32))), .val (.int (t0_13 p0_1)), .val (.int 1), .val (.ref b133), .val (.int (r1 p0_0 (2147483639 : Int32))), .val (.int 1), .val (.int p0_3), .unset] [])) (fun _ k => XS.istore X164.here hx rfl (hb hby at_97) rfl (l' := #[.val (.int p0_0), .val (.int p0_1), .val (.int p0_2), .val (.int p0_3), .val (.int p0_4), .val (.int (r1 p0_0 (2147483639 : Int32))), .val (.int (t0_13 p0_1)), .val (.int 1), .val (.ref b133), .val (.int (r1 p0_0 (2147483639 : Int32))), .val (.int 1), .val (.int p0_3), .unset]) rfl k) ?_
   refine own_s (g' := (mkF m 101 #[.val (.int p0_0), .val (.int p0_1), .val (.int p0_2), .val (.int p0_3), .val (.int p0_4), .val (.int (r1 p0_0 (2147483639 : Int32))), .val (.int (t0_13 p0_1)), .val (.int 1), .val (.ref b133), .val (.int (r1 p0_0 (2147483639 : Int32))), .val (.int 1), .val (.int p0_3), .unset] [(.int 1)])) (fun _ k => XS.iload X164.here hx rfl (hb hby at_99) rfl k) ?_
   refine own_s (g' := (mkF m 104 #[.val (.int p0_0), .val (.int p0_1), .val (.int p0_2), .val (.int p0_3), .val (.int p0_4), .val (.int (r1 p0_0 (2147483639 : Int32))), .val (.int (t0_13 p0_1)), .val (.int 1), .val (.ref b133), .val (.int (r1 p0_0 (2147483639 : Int32))), .val (.int 1), .val (.int p0_3), .unset] [])) (fun _ k => XS.ifNo X164.here hx rfl (hb hby at_101) rfl ((if0 _ _).trans (feq ((by decide) : ¬ (1 : Int32) = (0 : Int32))).1) k) ?_
   refine own_s (g' := (mkF m 106 #[.val (.int p0_0), .val (.int p0_1), .val (.int p0_2), .val (.int p0_3), .val (.int p0_4), .val (.int (r1 p0_0 (2147483639 : Int32))), .val (.int (t0_13 p0_1)), .val (.int 1), .val (.ref b133), .val (.int (r1 p0_0 (2147483639 : Int32))), .val (.int 1), .val (.int p0_3), .unset] [(.int p0_3)])) (fun _ k => XS.iload X164.here hx rfl (hb hby at_104) rfl k) ?_
   refine own_s (g' := (mkF m 107 #[.val (.int p0_0), .val (.int p0_1), .val (.int p0_2), .val (.int p0_3), .val (.int p0_4), .val (.int (r1 p0_0 (2147483639 : Int32))), .val (.int (t0_13 p0_1)), .val (.int 1), .val (.ref b133), .val (.int (r1 p0_0 (2147483639 : Int32))), .val (.int 1), .val (.int p0_3), .unset] [(.int p0_3), (.int p0_3)])) (fun _ k => XS.iloadN X164.here hx rfl (hb hby at_106) rfl k) ?_
   refine own_s (g' := (mkF m 110 #[.val (.int p0_0), .val (.int p0_1), .val (.int p0_2), .val (.int p0_3), .val (.int p0_4), .val (.int (r1 p0_0 (2147483639 : Int32))), .val (.int (t0_13 p0_1)), .val (.int 1), .val (.ref b133), .val (.int (r1 p0_0 (2147483639 : Int32))), .val (.int 1), .val (.int p0_3), .unset] [])) (fun _ k => XS.icmpNo X164.here hx rfl (hb hby at_107) rfl (teq rfl).2 k) ?_
   refine own_s (g' := (mkF m 111 #[.val (.int p0_0), .val (.int p0_1), .val (.int p0_2), .val (.int p0_3), .val (.int p0_4), .val (.int (r1 p0_0 (2147483639 : Int32))), .val (.int (t0_13 p0_1)), .val (.int 1), .val (.ref b133), .val (.int (r1 p0_0 (2147483639 : Int32))), .val (.int 1), .val (.int p0_3), .unset] [(.int 1)])) (fun _ k => XS.iconst X164.here hx rfl (hb hby at_110) k) ?_
   refine own_s (g' := (mkF m 115 #[.val (.int p0_0), .val (.int p0_1), .val (.int p0_2), .val (.int p0_3), .val (.int p0_4), .val (.int (r1 p0_0 (2147483639 : Int32))), .val (.int (t0_13 p0_1)), .val (.int 1), .val (.ref b133), .val (.int (r1 p0_0 (2147483639 : Int32))), .val (.int 1), .val (.int p0_3), .unset] [(.int 1)])) (fun _ k => XS.goto X164.here hx rfl (pc0 := 111) (pc' := 115) rfl (hb hby at_111) (by decide) (by decide) k) ?_
   refine own_s (g' := (mkF m 117 #[.val (.int p0_0), .val (.int p0_1), .val (.int p0_2), .val (.int p0_3), .val (.int p0_4), .val (.int (r1 p0_0 (2147483639 : Int32))), .val (.int (t0_13 p0_1)), .val (.int 1), .val (.ref b133), .val (.int (r1 p0_0 (2147483639 : Int32))), .val (.int 1), .val (.int p0_3), .unset] [])) (fun _ k => XS.istore X164.here hx rfl (hb hby at_115) rfl (l' := #[.val (.int p0_0), .val (.int p0_1), .val (.int p0_2), .val (.int p0_3), .val (.int p0_4), .val (.int (r1 p0_0 (2147483639 : Int32))), .val (.int (t0_13 p0_1)), .val (.int 1), .val (.ref b133), .val (.int (r1 p0_0 (2147483639 : Int32))), .val (.int 1), .val (.int p0_3), .unset]) rfl k) ?_
   refine own_s (g' := (mkF m 119 #[.val (.int p0_0), .val (.int p0_1), .val (.int p0_2), .val (.int p0_3), .val (.int p0_4), .val (.int (r1 p0_0 (2147483639 : Int32))), .val (.int (t0_13 p0_1)), .val (.int 1), .val (.ref b133), .val (.int (r1 p0_0 (2147483639 : Int32))), .val (.int 1), .val (.int p0_3), .unset] [(.ref b133)])) (fun _ k => XS.aload X164.here hx rfl (hb hby at_117) rfl rfl k) ?_
   have f171 := (f163.keep K164q (ninS (Ne.symm ne149) nin0))
   obtain ⟨cq170, kq170, q170a, q170b, q170c⟩ := isOf hZ rfl f165
   obtain ⟨_, _, ⟨T170, L170, k170, n170⟩, -, X170, ⟨Lc170, hQ170, l170, y170, z170⟩, st170⟩ := X164.virtualBack hx (y := (⟨"com/example/epochwise/epochwise/server/Numbering", "take", "()I"⟩ : MethodName)) (z := (⟨"com/example/epochwise/epochwise/server/Numbering", "take", "()I"⟩ : MethodName)) hown (mvT hZ ww21) (mvT hZ ww22) (notFace_of_selects (args := #[]) (mvT hZ ww24)) (mvT hZ ww24) (mvT hZ ww23) (by decide) (backOf (W := 0) (rm4v1 l Z a0 hw [] b133 bf0_134 ((r1 p0_0 (2147483639 : Int32)) + (1 : Int32)) ((t0_13 p0_1) - (1 : Int32)) kf0_134 p0_2 p0_3 T164.heap n0 (Nat.le_trans Z0 K164.1) f169 f166 f167 f168 f165 f171 g_b133 (Ne.symm ne149)) hZ ww25 ww7 (by decide) (by decide)) q170a q170c (g := (mkF m 119 #[.val (.int p0_0), .val (.int p0_1), .val (.int p0_2), .val (.int p0_3), .val (.int p0_4), .val (.int (r1 p0_0 (2147483639 : Int32))), .val (.int (t0_13 p0_1)), .val (.int 1), .val (.ref b133), .val (.int (r1 p0_0 (2147483639 : Int32))), .val (.int 1), .val (.int p0_3), .unset] [(.ref b133)])) rfl (by rw [hml]; rfl) (Steps.refl _) (argsL := []) (rest := []) (lenOf pd___I rfl) rfl (by show 2 * 0 + _ ≤ _; exact Nat.le_of_eq rfl) (hb hby at_119) (fun _ _ => ⟨rfl, rfl, (by decide : 2 + 0 ≤ _), (by decide : 20 + 0 ≤ _)⟩)
   dsimp only [Pt.U, Pt.locs, Pt.cells, Pt.slots] at X170 l170 y170 z170 st170 hQ170
   subst l170 y170 z170
   obtain ⟨rfl, N170q, K170q, f172, f173, f174, f175, f176⟩ := hQ170
   have K170 := K164.trans K170q (allS (Or.inr sz_b133) all0)
   have N170 := Fr.app N164 N170q
   refine own_trans (g' := (mkF m 122 #[.val (.int p0_0), .val (.int p0_1), .val (.int p0_2), .val (.int p0_3), .val (.int p0_4), .val (.int (r1 p0_0 (2147483639 : Int32))), .val (.int (t0_13 p0_1)), .val (.int 1), .val (.ref b133), .val (.int (r1 p0_0 (2147483639 : Int32))), .val (.int 1), .val (.int p0_3), .unset] [(.int p0_2)])) st170 ?_
   refine own_s (g' := (mkF m 124 #[.val (.int p0_0), .val (.int p0_1), .val (.int p0_2), .val (.int p0_3), .val (.int p0_4), .val (.int (r1 p0_0 (2147483639 : Int32))), .val (.int (t0_13 p0_1)), .val (.int 1), .val (.ref b133), .val (.int (r1 p0_0 (2147483639 : Int32))), .val (.int 1), .val (.int p0_2), .unset] [])) (fun _ k => XS.istore X170.here hx rfl (hb hby at_122) rfl (l' := #[.val (.int p0_0), .val (.int p0_1), .val (.int p0_2), .val (.int p0_3), .val (.int p0_4), .val (.int (r1 p0_0 (2147483639 : Int32))), .val (.int (t0_13 p0_1)), .val (.int 1), .val (.ref b133), .val (.int (r1 p0_0 (2147483639 : Int32))), .val (.int 1), .val (.int p0_2), .unset]) rfl k) ?_
   refine own_s (g' := (mkF m 126 #[.val (.int p0_0), .val (.int p0_1), .val (.int p0_2), .val (.int p0_3), .val (.int p0_4), .val (.int (r1 p0_0 (2147483639 : Int32))), .val (.int (t0_13 p0_1)), .val (.int 1), .val (.ref b133), .val (.int (r1 p0_0 (2147483639 : Int32))), .val (.int 1), .val (.int p0_2), .unset] [(.int 1)])) (fun _ k => XS.iload X170.here hx rfl (hb hby at_124) rfl k) ?_
   refine own_s (g' := (mkF m 129 #[.val (.int p0_0), .val (.int p0_1), .val (.int p0_2), .val (.int p0_3), .val (.int p0_4), .val (.int (r1 p0_0 (2147483639 : Int32))), .val (.int (t0_13 p0_1)), .val (.int 1), .val (.ref b133), .val (.int (r1 p0_0 (2147483639 : Int32))), .val (.int 1), .val (.int p0_2), .unset] [])) (fun _ k => XS.ifNo X170.here hx rfl (hb hby at_126) rfl ((if0 _ _).trans (feq ((by decide) : ¬ (1 : Int32) = (0 : Int32))).1) k) ?_
   refine own_s (g' := (mkF m 131 #[.val (.int p0_0), .val (.int p0_1), .val (.int p0_2), .val (.int p0_3), .val (.int p0_4), .val (.int (r1 p0_0 (2147483639 : Int32))), .val (.int (t0_13 p0_1)), .val (.int 1), .val (.ref b133), .val (.int (r1 p0_0 (2147483639 : Int32))), .val (.int 1), .val (.int p0_2), .unset] [(.int p0_2)])) (fun _ k => XS.iload X170.here hx rfl (hb hby at_129) rfl k) ?_
   refine own_s (g' := (mkF m 132 #[.val (.int p0_0), .val (.int p0_1), .val (.int p0_2), .val (.int p0_3), .val (.int p0_4), .val (.int (r1 p0_0 (2147483639 : Int32))), .val (.int (t0_13 p0_1)), .val (.int 1), .val (.ref b133), .val (.int (r1 p0_0 (2147483639 : Int32))), .val (.int 1), .val (.int p0_2), .unset] [(.int p0_2), (.int p0_2)])) (fun _ k => XS.iloadN X170.here hx rfl (hb hby at_131) rfl k) ?_
   refine own_s (g' := (mkF m 135 #[.val (.int p0_0), .val (.int p0_1), .val (.int p0_2), .val (.int p0_3), .val (.int p0_4), .val (.int (r1 p0_0 (2147483639 : Int32))), .val (.int (t0_13 p0_1)), .val (.int 1), .val (.ref b133), .val (.int (r1 p0_0 (2147483639 : Int32))), .val (.int 1), .val (.int p0_2), .unset] [])) (fun _ k => XS.icmpNo X170.here hx rfl (hb hby at_132) rfl (teq rfl).2 k) ?_
   refine own_s (g' := (mkF m 136 #[.val (.int p0_0), .val (.int p0_1), .val (.int p0_2), .val (.int p0_3), .val (.int p0_4), .val (.int (r1 p0_0 (2147483639 : Int32))), .val (.int (t0_13 p0_1)), .val (.int 1), .val (.ref b133), .val (.int (r1 p0_0 (2147483639 : Int32))), .val (.int 1), .val (.int p0_2), .unset] [(.int 1)])) (fun _ k => XS.iconst X170.here hx rfl (hb hby at_135) k) ?_
   refine own_s (g' := (mkF m 140 #[.val (.int p0_0), .val (.int p0_1), .val (.int p0_2), .val (.int p0_3), .val (.int p0_4), .val (.int (r1 p0_0 (2147483639 : Int32))), .val (.int (t0_13 p0_1)), .val (.int 1), .val (.ref b133), .val (.int (r1 p0_0 (2147483639 : Int32))), .val (.int 1), .val (.int p0_2), .unset] [(.int 1)])) (fun _ k => XS.goto X170.here hx rfl (pc0 := 136) (pc' := 140) rfl (hb hby at_136) (by decide) (by decide) k) ?_
   refine own_s (g' := (mkF m 142 #[.val (.int p0_0), .val (.int p0_1), .val (.int p0_2), .val (.int p0_3), .val (.int p0_4), .val (.int (r1 p0_0 (2147483639 : Int32))), .val (.int (t0_13 p0_1)), .val (.int 1), .val (.ref b133), .val (.int (r1 p0_0 (2147483639 : Int32))), .val (.int 1), .val (.int p0_2), .unset] [])) (fun _ k => XS.istore X170.here hx rfl (hb hby at_140) rfl (l' := #[.val (.int p0_0), .val (.int p0_1), .val (.int p0_2), .val (.int p0_3), .val (.int p0_4), .val (.int (r1 p0_0 (2147483639 : Int32))), .val (.int (t0_13 p0_1)), .val (.int 1), .val (.ref b133), .val (.int (r1 p0_0 (2147483639 : Int32))), .val (.int 1), .val (.int p0_2), .unset]) rfl k) ?_
   refine own_s (g' := (mkF m 144 #[.val (.int p0_0), .val (.int p0_1), .val (.int p0_2), .val (.int p0_3), .val (.int p0_4), .val (.int (r1 p0_0 (2147483639 : Int32))), .val (.int (t0_13 p0_1)), .val (.int 1), .val (.ref b133), .val (.int (r1 p0_0 (2147483639 : Int32))), .val (.int 1), .val (.int p0_2), .unset] [(.ref b133)])) (fun _ k => XS.aload X170.here hx rfl (hb hby at_142) rfl rfl k) ?_
   obtain ⟨cq177, kq177, q177a, q177b, q177c⟩ := isOf hZ rfl f172
   obtain ⟨_, _, ⟨T177, L177, k177, n177⟩, -, X177, ⟨Lc177, hQ177, l177, y177, z177⟩, st177⟩ := X170.virtualBack hx (y := (⟨"com/example/epochwise/epochwise/server/Numbering", "take", "()I"⟩ : MethodName)) (z := (⟨"com/example/epochwise/epochwise/server/Numbering", "take", "()I"⟩ : MethodName)) hown (mvT hZ ww21) (mvT hZ ww22) (notFace_of_selects (args := #[]) (mvT hZ ww24)) (mvT hZ ww24) (mvT hZ ww23) (by decide) (backOf (W := 0) (rm4v0 l Z a0 hw [] b133 ((t0_13 p0_1) - (1 : Int32)) bf0_134 ((r1 p0_0 (2147483639 : Int32)) + (1 : Int32)) T170.heap n0 (Nat.le_trans Z0 K170.1) f176 f175 f173 f174 f172 g_b133) hZ ww25 ww7 (by decide) (by decide)) q177a q177c (g := (mkF m 144 #[.val (.int p0_0), .val (.int p0_1), .val (.int p0_2), .val (.int p0_3), .val (.int p0_4), .val (.int (r1 p0_0 (2147483639 : Int32))), .val (.int (t0_13 p0_1)), .val (.int 1), .val (.ref b133), .val (.int (r1 p0_0 (2147483639 : Int32))), .val (.int 1), .val (.int p0_2), .unset] [(.ref b133)])) rfl (by rw [hml]; rfl) (Steps.refl _) (argsL := []) (rest := []) (lenOf pd___I rfl) rfl (by show 2 * 0 + _ ≤ _; exact Nat.le_of_eq rfl) (hb hby at_144) (fun _ _ => ⟨rfl, rfl, (by decide : 2 + 0 ≤ _), (by decide : 20 + 0 ≤ _)⟩)
   dsimp only [Pt.U, Pt.locs, Pt.cells, Pt.slots] at X177 l177 y177 z177 st177 hQ177
   subst l177 y177 z177
   obtain ⟨rfl, N177q, K177q, f178, f179, f180, f181, f182⟩ := hQ177
   have K177 := K170.trans K177q (allS (Or.inr sz_b133) all0)
   have N177 := Fr.app N170 N177q
   refine own_trans (g' := (mkF m 147 #[.val (.int p0_0), .val (.int p0_1), .val (.int p0_2), .val (.int p0_3), .val (.int p0_4), .val (.int (r1 p0_0 (2147483639 : Int32))), .val (.int (t0_13 p0_1)), .val (.int 1), .val (.ref b133), .val (.int (r1 p0_0 (2147483639 : Int32))), .val (.int 1), .val (.int p0_2), .unset] [(.int ((r1 p0_0 (2147483639 : Int32)) + (1 : Int32)))])) st177 ?_
   refine own_s (g' := (mkF m 149 #[.val (.int p0_0), .val (.int p0_1), .val (.int p0_2), .val (.int p0_3), .val (.int p0_4), .val (.int (r1 p0_0 (2147483639 : Int32))), .val (.int (t0_13 p0_1)), .val (.int 1), .val (.ref b133), .val (.int (r1 p0_0 (2147483639 : Int32))), .val (.int 1), .val (.int p0_2), .val (.int ((r1 p0_0 (2147483639 : Int32)) + (1 : Int32)))] [])) (fun _ k => XS.istore X177.here hx rfl (hb hby at_147) rfl (l' := #[.val (.int p0_0), .val (.int p0_1), .val (.int p0_2), .val (.int p0_3), .val (.int p0_4), .val (.int (r1 p0_0 (2147483639 : Int32))), .val (.int (t0_13 p0_1)), .val (.int 1), .val (.ref b133), .val (.int (r1 p0_0 (2147483639 : Int32))), .val (.int 1), .val (.int p0_2), .val (.int ((r1 p0_0 (2147483639 : Int32)) + (1 : Int32)))]) rfl k) ?_
   refine own_s (g' := (mkF m 151 #[.val (.int p0_0), .val (.int p0_1), .val (.int p0_2), .val (.int p0_3), .val (.int p0_4), .val (.int (r1 p0_0 (2147483639 : Int32))), .val (.int (t0_13 p0_1)), .val (.int 1), .val (.ref b133), .val (.int (r1 p0_0 (2147483639 : Int32))), .val (.int 1), .val (.int p0_2), .val (.int ((r1 p0_0 (2147483639 : Int32)) + (1 : Int32)))] [(.int 1)])) (fun _ k => XS.iload X177.here hx rfl (hb hby at_149) rfl k) ?_
   refine own_s (g' := (mkF m 154 #[.val (.int p0_0), .val (.int p0_1), .val (.int p0_2), .val (.int p0_3), .val (.int p0_4), .val (.int (r1 p0_0 (2147483639 : Int32))), .val (.int (t0_13 p0_1)), .val (.int 1), .val (.ref b133), .val (.int (r1 p0_0 (2147483639 : Int32))), .val (.int 1), .val (.int p0_2), .val (.int ((r1 p0_0 (2147483639 : Int32)) + (1 : Int32)))] [])) (fun _ k => XS.ifNo X177.here hx rfl (hb hby at_151) rfl ((if0 _ _).trans (feq ((by decide) : ¬ (1 : Int32) = (0 : Int32))).1) k) ?_
   refine own_s (g' := (mkF m 156 #[.val (.int p0_0), .val (.int p0_1), .val (.int p0_2), .val (.int p0_3), .val (.int p0_4), .val (.int (r1 p0_0 (2147483639 : Int32))), .val (.int (t0_13 p0_1)), .val (.int 1), .val (.ref b133), .val (.int (r1 p0_0 (2147483639 : Int32))), .val (.int 1), .val (.int p0_2), .val (.int ((r1 p0_0 (2147483639 : Int32)) + (1 : Int32)))] [(.int ((r1 p0_0 (2147483639 : Int32)) + (1 : Int32)))])) (fun _ k => XS.iload X177.here hx rfl (hb hby at_154) rfl k) ?_
   refine own_s (g' := (mkF m 158 #[.val (.int p0_0), .val (.int p0_1), .val (.int p0_2), .val (.int p0_3), .val (.int p0_4), .val (.int (r1 p0_0 (2147483639 : Int32))), .val (.int (t0_13 p0_1)), .val (.int 1), .val (.ref b133), .val (.int (r1 p0_0 (2147483639 : Int32))), .val (.int 1), .val (.int p0_2), .val (.int ((r1 p0_0 (2147483639 : Int32)) + (1 : Int32)))] [(.int (r1 p0_0 (2147483639 : Int32))), (.int ((r1 p0_0 (2147483639 : Int32)) + (1 : Int32)))])) (fun _ k => XS.iload X177.here hx rfl (hb hby at_156) rfl k) ?_
   refine own_s (g' := (mkF m 159 #[.val (.int p0_0), .val (.int p0_1), .val (.int p0_2), .val (.int p0_3), .val (.int p0_4), .val (.int (r1 p0_0 (2147483639 : Int32))), .val (.int (t0_13 p0_1)), .val (.int 1), .val (.ref b133), .val (.int (r1 p0_0 (2147483639 : Int32))), .val (.int 1), .val (.int p0_2), .val (.int ((r1 p0_0 (2147483639 : Int32)) + (1 : Int32)))] [(.int 1), (.int (r1 p0_0 (2147483639 : Int32))), (.int ((r1 p0_0 (2147483639 : Int32)) + (1 : Int32)))])) (fun _ k => XS.iconst X177.here hx rfl (hb hby at_158) k) ?_
   refine own_s (g' := (mkF m 160 #[.val (.int p0_0), .val (.int p0_1), .val (.int p0_2), .val (.int p0_3), .val (.int p0_4), .val (.int (r1 p0_0 (2147483639 : Int32))), .val (.int (t0_13 p0_1)), .val (.int 1), .val (.ref b133), .val (.int (r1 p0_0 (2147483639 : Int32))), .val (.int 1), .val (.int p0_2), .val (.int ((r1 p0_0 (2147483639 : Int32)) + (1 : Int32)))] [(.int ((r1 p0_0 (2147483639 : Int32)) + (1 : Int32))), (.int ((r1 p0_0 (2147483639 : Int32)) + (1 : Int32)))])) (fun _ k => XS.iadd X177.here hx rfl (hb hby at_159) rfl k) ?_
   refine own_s (g' := (mkF m 163 #[.val (.int p0_0), .val (.int p0_1), .val (.int p0_2), .val (.int p0_3), .val (.int p0_4), .val (.int (r1 p0_0 (2147483639 : Int32))), .val (.int (t0_13 p0_1)), .val (.int 1), .val (.ref b133), .val (.int (r1 p0_0 (2147483639 : Int32))), .val (.int 1), .val (.int p0_2), .val (.int ((r1 p0_0 (2147483639 : Int32)) + (1 : Int32)))] [])) (fun _ k => XS.icmpNo X177.here hx rfl (hb hby at_160) rfl (teq rfl).2 k) ?_
   refine own_s (g' := (mkF m 165 #[.val (.int p0_0), .val (.int p0_1), .val (.int p0_2), .val (.int p0_3), .val (.int p0_4), .val (.int (r1 p0_0 (2147483639 : Int32))), .val (.int (t0_13 p0_1)), .val (.int 1), .val (.ref b133), .val (.int (r1 p0_0 (2147483639 : Int32))), .val (.int 1), .val (.int p0_2), .val (.int ((r1 p0_0 (2147483639 : Int32)) + (1 : Int32)))] [(.ref b133)])) (fun _ k => XS.aload X177.here hx rfl (hb hby at_163) rfl rfl k) ?_
   obtain ⟨cq183, kq183, q183a, q183b, q183c⟩ := isOf hZ rfl f178
   obtain ⟨_, _, ⟨T183, L183, k183, n183⟩, -, X183, ⟨Lc183, hQ183, l183, y183, z183⟩, st183⟩ := X177.virtualBack hx (y := (⟨"com/example/epochwise/epochwise/server/Numbering", "count", "()I"⟩ : MethodName)) (z := (⟨"com/example/epochwise/epochwise/server/Numbering", "count", "()I"⟩ : MethodName)) hown (mvT hZ ww28) (mvT hZ ww29) (notFace_of_selects (args := #[]) (mvT hZ ww31)) (mvT hZ ww31) (mvT hZ ww30) (by decide) (backOf (W := 0) (rm5 l Z a0 hw [] b133 (((r1 p0_0 (2147483639 : Int32)) + (1 : Int32)) + (1 : Int32)) T177.heap n0 (Nat.le_trans Z0 K177.1) f182) hZ ww32 ww7 (by decide) (by decide)) q183a q183c (g := (mkF m 165 #[.val (.int p0_0), .val (.int p0_1), .val (.int p0_2), .val (.int p0_3), .val (.int p0_4), .val (.int (r1 p0_0 (2147483639 : Int32))), .val (.int (t0_13 p0_1)), .val (.int 1), .val (.ref b133), .val (.int (r1 p0_0 (2147483639 : Int32))), .val (.int 1), .val (.int p0_2), .val (.int ((r1 p0_0 (2147483639 : Int32)) + (1 : Int32)))] [(.ref b133)])) rfl (by rw [hml]; rfl) (Steps.refl _) (argsL := []) (rest := []) (lenOf pd___I rfl) rfl (by show 2 * 0 + _ ≤ _; exact Nat.le_of_eq rfl) (hb hby at_165) (fun _ _ => ⟨rfl, rfl, (by decide : 2 + 0 ≤ _), (by decide : 20 + 0 ≤ _)⟩)
   dsimp only [Pt.U, Pt.locs, Pt.cells, Pt.slots] at X183 l183 y183 z183 st183 hQ183
   subst l183 y183 z183
   obtain ⟨rfl, N183q, eh183⟩ := hQ183
   have N183 := Fr.app N177 N183q
   refine own_trans (g' := (mkF m 168 #[.val (.int p0_0), .val (.int p0_1), .val (.int p0_2), .val (.int p0_3), .val (.int p0_4), .val (.int (r1 p0_0 (2147483639 : Int32))), .val (.int (t0_13 p0_1)), .val (.int 1), .val (.ref b133), .val (.int (r1 p0_0 (2147483639 : Int32))), .val (.int 1), .val (.int p0_2), .val (.int ((r1 p0_0 (2147483639 : Int32)) + (1 : Int32)))] [(.int (((r1 p0_0 (2147483639 : Int32)) + (1 : Int32)) + (1 : Int32)))])) st183 ?_
   refine own_s (g' := (mkF m 170 #[.val (.int p0_0), .val (.int p0_1), .val (.int p0_2), .val (.int p0_3), .val (.int p0_4), .val (.int (r1 p0_0 (2147483639 : Int32))), .val (.int (t0_13 p0_1)), .val (.int 1), .val (.ref b133), .val (.int (r1 p0_0 (2147483639 : Int32))), .val (.int 1), .val (.int p0_2), .val (.int ((r1 p0_0 (2147483639 : Int32)) + (1 : Int32)))] [(.int (r1 p0_0 (2147483639 : Int32))), (.int (((r1 p0_0 (2147483639 : Int32)) + (1 : Int32)) + (1 : Int32)))])) (fun _ k => XS.iload X183.here hx rfl (hb hby at_168) rfl k) ?_
   refine own_s (g' := (mkF m 171 #[.val (.int p0_0), .val (.int p0_1), .val (.int p0_2), .val (.int p0_3), .val (.int p0_4), .val (.int (r1 p0_0 (2147483639 : Int32))), .val (.int (t0_13 p0_1)), .val (.int 1), .val (.ref b133), .val (.int (r1 p0_0 (2147483639 : Int32))), .val (.int 1), .val (.int p0_2), .val (.int ((r1 p0_0 (2147483639 : Int32)) + (1 : Int32)))] [(.int 2), (.int (r1 p0_0 (2147483639 : Int32))), (.int (((r1 p0_0 (2147483639 : Int32)) + (1 : Int32)) + (1 : Int32)))])) (fun _ k => XS.iconst X183.here hx rfl (hb hby at_170) k) ?_
   refine own_s (g' := (mkF m 172 #[.val (.int p0_0), .val (.int p0_1), .val (.int p0_2), .val (.int p0_3), .val (.int p0_4), .val (.int (r1 p0_0 (2147483639 : Int32))), .val (.int (t0_13 p0_1)), .val (.int 1), .val (.ref b133), .val (.int (r1 p0_0 (2147483639 : Int32))), .val (.int 1), .val (.int p0_2), .val (.int ((r1 p0_0 (2147483639 : Int32)) + (1 : Int32)))] [(.int ((r1 p0_0 (2147483639 : Int32)) + (2 : Int32))), (.int (((r1 p0_0 (2147483639 : Int32)) + (1 : Int32)) + (1 : Int32)))])) (fun _ k => XS.iadd X183.here hx rfl (hb hby at_171) rfl k) ?_
   refine own_s (g' := (mkF m 175 #[.val (.int p0_0), .val (.int p0_1), .val (.int p0_2), .val (.int p0_3), .val (.int p0_4), .val (.int (r1 p0_0 (2147483639 : Int32))), .val (.int (t0_13 p0_1)), .val (.int 1), .val (.ref b133), .val (.int (r1 p0_0 (2147483639 : Int32))), .val (.int 1), .val (.int p0_2), .val (.int ((r1 p0_0 (2147483639 : Int32)) + (1 : Int32)))] [])) (fun _ k => XS.icmpNo X183.here hx rfl (hb hby at_172) rfl (teq ((own_112 _) : (((r1 p0_0 (2147483639 : Int32)) + (1 : Int32)) + (1 : Int32)) = ((r1 p0_0 (2147483639 : Int32)) + (2 : Int32)))).2 k) ?_
   refine own_s (g' := (mkF m 177 #[.val (.int p0_0), .val (.int p0_1), .val (.int p0_2), .val (.int p0_3), .val (.int p0_4), .val (.int (r1 p0_0 (2147483639 : Int32))), .val (.int (t0_13 p0_1)), .val (.int 1), .val (.ref b133), .val (.int (r1 p0_0 (2147483639 : Int32))), .val (.int 1), .val (.int p0_2), .val (.int ((r1 p0_0 (2147483639 : Int32)) + (1 : Int32)))] [(.ref b133)])) (fun _ k => XS.aload X183.here hx rfl (hb hby at_175) rfl rfl k) ?_
   obtain ⟨cq184, kq184, q184a, q184b, q184c⟩ := isOf hZ eh183 f178
   obtain ⟨_, _, ⟨T184, L184, k184, n184⟩, -, X184, ⟨Lc184, hQ184, l184, y184, z184⟩, st184⟩ := X183.virtualBack hx (y := (⟨"com/example/epochwise/epochwise/server/Numbering", "runOut", "()Z"⟩ : MethodName)) (z := (⟨"com/example/epochwise/epochwise/server/Numbering", "runOut", "()Z"⟩ : MethodName)) hown (mvT hZ ww38) (mvT hZ ww39) (notFace_of_selects (args := #[]) (mvT hZ ww41)) (mvT hZ ww41) (mvT hZ ww40) (by decide) (backOf (W := 0) (rm7 l Z a0 hw [] b133 (0 : Int32) (((t0_13 p0_1) - (1 : Int32)) - (1 : Int32)) T177.heap n0 (Nat.le_trans Z0 K177.1) f179 f181) hZ ww42 ww7 (by decide) (by decide)) q184a q184c (g := (mkF m 177 #[.val (.int p0_0), .val (.int p0_1), .val (.int p0_2), .val (.int p0_3), .val (.int p0_4), .val (.int (r1 p0_0 (2147483639 : Int32))), .val (.int (t0_13 p0_1)), .val (.int 1), .val (.ref b133), .val (.int (r1 p0_0 (2147483639 : Int32))), .val (.int 1), .val (.int p0_2), .val (.int ((r1 p0_0 (2147483639 : Int32)) + (1 : Int32)))] [(.ref b133)])) rfl (by rw [hml]; rfl) (Steps.refl _) (argsL := []) (rest := []) (lenOf pd___Z rfl) rfl (by show 2 * 0 + _ ≤ _; exact Nat.le_of_eq rfl) (hb hby at_177) (fun _ _ => ⟨rfl, eh183, (by decide : 2 + 0 ≤ _), (by decide : 20 + 0 ≤ _)⟩)
   dsimp only [Pt.U, Pt.locs, Pt.cells, Pt.slots] at X184 l184 y184 z184 st184 hQ184
   subst l184 y184 z184
   obtain ⟨rfl, N184q, eh184⟩ := hQ184
   have N184 := Fr.app N183 N184q
   refine own_trans (g' := (mkF m 180 #[.val (.int p0_0), .val (.int p0_1), .val (.int p0_2), .val (.int p0_3), .val (.int p0_4), .val (.int (r1 p0_0 (2147483639 : Int32))), .val (.int (t0_13 p0_1)), .val (.int 1), .val (.ref b133), .val (.int (r1 p0_0 (2147483639 : Int32))), .val (.int 1), .val (.int p0_2), .val (.int ((r1 p0_0 (2147483639 : Int32)) + (1 : Int32)))] [(.int (r7 (0 : Int32) (((t0_13 p0_1) - (1 : Int32)) - (1 : Int32))))])) st184 ?_
   refine own_s (g' := (mkF m 182 #[.val (.int p0_0), .val (.int p0_1), .val (.int p0_2), .val (.int p0_3), .val (.int p0_4), .val (.int (r1 p0_0 (2147483639 : Int32))), .val (.int (t0_13 p0_1)), .val (.int 1), .val (.ref b133), .val (.int (r1 p0_0 (2147483639 : Int32))), .val (.int 1), .val (.int p0_2), .val (.int ((r1 p0_0 (2147483639 : Int32)) + (1 : Int32)))] [(.int (t0_13 p0_1)), (.int (r7 (0 : Int32) (((t0_13 p0_1) - (1 : Int32)) - (1 : Int32))))])) (fun _ k => XS.iload X184.here hx rfl (hb hby at_180) rfl k) ?_
   refine own_s (g' := (mkF m 183 #[.val (.int p0_0), .val (.int p0_1), .val (.int p0_2), .val (.int p0_3), .val (.int p0_4), .val (.int (r1 p0_0 (2147483639 : Int32))), .val (.int (t0_13 p0_1)), .val (.int 1), .val (.ref b133), .val (.int (r1 p0_0 (2147483639 : Int32))), .val (.int 1), .val (.int p0_2), .val (.int ((r1 p0_0 (2147483639 : Int32)) + (1 : Int32)))] [(.int 2), (.int (t0_13 p0_1)), (.int (r7 (0 : Int32) (((t0_13 p0_1) - (1 : Int32)) - (1 : Int32))))])) (fun _ k => XS.iconst X184.here hx rfl (hb hby at_182) k) ?_
   by_cases c185 : (t0_13 p0_1) = (2 : Int32)
   ·skip
    refine own_s (g' := (mkF m 186 #[.val (.int p0_0), .val (.int p0_1), .val (.int p0_2), .val (.int p0_3), .val (.int p0_4), .val (.int (r1 p0_0 (2147483639 : Int32))), .val (.int (t0_13 p0_1)), .val (.int 1), .val (.ref b133), .val (.int (r1 p0_0 (2147483639 : Int32))), .val (.int 1), .val (.int p0_2), .val (.int ((r1 p0_0 (2147483639 : Int32)) + (1 : Int32)))] [(.int (r7 (0 : Int32) (((t0_13 p0_1) - (1 : Int32)) - (1 : Int32))))])) (fun _ k => XS.icmpNo X184.here hx rfl (hb hby at_183) rfl (teq c185).2 k) ?_
    refine own_s (g' := (mkF m 187 #[.val (.int p0_0), .val (.int p0_1), .val (.int p0_2), .val (.int p0_3), .val (.int p0_4), .val (.int (r1 p0_0 (2147483639 : Int32))), .val (.int (t0_13 p0_1)), .val (.int 1), .val (.ref b133), .val (.int (r1 p0_0 (2147483639 : Int32))), .val (.int 1), .val (.int p0_2), .val (.int ((r1 p0_0 (2147483639 : Int32)) + (1 : Int32)))] [(.int 1), (.int (r7 (0 : Int32) (((t0_13 p0_1) - (1 : Int32)) - (1 : Int32))))])) (fun _ k => XS.iconst X184.here hx rfl (hb hby at_186) k) ?_
    refine own_s (g' := (mkF m 191 #[.val (.int p0_0), .val (.int p0_1), .val (.int p0_2), .val (.int p0_3), .val (.int p0_4), .val (.int (r1 p0_0 (2147483639 : Int32))), .val (.int (t0_13 p0_1)), .val (.int 1), .val (.ref b133), .val (.int (r1 p0_0 (2147483639 : Int32))), .val (.int 1), .val (.int p0_2), .val (.int ((r1 p0_0 (2147483639 : Int32)) + (1 : Int32)))] [(.int 1), (.int (r7 (0 : Int32) (((t0_13 p0_1) - (1 : Int32)) - (1 : Int32))))])) (fun _ k => XS.goto X184.here hx rfl (pc0 := 187) (pc' := 191) rfl (hb hby at_187) (by decide) (by decide) k) ?_
    refine own_s (g' := (mkF m 194 #[.val (.int p0_0), .val (.int p0_1), .val (.int p0_2), .val (.int p0_3), .val (.int p0_4), .val (.int (r1 p0_0 (2147483639 : Int32))), .val (.int (t0_13 p0_1)), .val (.int 1), .val (.ref b133), .val (.int (r1 p0_0 (2147483639 : Int32))), .val (.int 1), .val (.int p0_2), .val (.int ((r1 p0_0 (2147483639 : Int32)) + (1 : Int32)))] [])) (fun _ k => XS.icmpNo X184.here hx rfl (hb hby at_191) rfl (teq (((if_pos rfl).trans (if_pos (own_two _ c185))) : (r7 (0 : Int32) (((t0_13 p0_1) - (1 : Int32)) - (1 : Int32))) = (1 : Int32))).2 k) ?_
    refine own_s (g' := (mkF m 195 #[.val (.int p0_0), .val (.int p0_1), .val (.int p0_2), .val (.int p0_3), .val (.int p0_4), .val (.int (r1 p0_0 (2147483639 : Int32))), .val (.int (t0_13 p0_1)), .val (.int 1), .val (.ref b133), .val (.int (r1 p0_0 (2147483639 : Int32))), .val (.int 1), .val (.int p0_2), .val (.int ((r1 p0_0 (2147483639 : Int32)) + (1 : Int32)))] [(.int 1)])) (fun _ k => XS.iconst X184.here hx rfl (hb hby at_194) k) ?_
    refine own_s (g' := (mkF m 199 #[.val (.int p0_0), .val (.int p0_1), .val (.int p0_2), .val (.int p0_3), .val (.int p0_4), .val (.int (r1 p0_0 (2147483639 : Int32))), .val (.int (t0_13 p0_1)), .val (.int 1), .val (.ref b133), .val (.int (r1 p0_0 (2147483639 : Int32))), .val (.int 1), .val (.int p0_2), .val (.int ((r1 p0_0 (2147483639 : Int32)) + (1 : Int32)))] [(.int 1)])) (fun _ k => XS.goto X184.here hx rfl (pc0 := 195) (pc' := 199) rfl (hb hby at_195) (by decide) (by decide) k) ?_
    refine own_s (g' := (mkF m 201 #[.val (.int p0_0), .val (.int p0_1), .val (.int p0_2), .val (.int p0_3), .val (.int p0_4), .val (.int (r1 p0_0 (2147483639 : Int32))), .val (.int (t0_13 p0_1)), .val (.int 1), .val (.ref b133), .val (.int (r1 p0_0 (2147483639 : Int32))), .val (.int 1), .val (.int p0_2), .val (.int ((r1 p0_0 (2147483639 : Int32)) + (1 : Int32)))] [])) (fun _ k => XS.istore X184.here hx rfl (hb hby at_199) rfl (l' := #[.val (.int p0_0), .val (.int p0_1), .val (.int p0_2), .val (.int p0_3), .val (.int p0_4), .val (.int (r1 p0_0 (2147483639 : Int32))), .val (.int (t0_13 p0_1)), .val (.int 1), .val (.ref b133), .val (.int (r1 p0_0 (2147483639 : Int32))), .val (.int 1), .val (.int p0_2), .val (.int ((r1 p0_0 (2147483639 : Int32)) + (1 : Int32)))]) rfl k) ?_
    refine own_s (g' := (mkF m 203 #[.val (.int p0_0), .val (.int p0_1), .val (.int p0_2), .val (.int p0_3), .val (.int p0_4), .val (.int (r1 p0_0 (2147483639 : Int32))), .val (.int (t0_13 p0_1)), .val (.int 1), .val (.ref b133), .val (.int (r1 p0_0 (2147483639 : Int32))), .val (.int 1), .val (.int p0_2), .val (.int ((r1 p0_0 (2147483639 : Int32)) + (1 : Int32)))] [(.int 1)])) (fun _ k => XS.iload X184.here hx rfl (hb hby at_201) rfl k) ?_
    refine own_retN X184 hx hlk (t := .boolean) hret (by simp) (hb hby at_203) (z' := (1 : Int32)) (by decide) (by decide) (by decide) ?_
    show Q0 Z p0_0 p0_1 p0_2 p0_3 p0_4 h0 n0 _ T184.heap _
    rw [eh184]
    exact ⟨rfl, N184⟩
   ·skip
    refine own_s (g' := (mkF m 190 #[.val (.int p0_0), .val (.int p0_1), .val (.int p0_2), .val (.int p0_3), .val (.int p0_4), .val (.int (r1 p0_0 (2147483639 : Int32))), .val (.int (t0_13 p0_1)), .val (.int 1), .val (.ref b133), .val (.int (r1 p0_0 (2147483639 : Int32))), .val (.int 1), .val (.int p0_2), .val (.int ((r1 p0_0 (2147483639 : Int32)) + (1 : Int32)))] [(.int (r7 (0 : Int32) (((t0_13 p0_1) - (1 : Int32)) - (1 : Int32))))])) (fun _ k => XS.icmpYes X184.here hx rfl (pc0 := 183) (pc' := 190) rfl (hb hby at_183) rfl (feq c185).2 (by decide) (by decide) k) ?_
    refine own_s (g' := (mkF m 191 #[.val (.int p0_0), .val (.int p0_1), .val (.int p0_2), .val (.int p0_3), .val (.int p0_4), .val (.int (r1 p0_0 (2147483639 : Int32))), .val (.int (t0_13 p0_1)), .val (.int 1), .val (.ref b133), .val (.int (r1 p0_0 (2147483639 : Int32))), .val (.int 1), .val (.int p0_2), .val (.int ((r1 p0_0 (2147483639 : Int32)) + (1 : Int32)))] [(.int 0), (.int (r7 (0 : Int32) (((t0_13 p0_1) - (1 : Int32)) - (1 : Int32))))])) (fun _ k => XS.iconst X184.here hx rfl (hb hby at_190) k) ?_
    refine own_s (g' := (mkF m 194 #[.val (.int p0_0), .val (.int p0_1), .val (.int p0_2), .val (.int p0_3), .val (.int p0_4), .val (.int (r1 p0_0 (2147483639 : Int32))), .val (.int (t0_13 p0_1)), .val (.int 1), .val (.ref b133), .val (.int (r1 p0_0 (2147483639 : Int32))), .val (.int 1), .val (.int p0_2), .val (.int ((r1 p0_0 (2147483639 : Int32)) + (1 : Int32)))] [])) (fun _ k => XS.icmpNo X184.here hx rfl (hb hby at_191) rfl (teq (((if_pos rfl).trans (if_neg (own_not2 _ c185))) : (r7 (0 : Int32) (((t0_13 p0_1) - (1 : Int32)) - (1 : Int32))) = (0 : Int32))).2 k) ?_
    refine own_s (g' := (mkF m 195 #[.val (.int p0_0), .val (.int p0_1), .val (.int p0_2), .val (.int p0_3), .val (.int p0_4), .val (.int (r1 p0_0 (2147483639 : Int32))), .val (.int (t0_13 p0_1)), .val (.int 1), .val (.ref b133), .val (.int (r1 p0_0 (2147483639 : Int32))), .val (.int 1), .val (.int p0_2), .val (.int ((r1 p0_0 (2147483639 : Int32)) + (1 : Int32)))] [(.int 1)])) (fun _ k => XS.iconst X184.here hx rfl (hb hby at_194) k) ?_
    refine own_s (g' := (mkF m 199 #[.val (.int p0_0), .val (.int p0_1), .val (.int p0_2), .val (.int p0_3), .val (.int p0_4), .val (.int (r1 p0_0 (2147483639 : Int32))), .val (.int (t0_13 p0_1)), .val (.int 1), .val (.ref b133), .val (.int (r1 p0_0 (2147483639 : Int32))), .val (.int 1), .val (.int p0_2), .val (.int ((r1 p0_0 (2147483639 : Int32)) + (1 : Int32)))] [(.int 1)])) (fun _ k => XS.goto X184.here hx rfl (pc0 := 195) (pc' := 199) rfl (hb hby at_195) (by decide) (by decide) k) ?_
    refine own_s (g' := (mkF m 201 #[.val (.int p0_0), .val (.int p0_1), .val (.int p0_2), .val (.int p0_3), .val (.int p0_4), .val (.int (r1 p0_0 (2147483639 : Int32))), .val (.int (t0_13 p0_1)), .val (.int 1), .val (.ref b133), .val (.int (r1 p0_0 (2147483639 : Int32))), .val (.int 1), .val (.int p0_2), .val (.int ((r1 p0_0 (2147483639 : Int32)) + (1 : Int32)))] [])) (fun _ k => XS.istore X184.here hx rfl (hb hby at_199) rfl (l' := #[.val (.int p0_0), .val (.int p0_1), .val (.int p0_2), .val (.int p0_3), .val (.int p0_4), .val (.int (r1 p0_0 (2147483639 : Int32))), .val (.int (t0_13 p0_1)), .val (.int 1), .val (.ref b133), .val (.int (r1 p0_0 (2147483639 : Int32))), .val (.int 1), .val (.int p0_2), .val (.int ((r1 p0_0 (2147483639 : Int32)) + (1 : Int32)))]) rfl k) ?_
    refine own_s (g' := (mkF m 203 #[.val (.int p0_0), .val (.int p0_1), .val (.int p0_2), .val (.int p0_3), .val (.int p0_4), .val (.int (r1 p0_0 (2147483639 : Int32))), .val (.int (t0_13 p0_1)), .val (.int 1), .val (.ref b133), .val (.int (r1 p0_0 (2147483639 : Int32))), .val (.int 1), .val (.int p0_2), .val (.int ((r1 p0_0 (2147483639 : Int32)) + (1 : Int32)))] [(.int 1)])) (fun _ k => XS.iload X184.here hx rfl (hb hby at_201) rfl k) ?_
    refine own_retN X184 hx hlk (t := .boolean) hret (by simp) (hb hby at_203) (z' := (1 : Int32)) (by decide) (by decide) (by decide) ?_
    show Q0 Z p0_0 p0_1 p0_2 p0_3 p0_4 h0 n0 _ T184.heap _
    rw [eh184]
    exact ⟨rfl, N184⟩
set_option maxRecDepth 65536 in
set_option maxHeartbeats 40000000 in
theorem comes_1 {Post : Tables → Env → Array Value → State → Outcome → State → Prop} (hpost : ∀ tb e args s v u, (limb_1_1.after args s (.returned v) u = true ∧ limb_1_2.after args s (.returned v) u = true ∧ True) → FrameEnd s (.returned v) u (Jvm.fieldLocs frame_1_writes args s ++ Jvm.arrayLocs frame_1_arrays args s ++ Jvm.staticLocs frame_1_statics s) 16 128 → Post tb e args s (.returned v) u) :
    ArmFor flags0 classFile x code maxLocals ret World_1 tables_1 room_1 Calls_1 rest_1 Pre_1 Post := by
  intro l hfl _ _ p e ha hc hk s m args below hf hA hF happ hP
  obtain ⟨hcalls, hrest, hpre⟩ := hP
  obtain ⟨-, -, -, hnamed, -, -, -, hat⟩ := (Spec.applies_iff hf).mp happ
  obtain ⟨hg, hn⟩ := and_e (Cond.before_iff.mp (show (Jvm.Cond.and given_1 narrow_1).before args s = true from hpre))
  obtain ⟨gc, hg⟩ := and_e hg
  obtain ⟨gi0, hg⟩ := and_e hg
  obtain ⟨gi1, hg⟩ := and_e hg
  obtain ⟨gi2, hg⟩ := and_e hg
  obtain ⟨gi3, hg⟩ := and_e hg
  obtain ⟨w0, w1, w2, w3, w4, rfl⟩ : ∃ w0 w1 w2 w3 w4 : Value, args = #[w0, w1, w2, w3, w4] := by
    have hs : args.size = 5 := by simpa [Cond.value, given_1] using gc
    obtain ⟨L⟩ := args
    match L, hs with
    | [w0, w1, w2, w3, w4], _ => exact ⟨w0, w1, w2, w3, w4, rfl⟩
  have hw := fun d (hd : d ∈ tables_1) => atoms_spec (ws := Jvm.Cond.code x code maxLocals ret :: tables_1) hat d (List.mem_cons_of_mem _ hd)
  obtain ⟨i0, ei0⟩ := is_v gi0
  obtain rfl : w0 = (.int i0) := Option.some.inj ei0
  obtain ⟨i1, ei1⟩ := is_v gi1
  obtain rfl : w1 = (.int i1) := Option.some.inj ei1
  obtain ⟨i2, ei2⟩ := is_v gi2
  obtain rfl : w2 = (.int i2) := Option.some.inj ei2
  obtain ⟨i3, ei3⟩ := is_v gi3
  obtain rfl : w3 = (.int i3) := Option.some.inj ei3
  obtain ⟨i4, ei4⟩ := is_v hg
  obtain rfl : w4 = (.int i4) := Option.some.inj ei4
  obtain ⟨n, o, h1, h2, h3, _, L, rfl, ⟨rfl, N⟩, hq⟩ := rm0 l s _ hw tables_1 i0 i1 i2 i3 i4 s.heap s.heap.size (Nat.le_refl _)  p e ha hc hk s m _ below hf ((Spec.applies_iff_loose hf).mp happ).1 ⟨rfl, State.Warmed39.refl s, rfl⟩ trivial
  refine ⟨n, _, h1, h2, h3, hpost _ _ _ _ _ _ ⟨Cond.after_iff.mpr rfl, Cond.after_iff.mpr (eq_i res_at (Term.int_eval (1)) rfl), trivial⟩ ⟨hq.1, hq.2.1, (hq.2.2.sift fun y hy => Or.inr (N y hy)).mono (by decide) (by decide)⟩⟩
theorem main_1_1 : Claimed_1_1 := comes_1 fun _ _ _ _ _ _ h hF => ⟨h.1, hF⟩
theorem main_1_2 : Claimed_1_2 := comes_1 fun _ _ _ _ _ _ h hF => ⟨h.2.1, hF⟩
end Jvm.Pilot.@@N@@
namespace Jvm.Pilot.@@N@@
open Jvm Jvm.ClassFile Sem Op Lib Jvm.Free Jvm.Stand Jvm.Pilot.@@N@@.Jvm.D
/-! MADE BY PROGRAM (witnessworld.py) out of the Statement's table words and the real class files: 10 classes; the members and pool entries that the words name. The judged class is class 1, her method 1. -/
namespace start1
open Jvm.ClassFile
def u (s : String) : CpInfo := .utf8 (stringToUtf16 s)
/-- a pool by its gaps: so many unusable entries, then the entry; so many at the end -/
def gap : Nat → List CpInfo → List CpInfo
  | 0, r => r
  | n + 1, r => .unusable :: gap n r
def poolList (es : List (Nat × CpInfo)) (last : Nat) : List CpInfo := es.foldr (fun e r => gap e.1 (e.2 :: r)) (gap last [])
def pool (es : List (Nat × CpInfo)) (last : Nat) : Array CpInfo := ⟨poolList es last⟩
def fileOf (pool : Array CpInfo) (this : Nat) (attrs : Array Attribute := #[]) (ms : Array MethodInfo := #[]) (fl : Nat := 33) (sup : Nat := 0) (ifs : Array Nat := #[]) (fds : Array FieldInfo := #[]) : ClassFile where
  minorVersion := 0
  majorVersion := 65
  constantPool := pool
  accessFlags := fl
  thisClass := this
  superClass := sup
  interfaces := ifs
  fields := fds
  methods := ms
  attributes := attrs
def plain (name : String) (sup : Option ClassId) : Class where
  name := name
  kind := .ordinary
  loader := none
  accessFlags := 33
  super := sup
  interfaces := #[]
  cf := none
  fields := #[]
  methods := #[]
  instanceTypes := #[]
  staticTypes := #[]
  resolved := #[]
  callSites := []
  init := .initialized
  statics := none
  mirror := none

def pool0 : Array CpInfo := pool [(5, u "<init>"), (0, u "()V"), (1, .class_ 10), (1, u "java/lang/Object")] 113

def k0c0 : Code := { maxStack := 0, maxLocals := 1, code := object_method_1_code, exceptionTable := #[], attributes := #[] }
def k0m0 : Method := { name := "<init>", desc := "()V", sig := { parameters := [], returnType := none }, accessFlags := 1, code := some k0c0 }
/-- java/lang/Object -/
def k0 : Class := { plain "java/lang/Object" none with
  accessFlags := 33
  interfaces := #[]
  cf := some (fileOf pool0 8 #[] #[{ accessFlags := 1, nameIndex := 5, descriptorIndex := 6, attributes := #[] }] 33 0 #[] #[])
  fields := #[]
  methods := #[k0m0]
  instanceTypes := #[]
  staticTypes := #[]
  resolved := Array.replicate 124 none
  statics := none }

def pool1 : Array CpInfo := pool [(2, .class_ 4), (1, u "java/lang/Object"), (0, u "<init>"), (0, u "()V"), (2, .integer 2147483639), (0, .methodref 11 12), (0, .class_ 13), (0, .nameAndType 14 15), (0, u "java/lang/Math"), (0, u "min"), (0, u "(II)I"), (0, .class_ 17), (0, u "com/example/epochwise/epochwise/server/Numbering"), (0, .methodref 16 19), (0, .nameAndType 5 20), (0, u "(II)V"), (0, .methodref 16 22), (0, .nameAndType 23 24), (0, u "take"), (0, u "()I"), (0, .methodref 16 26), (0, .nameAndType 27 24), (0, u "count"), (0, .methodref 16 29), (0, .nameAndType 30 31), (0, u "give"), (0, u "(I)V"), (0, .methodref 16 33), (0, .nameAndType 34 35), (0, u "runOut"), (0, u "()Z"), (0, .class_ 37), (0, u "com/example/epochwise/epochwise/server/NumberingTakePinLaw"), (2, u "law"), (0, u "(IIIII)Z")] 3

def k1m0 : Method := { name := "<init>", desc := "()V", sig := { parameters := [], returnType := none }, accessFlags := 1, code := none }
def k1c1 : Code := { maxStack := 4, maxLocals := 13, code := code, exceptionTable := #[], attributes := #[] }
def k1m1 : Method := { name := "law", desc := "(IIIII)Z", sig := { parameters := [.int, .int, .int, .int, .int], returnType := some .boolean }, accessFlags := 9, code := some k1c1 }
/-- com/example/epochwise/epochwise/server/NumberingTakePinLaw -/
def k1 : Class := { plain "com/example/epochwise/epochwise/server/NumberingTakePinLaw" (some 0) with
  accessFlags := 49
  interfaces := #[]
  cf := some (fileOf pool1 36 #[] #[{ accessFlags := 1, nameIndex := 5, descriptorIndex := 6, attributes := #[] }, { accessFlags := 9, nameIndex := 40, descriptorIndex := 41, attributes := #[] }] 49 2 #[] #[])
  fields := #[]
  methods := #[k1m0, k1m1]
  instanceTypes := #[]
  staticTypes := #[]
  resolved := Array.replicate 45 none
  statics := none }

def pool2 : Array CpInfo := pool [(1, .class_ 2), (0, u "java/lang/Math"), (1, .class_ 6), (1, u "java/lang/Object"), (0, u "<init>"), (0, u "()V"), (89, .class_ 100), (1, u "java/lang/Math$RandomNumberGeneratorHolder"), (71, u "negativeZeroFloatBits"), (0, u "J"), (2, u "negativeZeroDoubleBits"), (24, u "min"), (43, u "$assertionsDisabled"), (0, u "Z"), (88, u "(II)I"), (2, u "twoToTheDoubleScaleDown"), (0, u "D"), (4, u "twoToTheDoubleScaleUp"), (9, u "E"), (3, u "PI"), (2, u "TAU"), (2, u "DEGREES_TO_RADIANS"), (0, u "RADIANS_TO_DEGREES")] 94

def k2m0 : Method := { name := "<init>", desc := "()V", sig := { parameters := [], returnType := none }, accessFlags := 2, code := none }
def k2c1 : Code := { maxStack := 2, maxLocals := 2, code := jdk_29_method_69_code, exceptionTable := #[], attributes := #[] }
def k2m1 : Method := { name := "min", desc := "(II)I", sig := { parameters := [.int, .int], returnType := some .int }, accessFlags := 9, code := some k2c1 }
/-- java/lang/Math -/
def k2 : Class := { plain "java/lang/Math" (some 0) with
  accessFlags := 49
  interfaces := #[]
  cf := some (fileOf pool2 1 #[.nestMembers #[98]] #[{ accessFlags := 2, nameIndex := 7, descriptorIndex := 8, attributes := #[] }, { accessFlags := 9, nameIndex := 201, descriptorIndex := 335, attributes := #[] }] 49 4 #[] #[{ accessFlags := 25, nameIndex := 354, descriptorIndex := 339, attributes := #[] }, { accessFlags := 25, nameIndex := 358, descriptorIndex := 339, attributes := #[] }, { accessFlags := 25, nameIndex := 361, descriptorIndex := 339, attributes := #[] }, { accessFlags := 26, nameIndex := 364, descriptorIndex := 339, attributes := #[] }, { accessFlags := 26, nameIndex := 365, descriptorIndex := 339, attributes := #[] }, { accessFlags := 26, nameIndex := 172, descriptorIndex := 173, attributes := #[] }, { accessFlags := 26, nameIndex := 176, descriptorIndex := 173, attributes := #[] }, { accessFlags := 8, nameIndex := 344, descriptorIndex := 339, attributes := #[] }, { accessFlags := 8, nameIndex := 338, descriptorIndex := 339, attributes := #[] }, { accessFlags := 4120, nameIndex := 245, descriptorIndex := 246, attributes := #[] }])
  fields := #[{ name := "E", type := .double, accessFlags := 25, slot := 0, constantValue := 0 }, { name := "PI", type := .double, accessFlags := 25, slot := 1, constantValue := 0 }, { name := "TAU", type := .double, accessFlags := 25, slot := 2, constantValue := 0 }, { name := "DEGREES_TO_RADIANS", type := .double, accessFlags := 26, slot := 3, constantValue := 0 }, { name := "RADIANS_TO_DEGREES", type := .double, accessFlags := 26, slot := 4, constantValue := 0 }, { name := "negativeZeroFloatBits", type := .long, accessFlags := 26, slot := 5, constantValue := 0 }, { name := "negativeZeroDoubleBits", type := .long, accessFlags := 26, slot := 6, constantValue := 0 }, { name := "twoToTheDoubleScaleUp", type := .double, accessFlags := 8, slot := 7, constantValue := 0 }, { name := "twoToTheDoubleScaleDown", type := .double, accessFlags := 8, slot := 8, constantValue := 0 }, { name := "$assertionsDisabled", type := .boolean, accessFlags := 4120, slot := 9, constantValue := 0 }]
  methods := #[k2m0, k2m1]
  instanceTypes := #[]
  staticTypes := #[.double, .double, .double, .double, .double, .long, .long, .double, .double, .boolean]
  resolved := Array.replicate 460 none
  statics := none }

def pool3 : Array CpInfo := pool [(5, .class_ 7), (1, u "com/example/epochwise/epochwise/server/Numbering"), (0, u "<init>"), (0, u "(II)V"), (0, .methodref 11 12), (0, .class_ 13), (0, .nameAndType 8 14), (0, u "java/lang/Object"), (0, u "()V"), (0, .fieldref 5 16), (0, .nameAndType 17 18), (0, u "free"), (0, u "[I"), (0, .fieldref 5 20), (0, .nameAndType 21 22), (0, u "next"), (0, u "I"), (0, .fieldref 5 24), (0, .nameAndType 25 22), (0, u "left"), (0, .fieldref 5 27), (0, .nameAndType 28 22), (0, u "freeCount"), (8, u "take"), (0, u "()I"), (1, u "give"), (0, u "(I)V"), (0, u "runOut"), (0, u "()Z"), (1, u "count")] 2

def k3m0 : Method := { name := "<init>", desc := "()V", sig := { parameters := [], returnType := none }, accessFlags := 0, code := none }
def k3c1 : Code := { maxStack := 2, maxLocals := 3, code := prog_157_method_2_code, exceptionTable := #[], attributes := #[] }
def k3m1 : Method := { name := "<init>", desc := "(II)V", sig := { parameters := [.int, .int], returnType := none }, accessFlags := 0, code := some k3c1 }
def k3c2 : Code := { maxStack := 4, maxLocals := 1, code := prog_157_method_3_code, exceptionTable := #[], attributes := #[] }
def k3m2 : Method := { name := "take", desc := "()I", sig := { parameters := [], returnType := some .int }, accessFlags := 0, code := some k3c2 }
def k3c3 : Code := { maxStack := 5, maxLocals := 2, code := prog_157_method_4_code, exceptionTable := #[], attributes := #[] }
def k3m3 : Method := { name := "give", desc := "(I)V", sig := { parameters := [.int], returnType := none }, accessFlags := 0, code := some k3c3 }
def k3c4 : Code := { maxStack := 1, maxLocals := 1, code := prog_157_method_5_code, exceptionTable := #[], attributes := #[] }
def k3m4 : Method := { name := "runOut", desc := "()Z", sig := { parameters := [], returnType := some .boolean }, accessFlags := 0, code := some k3c4 }
def k3c5 : Code := { maxStack := 1, maxLocals := 1, code := prog_157_method_7_code, exceptionTable := #[], attributes := #[] }
def k3m5 : Method := { name := "count", desc := "()I", sig := { parameters := [], returnType := some .int }, accessFlags := 0, code := some k3c5 }
/-- com/example/epochwise/epochwise/server/Numbering -/
def k3 : Class := { plain "com/example/epochwise/epochwise/server/Numbering" (some 0) with
  accessFlags := 48
  interfaces := #[]
  cf := some (fileOf pool3 5 #[] #[{ accessFlags := 0, nameIndex := 8, descriptorIndex := 14, attributes := #[] }, { accessFlags := 0, nameIndex := 8, descriptorIndex := 9, attributes := #[] }, { accessFlags := 0, nameIndex := 37, descriptorIndex := 38, attributes := #[] }, { accessFlags := 0, nameIndex := 40, descriptorIndex := 41, attributes := #[] }, { accessFlags := 0, nameIndex := 42, descriptorIndex := 43, attributes := #[] }, { accessFlags := 0, nameIndex := 45, descriptorIndex := 38, attributes := #[] }] 48 11 #[] #[{ accessFlags := 2, nameIndex := 17, descriptorIndex := 18, attributes := #[] }, { accessFlags := 2, nameIndex := 28, descriptorIndex := 22, attributes := #[] }, { accessFlags := 2, nameIndex := 21, descriptorIndex := 22, attributes := #[] }, { accessFlags := 2, nameIndex := 25, descriptorIndex := 22, attributes := #[] }])
  fields := #[{ name := "free", type := (.array .int), accessFlags := 2, slot := 0, constantValue := 0 }, { name := "freeCount", type := .int, accessFlags := 2, slot := 1, constantValue := 0 }, { name := "next", type := .int, accessFlags := 2, slot := 2, constantValue := 0 }, { name := "left", type := .int, accessFlags := 2, slot := 3, constantValue := 0 }]
  methods := #[k3m0, k3m1, k3m2, k3m3, k3m4, k3m5]
  instanceTypes := #[(.array .int), .int, .int, .int]
  staticTypes := #[]
  resolved := Array.replicate 48 none
  statics := none }

def pool4 : Array CpInfo := pool [(1, u "java/lang/Cloneable"), (0, .class_ 1), (0, u "java/lang/Object"), (0, .class_ 3)] 3

/-- java/lang/Cloneable -/
def k4 : Class := { plain "java/lang/Cloneable" (some 0) with
  accessFlags := 1537
  interfaces := #[]
  cf := some (fileOf pool4 2 #[] #[] 1537 4 #[] #[])
  fields := #[]
  methods := #[]
  instanceTypes := #[]
  staticTypes := #[]
  resolved := Array.replicate 8 none
  statics := none }

def pool5 : Array CpInfo := pool [(1, u "java/io/Serializable"), (0, .class_ 1), (0, u "java/lang/Object"), (0, .class_ 3)] 3

/-- java/io/Serializable -/
def k5 : Class := { plain "java/io/Serializable" (some 0) with
  accessFlags := 1537
  interfaces := #[]
  cf := some (fileOf pool5 2 #[] #[] 1537 4 #[] #[])
  fields := #[]
  methods := #[]
  instanceTypes := #[]
  staticTypes := #[]
  resolved := Array.replicate 8 none
  statics := none }

/-- the primitive byte -/
def k6 : Class := { plain "byte" none with kind := .primitive 'B', accessFlags := 0x411 }
/-- [B -/
def k7 : Class := { plain "[B" (some 0) with kind := .array 6 .byte, interfaces := #[4, 5], accessFlags := 1041 }

/-- the primitive int -/
def k8 : Class := { plain "int" none with kind := .primitive 'I', accessFlags := 0x411 }
/-- [I -/
def k9 : Class := { plain "[I" (some 0) with kind := .array 8 .int, interfaces := #[4, 5], accessFlags := 1041 }

def heap : Heap := #[]
def classes : Array Class := #[k0, k1, k2, k3, k4, k5, k6, k7, k8, k9]
def interned : List (Array UInt16 × Addr) := []
def slotsUsed : Nat := 0
def theMethod : MethodId := ⟨1, 1⟩
def args0 : Array Value := #[.int 5, .int 5, .int 5, .int 5, .int 5]
def aboutOver (below : List Frame) : State where
  vm := { classes := classes, interned := interned.toArray }
  heap := heap
  slotsUsed := slotsUsed
  threads := #[{ frames := .invoking theMethod args0 :: below }]
def below0 : List Frame := [.native { method := ⟨0, 0⟩, args := #[] }]
def about1 : State := aboutOver below0
def p0 : Program := .bare "" "" ""
def e0 : Env := launch0.env 0 0 0
theorem w_frames : about1.frames = Frame.invoking theMethod args0 :: below0 := rfl
set_option maxRecDepth 65536 in
theorem w_args : argsFit about1.vm theMethod args0 = true := by decide +kernel
set_option maxRecDepth 65536 in
theorem w_heap : heapFits about1 = true := by decide +kernel
set_option maxRecDepth 65536 in
theorem w_runnable : about1.curStatus? = some .runnable := by decide +kernel
set_option maxRecDepth 65536 in
theorem w_alone : about1.alone = true := by decide +kernel
set_option maxRecDepth 65536 in
theorem w_named : about1.methodNamed? x = some theMethod := by decide +kernel
set_option maxRecDepth 65536 in
theorem w_hears : about1.hears theMethod below0 = true := by decide +kernel
set_option maxRecDepth 65536 in
theorem w_ripe : about1.ripe theMethod args0 below0 = true := by decide +kernel
theorem w_running : about1.status = .running := rfl
set_option maxRecDepth 65536 in
theorem w_room : about1.hasRoom e0.platform room_1 = true :=
  launch0.hasRoom_least _ room_1 (by decide +kernel) (by decide +kernel) (by decide +kernel) (by decide +kernel) (by decide +kernel) (by decide +kernel)
theorem allAtoms_all (ts : List Jvm.Cond) (a : Array Jvm.Value) (st : Jvm.State) : (allAtoms ts).before a st = ts.all (fun c => c.before a st) := by
  induction ts with
  | nil => rfl
  | cons c t ih =>
    show (Jvm.Cond.and c (allAtoms t)).before a st = _
    rw [Jvm.Cond.before_and, ih, List.all_cons]
def words1 : List Jvm.Cond := Jvm.Cond.code x code maxLocals ret :: tables_1
/-- a 'code' word, met by the world's own term for the bytes: nothing is compared byte by byte -/
theorem code_word {y : MethodName} {bytes : ByteArray} {mx : Nat} {rt : Option FieldType} {a : Array Value} {s : State} {m : MethodId} {meth : Method} {c : Code} (h1 : s.methodNamed? y = some m) (h2 : s.vm.method? m = some meth) (h3 : meth.code = some c) (h4 : c.code = bytes)
    (h5 : (c.maxLocals == mx && c.exceptionTable.isEmpty && decide (c.maxStack ≤ mostOperands) && decide (meth.sig.returnType = rt) && !meth.locks && decide (parseMethodDescriptor y.desc = some meth.sig)) = true) : (Jvm.Cond.code y bytes mx rt).before a s = true := by
  simp only [Bool.and_eq_true, beq_iff_eq, Bool.not_eq_true', decide_eq_true_eq] at h5
  obtain ⟨⟨⟨⟨⟨g1, g2⟩, g3⟩, g4⟩, g5⟩, g6⟩ := h5
  simp [Cond.before, Cond.holds, Cond.value, h1, h2, h3, h4, g1, g2, g3, g4, g5, g6]
def isCode : Jvm.Cond → Bool
  | .code _ _ _ _ => true
  | _ => false
theorem all_split {L : List Jvm.Cond} {P : Jvm.Cond → Bool} (h1 : L.all (fun c => isCode c || P c) = true) (h2 : ∀ c ∈ L.filter isCode, P c = true) : L.all P = true := by
  refine List.all_eq_true.mpr fun c hc => ?_
  have h := List.all_eq_true.mp h1 c hc
  rcases Bool.eq_false_or_eq_true (isCode c) with hi | hi
  · exact h2 c (List.mem_filter.mpr ⟨hc, hi⟩)
  · simpa [hi] using h
set_option maxRecDepth 65536 in
theorem w_c0 : (Jvm.Cond.code x code maxLocals ret).before args0 about1 = true := code_word (m := ⟨1, 1⟩) (meth := k1m1) (c := k1c1) (by decide +kernel) rfl rfl rfl (by decide +kernel)
set_option maxRecDepth 65536 in
theorem w_c1 : (Jvm.Cond.code ({ cls := "java/lang/Math", name := "min", desc := "(II)I" } : Jvm.MethodName) jdk_29_method_69_code (2 : Nat) (Option.some Jvm.ClassFile.FieldType.int)).before args0 about1 = true := code_word (m := ⟨2, 1⟩) (meth := k2m1) (c := k2c1) (by decide +kernel) rfl rfl rfl (by decide +kernel)
set_option maxRecDepth 65536 in
theorem w_c2 : (Jvm.Cond.code ({ cls := "com/example/epochwise/epochwise/server/Numbering", name := "<init>", desc := "(II)V" } : Jvm.MethodName) prog_157_method_2_code (3 : Nat) (Option.none : Option Jvm.ClassFile.FieldType)).before args0 about1 = true := code_word (m := ⟨3, 1⟩) (meth := k3m1) (c := k3c1) (by decide +kernel) rfl rfl rfl (by decide +kernel)
set_option maxRecDepth 65536 in
theorem w_c3 : (Jvm.Cond.code ({ cls := "java/lang/Object", name := "<init>", desc := "()V" } : Jvm.MethodName) object_method_1_code (1 : Nat) (Option.none : Option Jvm.ClassFile.FieldType)).before args0 about1 = true := code_word (m := ⟨0, 0⟩) (meth := k0m0) (c := k0c0) (by decide +kernel) rfl rfl rfl (by decide +kernel)
set_option maxRecDepth 65536 in
theorem w_c4 : (Jvm.Cond.code ({ cls := "com/example/epochwise/epochwise/server/Numbering", name := "take", desc := "()I" } : Jvm.MethodName) prog_157_method_3_code (1 : Nat) (Option.some Jvm.ClassFile.FieldType.int)).before args0 about1 = true := code_word (m := ⟨3, 2⟩) (meth := k3m2) (c := k3c2) (by decide +kernel) rfl rfl rfl (by decide +kernel)
set_option maxRecDepth 65536 in
theorem w_c5 : (Jvm.Cond.code ({ cls := "com/example/epochwise/epochwise/server/Numbering", name := "count", desc := "()I" } : Jvm.MethodName) prog_157_method_7_code (1 : Nat) (Option.some Jvm.ClassFile.FieldType.int)).before args0 about1 = true := code_word (m := ⟨3, 5⟩) (meth := k3m5) (c := k3c5) (by decide +kernel) rfl rfl rfl (by decide +kernel)
set_option maxRecDepth 65536 in
theorem w_c6 : (Jvm.Cond.code ({ cls := "com/example/epochwise/epochwise/server/Numbering", name := "give", desc := "(I)V" } : Jvm.MethodName) prog_157_method_4_code (2 : Nat) (Option.none : Option Jvm.ClassFile.FieldType)).before args0 about1 = true := code_word (m := ⟨3, 3⟩) (meth := k3m3) (c := k3c3) (by decide +kernel) rfl rfl rfl (by decide +kernel)
set_option maxRecDepth 65536 in
theorem w_c7 : (Jvm.Cond.code ({ cls := "com/example/epochwise/epochwise/server/Numbering", name := "runOut", desc := "()Z" } : Jvm.MethodName) prog_157_method_5_code (1 : Nat) (Option.some Jvm.ClassFile.FieldType.boolean)).before args0 about1 = true := code_word (m := ⟨3, 4⟩) (meth := k3m4) (c := k3c4) (by decide +kernel) rfl rfl rfl (by decide +kernel)
def codes1 : List Jvm.Cond := [Jvm.Cond.code x code maxLocals ret, Jvm.Cond.code ({ cls := "java/lang/Math", name := "min", desc := "(II)I" } : Jvm.MethodName) jdk_29_method_69_code (2 : Nat) (Option.some Jvm.ClassFile.FieldType.int), Jvm.Cond.code ({ cls := "com/example/epochwise/epochwise/server/Numbering", name := "<init>", desc := "(II)V" } : Jvm.MethodName) prog_157_method_2_code (3 : Nat) (Option.none : Option Jvm.ClassFile.FieldType), Jvm.Cond.code ({ cls := "java/lang/Object", name := "<init>", desc := "()V" } : Jvm.MethodName) object_method_1_code (1 : Nat) (Option.none : Option Jvm.ClassFile.FieldType), Jvm.Cond.code ({ cls := "com/example/epochwise/epochwise/server/Numbering", name := "take", desc := "()I" } : Jvm.MethodName) prog_157_method_3_code (1 : Nat) (Option.some Jvm.ClassFile.FieldType.int), Jvm.Cond.code ({ cls := "com/example/epochwise/epochwise/server/Numbering", name := "count", desc := "()I" } : Jvm.MethodName) prog_157_method_7_code (1 : Nat) (Option.some Jvm.ClassFile.FieldType.int), Jvm.Cond.code ({ cls := "com/example/epochwise/epochwise/server/Numbering", name := "give", desc := "(I)V" } : Jvm.MethodName) prog_157_method_4_code (2 : Nat) (Option.none : Option Jvm.ClassFile.FieldType), Jvm.Cond.code ({ cls := "com/example/epochwise/epochwise/server/Numbering", name := "runOut", desc := "()Z" } : Jvm.MethodName) prog_157_method_5_code (1 : Nat) (Option.some Jvm.ClassFile.FieldType.boolean)]
set_option maxRecDepth 65536 in
theorem codes_eq : words1.filter isCode = codes1 := rfl
theorem w_codes : ∀ c ∈ words1.filter isCode, c.before args0 about1 = true := by
  rw [codes_eq]
  intro c hc
  simp only [codes1, List.mem_cons, List.not_mem_nil, or_false] at hc
  rcases hc with rfl | rfl | rfl | rfl | rfl | rfl | rfl | rfl
  · exact w_c0
  · exact w_c1
  · exact w_c2
  · exact w_c3
  · exact w_c4
  · exact w_c5
  · exact w_c6
  · exact w_c7
set_option maxRecDepth 65536 in
theorem w_t1 : (words1.take 24).all (fun c => isCode c || c.before args0 about1) = true := by decide +kernel
set_option maxRecDepth 65536 in
theorem w_t2 : (words1.drop 24).all (fun c => isCode c || c.before args0 about1) = true := by decide +kernel
theorem w_tables : (allAtoms (Jvm.Cond.code x code maxLocals ret :: tables_1)).before args0 about1 = true := by
  rw [allAtoms_all]
  show words1.all (fun c => c.before args0 about1) = true
  refine all_split ?_ w_codes
  rw [← List.take_append_drop 24 words1, List.all_append, w_t1, w_t2]
  rfl
set_option maxRecDepth 65536 in
theorem w_case : (Jvm.Cond.and given_1 narrow_1).before args0 about1 = true := by decide +kernel
theorem w_applies : (headSpec (Jvm.Cond.code x code maxLocals ret :: tables_1) room_1).applies x e0.platform about1 = true :=
  (Spec.applies_iff w_frames).mpr ⟨w_running, w_runnable, w_alone, w_named, w_hears, w_ripe, w_room, w_tables⟩
theorem atStart : AtStart classFile x code maxLocals ret World_1 tables_1 room_1 Calls_1 rest_1 Pre_1 launch0 p0 e0 about1 theMethod args0 below0 :=
  ⟨lists_1, trivial, launch0.admits_env _ _ _, launch0.least_env, fairChoices_fair.cas, fairChoices_fair.clock, w_frames, w_args, w_heap, w_applies, trivial, trivial, w_case⟩
end start1
theorem witness_1 : WitnessClaimed_1 := ⟨start1.p0, start1.e0, start1.about1, start1.theMethod, start1.args0, start1.below0, start1.atStart⟩
end Jvm.Pilot.@@N@@
