import JvmDerived
import JvmDerived.Pilot.@@N@@Statement
import JvmDerived.Pilot.@@N@@Code
set_option linter.unusedVariables false
set_option linter.unusedSimpArgs false
namespace Jvm.Pilot.@@N@@
open Jvm Jvm.ClassFile Sem Op Lib Jvm.Free Jvm.Stand Jvm.LawKit Jvm.RoadKit Bundle Jvm.Pilot.@@N@@.Jvm.D
/-- what is left of a walk: from the frame g on, the run ends as K says -/
def own_G (p : Program) (e : Env) (below : List Frame) (s : State) (K : Option Value → Heap → List Loc → Prop) (nc ns : Nat) (T : State) (g : JFrame) : Prop :=
  ∃ s₂ o, Steps p.tables e below (T.setTop g) s₂ ∧ s₂.status = .running ∧ Ended s₂ below o ∧ ∃ v L, o = .returned v ∧ K v s₂.heap L ∧ FrameEnd s o s₂ L nc ns
section Own
variable {p : Program} {l : Launch} {e : Env} {R : Room} {s : State} {m : MethodId} {args : Array Value} {below : List Frame} {meth : Method} {c : Code} {T T' : State} {locs : List Loc} {cells slots : Nat} {K : Option Value → Heap → List Loc → Prop} {nc ns : Nat} {g g' : JFrame}
theorem own_s (h : ∀ t, Steps p.tables e below (T'.setTop g') t → Steps p.tables e below (T.setTop g) t) (k : own_G p e below s K nc ns T' g') : own_G p e below s K nc ns T g := by
  obtain ⟨s₂, o, h1, r⟩ := k
  exact ⟨s₂, o, h _ h1, r⟩
theorem own_trans (h : Steps p.tables e below (T.setTop g) (T'.setTop g')) (k : own_G p e below s K nc ns T' g') : own_G p e below s K nc ns T g := by
  obtain ⟨s₂, o, h1, r⟩ := k
  exact ⟨s₂, o, h.trans h1, r⟩
theorem own_cast (q : g = g') (k : own_G p e below s K nc ns T g') : own_G p e below s K nc ns T g := q ▸ k
theorem own_leave (X : Stand p l e R s m args below meth c T locs cells slots) {v : Option Value} (hlk : meth.locks = false) (hv : meth.sig.returnType = none → v = none) (hc : cells ≤ nc) (hn : slots ≤ ns) (hq : K v T.heap locs)
    (st : ∀ fs, (∀ (f : JFrame) (acts : List Action), f.method = m → f.locked = none → f.entered = [] → (doReturn e (T.setTop f) acts v).1 = T.setFrames fs) → Steps p.tables e below (T.setTop g) (T.setFrames fs)) : own_G p e below s K nc ns T g := by
  obtain ⟨fs, hr, hrun, hended, hW, hsame⟩ := X.leave (v := v) hv hlk
  exact ⟨_, _, st fs hr, hrun, hended, _, _, rfl, hq, ⟨_, rfl⟩, hW, hsame.mono hc hn⟩
theorem own_retN (X : Stand p l e R s m args below meth c T locs cells slots) (hx : p.tables.exec = Jvm.exec) (hlk : meth.locks = false) {pc : Nat} {Ls : Array Slot} {z z' : Int32} {t : FieldType} {rest : List Value} (hret : meth.sig.returnType = some t) (ht : t = .boolean ∨ t = .byte ∨ t = .char ∨ t = .short)
    (hd : decode c.code pc = .ok (.ireturn, 1)) (hz : nar t z = z') (hc : cells ≤ nc) (hn : slots ≤ ns) (hq : K (some (.int z')) T.heap locs) : own_G p e below s K nc ns T (mkF m pc Ls (.int z :: rest)) := by
  subst hz
  exact own_leave X hlk (fun h => by rw [hret] at h; cases h) hc hn hq fun fs hr => retN X hx hret ht hd hr
theorem own_retI (X : Stand p l e R s m args below meth c T locs cells slots) (hx : p.tables.exec = Jvm.exec) (hlk : meth.locks = false) {pc : Nat} {Ls : Array Slot} {z : Int32} {rest : List Value} (hret : meth.sig.returnType = some .int)
    (hd : decode c.code pc = .ok (.ireturn, 1)) (hc : cells ≤ nc) (hn : slots ≤ ns) (hq : K (some (.int z)) T.heap locs) : own_G p e below s K nc ns T (mkF m pc Ls (.int z :: rest)) :=
  own_leave X hlk (fun h => by rw [hret] at h; cases h) hc hn hq fun fs hr => retOut X hx hret rfl (Or.inl ⟨rfl, Or.inl rfl, _, rfl⟩) hd hr
theorem own_retJ (X : Stand p l e R s m args below meth c T locs cells slots) (hx : p.tables.exec = Jvm.exec) (hlk : meth.locks = false) {pc : Nat} {Ls : Array Slot} {z : Int64} {rest : List Value} (hret : meth.sig.returnType = some .long)
    (hd : decode c.code pc = .ok (.lreturn, 1)) (hc : cells ≤ nc) (hn : slots ≤ ns) (hq : K (some (.long z)) T.heap locs) : own_G p e below s K nc ns T (mkF m pc Ls (.long z :: rest)) :=
  own_leave X hlk (fun h => by rw [hret] at h; cases h) hc hn hq fun fs hr => retOut X hx hret rfl (Or.inr (Or.inl ⟨rfl, rfl, _, rfl⟩)) hd hr
theorem own_retR (X : Stand p l e R s m args below meth c T locs cells slots) (hx : p.tables.exec = Jvm.exec) (hlk : meth.locks = false) {pc : Nat} {Ls : Array Slot} {v : Value} {t : FieldType} {rest : List Value} (hret : meth.sig.returnType = some t) (ht : t.isReference = true) (hv : v.isRef = true) (hnv : narrow t v = v)
    (hd : decode c.code pc = .ok (.areturn, 1)) (hc : cells ≤ nc) (hn : slots ≤ ns) (hq : K (some v) T.heap locs) : own_G p e below s K nc ns T (mkF m pc Ls (v :: rest)) :=
  own_leave X hlk (fun h => by rw [hret] at h; cases h) hc hn hq fun fs hr => retOut X hx hret hnv (Or.inr (Or.inr (Or.inr (Or.inr ⟨rfl, ht, hv⟩)))) hd hr
theorem own_retV (X : Stand p l e R s m args below meth c T locs cells slots) (hx : p.tables.exec = Jvm.exec) (hlk : meth.locks = false) {pc : Nat} {Ls : Array Slot} (hret : meth.sig.returnType = none)
    (hd : decode c.code pc = .ok (.return_, 1)) (hc : cells ≤ nc) (hn : slots ≤ ns) (hq : K none T.heap locs) : own_G p e below s K nc ns T (mkF m pc Ls []) :=
  own_leave X hlk (fun _ => rfl) hc hn hq fun fs hr => X.returnOut hx hret hd hr
theorem own_selp {s : State} {args : Array Value} {y : MethodName} {n : Nat} (wi : (Jvm.Cond.instantiable y.cls n).before args s = true) (hp : (Jvm.Cond.privateMethod y).before args s = true) (hi : (Jvm.Cond.instanceMethod y).before args s = true)
    (hy : y.cls ≠ "java/lang/invoke/MethodHandle" ∧ y.cls ≠ "java/lang/invoke/VarHandle") : (Jvm.Cond.selects y.cls y y).before args s = true := by
  obtain ⟨c, k, h1, h2, h3, h4, -⟩ := Cond.instantiable_spec wi
  exact Jvm.Stand.selects_self_of_private h1 h2 (Bool.or_eq_false_iff.mp h4).1 (Cond.privateMethod_at hp) hi hy
theorem own_miss {k : Int32} (i : Int) (n : Int32) (e : n.toInt = i) (hc : ¬ k = n) : i ≠ k.toInt := fun h => hc (Int32.toInt_inj.mp (h.symm.trans e.symm))
theorem own_posI {x : Int32} (h : (0 : Int32) < x) : x ≠ 0 := fun q => by rw [q] at h; exact absurd h (by decide)
theorem own_posJ {x : Int64} (h : (0 : Int64) < x) : x ≠ 0 := fun q => by rw [q] at h; exact absurd h (by decide)
theorem own_asI {x y : Int32} (h : y < x) : ¬ x < y := fun q => Int32.lt_irrefl (Int32.lt_trans h q)
theorem own_asJ {x y : Int64} (h : y < x) : ¬ x < y := fun q => Int64.lt_irrefl (Int64.lt_trans h q)
theorem own_eqltI {x y : Int32} (h : x = y) : ¬ x < y := fun q => by rw [h] at q; exact Int32.lt_irrefl q
theorem own_eqltJ {x y : Int64} (h : x = y) : ¬ x < y := fun q => by rw [h] at q; exact Int64.lt_irrefl q
theorem own_triI {x y : Int32} (h : ¬ x = y) (q : ¬ y < x) : x < y := by
  rw [Int32.lt_iff_toInt_lt] at *
  rw [← Int32.toInt_inj] at h
  omega
theorem own_triJ {x y : Int64} (h : ¬ x = y) (q : ¬ y < x) : x < y := by
  rw [Int64.lt_iff_toInt_lt] at *
  rw [← Int64.toInt_inj] at h
  omega
theorem own_ltneI {x y : Int32} (h : x < y) : ¬ x = y := fun q => by rw [q] at h; exact Int32.lt_irrefl h
theorem own_ltneJ {x y : Int64} (h : x < y) : ¬ x = y := fun q => by rw [q] at h; exact Int64.lt_irrefl h
theorem own_ltne'I {x y : Int32} (h : y < x) : ¬ x = y := fun q => by rw [q] at h; exact Int32.lt_irrefl h
theorem own_ltne'J {x y : Int64} (h : y < x) : ¬ x = y := fun q => by rw [q] at h; exact Int64.lt_irrefl h
theorem own_nnI {x y : Int32} (h : ¬ x < y) (q : ¬ y < x) : x = y := by
  rw [Int32.lt_iff_toInt_lt] at *
  rw [← Int32.toInt_inj]
  omega
theorem own_nnJ {x y : Int64} (h : ¬ x < y) (q : ¬ y < x) : x = y := by
  rw [Int64.lt_iff_toInt_lt] at *
  rw [← Int64.toInt_inj]
  omega
end Own
theorem d3_0 : decode prog_62_method_1_code 0 = .ok (.aload_n 0, 1) := by decide +kernel
theorem d3_1 : decode prog_62_method_1_code 1 = .ok (.invokespecial 3, 3) := by decide +kernel
theorem d3_4 : decode prog_62_method_1_code 4 = .ok (.return_, 1) := by decide +kernel
theorem pn_com_example_forkstream_forkstream_WordGenerator : plainName "com/example/forkstream/forkstream/WordGenerator" = true := by first | (simp [plainName, overriddenIn]; done) | decide +kernel
theorem ef_3 (m : MethodId) (a3_0 : Addr) : entryFrame m #[(.ref a3_0)] 1 = mkF m 0 #[.val (.ref a3_0)] [] := by first | (simp [entryFrame, mkF, argsToLocals, Value.category]; done) | rfl
def Q3 (Z : State) (a3_0 : Addr) (h0 : Heap) (n0 : Nat) (v : Option Value) (h : Heap) (L : List Loc) : Prop := v = none ∧ Fr n0 L ∧ h = h0
set_option maxRecDepth 65536 in
set_option maxHeartbeats 40000000 in
theorem rm3 (l : Launch) (Z : State) (a0 : Array Value) (hw : ∀ d ∈ tables_1, d.before a0 Z = true) (ws : List Jvm.Cond) (a3_0 : Addr) (h0 : Heap) (n0 : Nat) (Z0 : n0 ≤ h0.size) :
    MetFree l (⟨"com/example/forkstream/forkstream/WordGenerator", "<init>", "()V"⟩ : MethodName) (head1 (Jvm.Cond.code (⟨"com/example/forkstream/forkstream/WordGenerator", "<init>", "()V"⟩ : MethodName) prog_62_method_1_code 1 none :: ws) ({ frames := 1, cells := 0, slots := 0, locals := 12 } : Room)) (fun a U => a = #[(.ref a3_0)] ∧ Z.Warmed39 U.vm ∧ U.heap = h0) (fun _ _ _ _ _ => True) (fun _ U o U' => ∃ v L, o = .returned v ∧ Q3 Z a3_0 h0 n0 v U'.heap L ∧ FrameEnd U o U' L ({ frames := 1, cells := 0, slots := 0, locals := 12 } : Room).cells ({ frames := 1, cells := 0, slots := 0, locals := 12 } : Room).slots) := by
  refine MetFree.of_bodySF (plainFor_of_name pn_com_example_forkstream_forkstream_WordGenerator) hisR ?_
  intro p e s m args below meth c s₁ Bd hml0 hP hK
  obtain ⟨rfl, hZ, hh⟩ := hP
  have hx := Bd.exec
  have hby := Bd.bytes
  have hlk := Bd.notSynchronized
  have hret := Bd.returns
  have hml : c.maxLocals = 1 := hml0
  have hown : s.vm.findClass "com/example/forkstream/forkstream/WordGenerator" = some m.cls := findClass_of_methodNamed Bd.named
  have hnm := (name_of_methodNamed Bd.named Bd.method).1
  have X0 : Stand p l e ({ frames := 1, cells := 0, slots := 0, locals := 12 } : Room) s m #[(.ref a3_0)] below meth c s₁ [] 0 0 := Stand.of_body Bd
  have e0 : s₁.heap = h0 := by rw [← hh, Bd.state]; rfl
  have N0 := Fr.nil n0
  have K0 : Keep h0 h0 [] := Keep.refl _ _
  show own_G p e below s (Q3 Z a3_0 h0 n0) ({ frames := 1, cells := 0, slots := 0, locals := 12 } : Room).cells ({ frames := 1, cells := 0, slots := 0, locals := 12 } : Room).slots s₁ (entryFrame m #[(.ref a3_0)] 1)
  have ww16 := hw _ (List.mem_of_getElem? (i := 16) rfl)
  have ww17 := hw _ (List.mem_of_getElem? (i := 17) rfl)
  have ww18 := hw _ (List.mem_of_getElem? (i := 18) rfl)
  refine own_cast (ef_3 m a3_0) ?_
  refine own_s (g' := (mkF m 1 #[.val (.ref a3_0)] [(.ref a3_0)])) (fun _ k => XS.aloadN X0.here hx rfl (hb hby d3_0) rfl rfl k) ?_
  obtain ⟨T1, X1, e1, st1⟩ := initO X0 hx hZ hown ww16 ww17 ww18 e0 (g := (mkF m 1 #[.val (.ref a3_0)] [(.ref a3_0)])) rfl (by rw [hml]; rfl) rfl (hb hby d3_1) (by decide) (W := 0) (by show 2 * 0 + _ ≤ _; exact Nat.le_of_eq rfl) (by decide)
  refine own_s (g' := (mkF m 4 #[.val (.ref a3_0)] [])) st1 ?_
  refine own_retV X1 hx hlk hret (hb hby d3_4) (by decide) (by decide) ?_
  show Q3 Z a3_0 h0 n0 _ T1.heap _
  rw [e1]
  exact ⟨rfl, N0, rfl⟩
theorem pd___V : parseMethodDescriptor "()V" = some ⟨[], none⟩ := by decide +kernel
theorem d2_0 : decode prog_40_method_1_code 0 = .ok (.aload_n 0, 1) := by decide +kernel
theorem d2_1 : decode prog_40_method_1_code 1 = .ok (.invokespecial 1, 3) := by decide +kernel
theorem d2_4 : decode prog_40_method_1_code 4 = .ok (.return_, 1) := by decide +kernel
theorem pn_com_example_forkstream_forkstream_SplittableWordGenerator : plainName "com/example/forkstream/forkstream/SplittableWordGenerator" = true := by first | (simp [plainName, overriddenIn]; done) | decide +kernel
theorem ef_2 (m : MethodId) (a2_0 : Addr) : entryFrame m #[(.ref a2_0)] 1 = mkF m 0 #[.val (.ref a2_0)] [] := by first | (simp [entryFrame, mkF, argsToLocals, Value.category]; done) | rfl
def Q2 (Z : State) (a2_0 : Addr) (h0 : Heap) (n0 : Nat) (v : Option Value) (h : Heap) (L : List Loc) : Prop := v = none ∧ Fr n0 L ∧ h = h0
set_option maxRecDepth 65536 in
set_option maxHeartbeats 40000000 in
theorem rm2 (l : Launch) (Z : State) (a0 : Array Value) (hw : ∀ d ∈ tables_1, d.before a0 Z = true) (ws : List Jvm.Cond) (a2_0 : Addr) (h0 : Heap) (n0 : Nat) (Z0 : n0 ≤ h0.size) :
    MetFree l (⟨"com/example/forkstream/forkstream/SplittableWordGenerator", "<init>", "()V"⟩ : MethodName) (head1 (Jvm.Cond.code (⟨"com/example/forkstream/forkstream/SplittableWordGenerator", "<init>", "()V"⟩ : MethodName) prog_40_method_1_code 1 none :: ws) ({ frames := 2, cells := 0, slots := 0, locals := 24 } : Room)) (fun a U => a = #[(.ref a2_0)] ∧ Z.Warmed39 U.vm ∧ U.heap = h0) (fun _ _ _ _ _ => True) (fun _ U o U' => ∃ v L, o = .returned v ∧ Q2 Z a2_0 h0 n0 v U'.heap L ∧ FrameEnd U o U' L ({ frames := 2, cells := 0, slots := 0, locals := 24 } : Room).cells ({ frames := 2, cells := 0, slots := 0, locals := 24 } : Room).slots) := by
  refine MetFree.of_bodySF (plainFor_of_name pn_com_example_forkstream_forkstream_SplittableWordGenerator) hisR ?_
  intro p e s m args below meth c s₁ Bd hml0 hP hK
  obtain ⟨rfl, hZ, hh⟩ := hP
  have hx := Bd.exec
  have hby := Bd.bytes
  have hlk := Bd.notSynchronized
  have hret := Bd.returns
  have hml : c.maxLocals = 1 := hml0
  have hown : s.vm.findClass "com/example/forkstream/forkstream/SplittableWordGenerator" = some m.cls := findClass_of_methodNamed Bd.named
  have hnm := (name_of_methodNamed Bd.named Bd.method).1
  have X0 : Stand p l e ({ frames := 2, cells := 0, slots := 0, locals := 24 } : Room) s m #[(.ref a2_0)] below meth c s₁ [] 0 0 := Stand.of_body Bd
  have e0 : s₁.heap = h0 := by rw [← hh, Bd.state]; rfl
  have N0 := Fr.nil n0
  have K0 : Keep h0 h0 [] := Keep.refl _ _
  show own_G p e below s (Q2 Z a2_0 h0 n0) ({ frames := 2, cells := 0, slots := 0, locals := 24 } : Room).cells ({ frames := 2, cells := 0, slots := 0, locals := 24 } : Room).slots s₁ (entryFrame m #[(.ref a2_0)] 1)
  have ww11 := hw _ (List.mem_of_getElem? (i := 11) rfl)
  have ww12 := hw _ (List.mem_of_getElem? (i := 12) rfl)
  have ww14 := hw _ (List.mem_of_getElem? (i := 14) rfl)
  have ww15 := hw _ (List.mem_of_getElem? (i := 15) rfl)
  refine own_cast (ef_2 m a2_0) ?_
  refine own_s (g' := (mkF m 1 #[.val (.ref a2_0)] [(.ref a2_0)])) (fun _ k => XS.aloadN X0.here hx rfl (hb hby d2_0) rfl rfl k) ?_
  obtain ⟨_, _, ⟨T2, L2, k2, n2⟩, -, X2, ⟨Lc2, hQ2, l2, y2, z2⟩, st2⟩ := X0.specialBack hx (y := (⟨"com/example/forkstream/forkstream/WordGenerator", "<init>", "()V"⟩ : MethodName)) rfl hown (mvT hZ ww11) (mvT hZ ww12) (mvT hZ ww15) (by decide) (backOf (W := 0) (rm3 l Z a0 hw [] a2_0 h0 n0 Z0 ) hZ ww15 ww14 (by decide) (by decide)) (g := (mkF m 1 #[.val (.ref a2_0)] [(.ref a2_0)])) rfl (by rw [hml]; rfl) (Steps.refl _) (a := a2_0) (argsL := []) (rest := []) (lenOf pd___V rfl) rfl (by show 2 * 0 + _ ≤ _; exact Nat.le_of_eq rfl) (hb hby d2_1) (fun _ _ => ⟨rfl, e0, (by decide : 0 + 0 ≤ _), (by decide : 0 + 0 ≤ _)⟩)
  dsimp only [Pt.U, Pt.locs, Pt.cells, Pt.slots] at X2 l2 y2 z2 st2 hQ2
  subst l2 y2 z2
  obtain ⟨rfl, N2q, eh2⟩ := hQ2
  have N2 := Fr.app N0 N2q
  refine own_trans (g' := (mkF m 4 #[.val (.ref a2_0)] [])) st2 ?_
  refine own_retV X2 hx hlk hret (hb hby d2_4) (by decide) (by decide) ?_
  show Q2 Z a2_0 h0 n0 _ T2.heap _
  rw [eh2]
  exact ⟨rfl, N2, rfl⟩
theorem own_sn_22_20 {Z : State} {a0 : Array Value} (hw : ∀ d ∈ tables_1, d.before a0 Z = true) : Jvm.RoadKit.slotOf Z "com/example/forkstream/forkstream/TwinLinear" "s2" "J" ≠ Jvm.RoadKit.slotOf Z "com/example/forkstream/forkstream/TwinLinear" "s1" "J" := slot_ne (Or.inl (hw _ (List.mem_of_getElem? (i := 22) rfl))) (Or.inl (hw _ (List.mem_of_getElem? (i := 20) rfl))) (by decide +kernel) (t := .long) (t' := .long) (by decide +kernel) (by decide +kernel)
theorem own_sn_24_20 {Z : State} {a0 : Array Value} (hw : ∀ d ∈ tables_1, d.before a0 Z = true) : Jvm.RoadKit.slotOf Z "com/example/forkstream/forkstream/TwinLinear" "g1" "J" ≠ Jvm.RoadKit.slotOf Z "com/example/forkstream/forkstream/TwinLinear" "s1" "J" := slot_ne (Or.inr (hw _ (List.mem_of_getElem? (i := 24) rfl))) (Or.inl (hw _ (List.mem_of_getElem? (i := 20) rfl))) (by decide +kernel) (t := .long) (t' := .long) (by decide +kernel) (by decide +kernel)
theorem own_sn_24_22 {Z : State} {a0 : Array Value} (hw : ∀ d ∈ tables_1, d.before a0 Z = true) : Jvm.RoadKit.slotOf Z "com/example/forkstream/forkstream/TwinLinear" "g1" "J" ≠ Jvm.RoadKit.slotOf Z "com/example/forkstream/forkstream/TwinLinear" "s2" "J" := slot_ne (Or.inr (hw _ (List.mem_of_getElem? (i := 24) rfl))) (Or.inl (hw _ (List.mem_of_getElem? (i := 22) rfl))) (by decide +kernel) (t := .long) (t' := .long) (by decide +kernel) (by decide +kernel)
theorem own_sn_26_20 {Z : State} {a0 : Array Value} (hw : ∀ d ∈ tables_1, d.before a0 Z = true) : Jvm.RoadKit.slotOf Z "com/example/forkstream/forkstream/TwinLinear" "g2" "J" ≠ Jvm.RoadKit.slotOf Z "com/example/forkstream/forkstream/TwinLinear" "s1" "J" := slot_ne (Or.inr (hw _ (List.mem_of_getElem? (i := 26) rfl))) (Or.inl (hw _ (List.mem_of_getElem? (i := 20) rfl))) (by decide +kernel) (t := .long) (t' := .long) (by decide +kernel) (by decide +kernel)
theorem own_sn_26_22 {Z : State} {a0 : Array Value} (hw : ∀ d ∈ tables_1, d.before a0 Z = true) : Jvm.RoadKit.slotOf Z "com/example/forkstream/forkstream/TwinLinear" "g2" "J" ≠ Jvm.RoadKit.slotOf Z "com/example/forkstream/forkstream/TwinLinear" "s2" "J" := slot_ne (Or.inr (hw _ (List.mem_of_getElem? (i := 26) rfl))) (Or.inl (hw _ (List.mem_of_getElem? (i := 22) rfl))) (by decide +kernel) (t := .long) (t' := .long) (by decide +kernel) (by decide +kernel)
theorem own_sn_26_24 {Z : State} {a0 : Array Value} (hw : ∀ d ∈ tables_1, d.before a0 Z = true) : Jvm.RoadKit.slotOf Z "com/example/forkstream/forkstream/TwinLinear" "g2" "J" ≠ Jvm.RoadKit.slotOf Z "com/example/forkstream/forkstream/TwinLinear" "g1" "J" := slot_ne (Or.inr (hw _ (List.mem_of_getElem? (i := 26) rfl))) (Or.inr (hw _ (List.mem_of_getElem? (i := 24) rfl))) (by decide +kernel) (t := .long) (t' := .long) (by decide +kernel) (by decide +kernel)
theorem own_sn_20_22 {Z : State} {a0 : Array Value} (hw : ∀ d ∈ tables_1, d.before a0 Z = true) : Jvm.RoadKit.slotOf Z "com/example/forkstream/forkstream/TwinLinear" "s1" "J" ≠ Jvm.RoadKit.slotOf Z "com/example/forkstream/forkstream/TwinLinear" "s2" "J" := slot_ne (Or.inl (hw _ (List.mem_of_getElem? (i := 20) rfl))) (Or.inl (hw _ (List.mem_of_getElem? (i := 22) rfl))) (by decide +kernel) (t := .long) (t' := .long) (by decide +kernel) (by decide +kernel)
theorem own_sn_20_24 {Z : State} {a0 : Array Value} (hw : ∀ d ∈ tables_1, d.before a0 Z = true) : Jvm.RoadKit.slotOf Z "com/example/forkstream/forkstream/TwinLinear" "s1" "J" ≠ Jvm.RoadKit.slotOf Z "com/example/forkstream/forkstream/TwinLinear" "g1" "J" := slot_ne (Or.inl (hw _ (List.mem_of_getElem? (i := 20) rfl))) (Or.inr (hw _ (List.mem_of_getElem? (i := 24) rfl))) (by decide +kernel) (t := .long) (t' := .long) (by decide +kernel) (by decide +kernel)
theorem own_sn_20_26 {Z : State} {a0 : Array Value} (hw : ∀ d ∈ tables_1, d.before a0 Z = true) : Jvm.RoadKit.slotOf Z "com/example/forkstream/forkstream/TwinLinear" "s1" "J" ≠ Jvm.RoadKit.slotOf Z "com/example/forkstream/forkstream/TwinLinear" "g2" "J" := slot_ne (Or.inl (hw _ (List.mem_of_getElem? (i := 20) rfl))) (Or.inr (hw _ (List.mem_of_getElem? (i := 26) rfl))) (by decide +kernel) (t := .long) (t' := .long) (by decide +kernel) (by decide +kernel)
theorem own_sn_22_24 {Z : State} {a0 : Array Value} (hw : ∀ d ∈ tables_1, d.before a0 Z = true) : Jvm.RoadKit.slotOf Z "com/example/forkstream/forkstream/TwinLinear" "s2" "J" ≠ Jvm.RoadKit.slotOf Z "com/example/forkstream/forkstream/TwinLinear" "g1" "J" := slot_ne (Or.inl (hw _ (List.mem_of_getElem? (i := 22) rfl))) (Or.inr (hw _ (List.mem_of_getElem? (i := 24) rfl))) (by decide +kernel) (t := .long) (t' := .long) (by decide +kernel) (by decide +kernel)
theorem own_sn_22_26 {Z : State} {a0 : Array Value} (hw : ∀ d ∈ tables_1, d.before a0 Z = true) : Jvm.RoadKit.slotOf Z "com/example/forkstream/forkstream/TwinLinear" "s2" "J" ≠ Jvm.RoadKit.slotOf Z "com/example/forkstream/forkstream/TwinLinear" "g2" "J" := slot_ne (Or.inl (hw _ (List.mem_of_getElem? (i := 22) rfl))) (Or.inr (hw _ (List.mem_of_getElem? (i := 26) rfl))) (by decide +kernel) (t := .long) (t' := .long) (by decide +kernel) (by decide +kernel)
theorem own_sn_24_26 {Z : State} {a0 : Array Value} (hw : ∀ d ∈ tables_1, d.before a0 Z = true) : Jvm.RoadKit.slotOf Z "com/example/forkstream/forkstream/TwinLinear" "g1" "J" ≠ Jvm.RoadKit.slotOf Z "com/example/forkstream/forkstream/TwinLinear" "g2" "J" := slot_ne (Or.inr (hw _ (List.mem_of_getElem? (i := 24) rfl))) (Or.inr (hw _ (List.mem_of_getElem? (i := 26) rfl))) (by decide +kernel) (t := .long) (t' := .long) (by decide +kernel) (by decide +kernel)
theorem d1_0 : decode prog_50_method_1_code 0 = .ok (.aload_n 0, 1) := by decide +kernel
theorem d1_1 : decode prog_50_method_1_code 1 = .ok (.invokespecial 1, 3) := by decide +kernel
theorem d1_4 : decode prog_50_method_1_code 4 = .ok (.aload_n 0, 1) := by decide +kernel
theorem d1_5 : decode prog_50_method_1_code 5 = .ok (.lload_n 1, 1) := by decide +kernel
theorem d1_6 : decode prog_50_method_1_code 6 = .ok (.putfield 7, 3) := by decide +kernel
theorem d1_9 : decode prog_50_method_1_code 9 = .ok (.aload_n 0, 1) := by decide +kernel
theorem d1_10 : decode prog_50_method_1_code 10 = .ok (.lload_n 3, 1) := by decide +kernel
theorem d1_11 : decode prog_50_method_1_code 11 = .ok (.putfield 13, 3) := by decide +kernel
theorem d1_14 : decode prog_50_method_1_code 14 = .ok (.aload_n 0, 1) := by decide +kernel
theorem d1_15 : decode prog_50_method_1_code 15 = .ok (.lload 5, 2) := by decide +kernel
theorem d1_17 : decode prog_50_method_1_code 17 = .ok (.lconst 1, 1) := by decide +kernel
theorem d1_18 : decode prog_50_method_1_code 18 = .ok (.lor, 1) := by decide +kernel
theorem d1_19 : decode prog_50_method_1_code 19 = .ok (.putfield 16, 3) := by decide +kernel
theorem d1_22 : decode prog_50_method_1_code 22 = .ok (.aload_n 0, 1) := by decide +kernel
theorem d1_23 : decode prog_50_method_1_code 23 = .ok (.lload 7, 2) := by decide +kernel
theorem d1_25 : decode prog_50_method_1_code 25 = .ok (.lconst 1, 1) := by decide +kernel
theorem d1_26 : decode prog_50_method_1_code 26 = .ok (.lor, 1) := by decide +kernel
theorem d1_27 : decode prog_50_method_1_code 27 = .ok (.putfield 19, 3) := by decide +kernel
theorem d1_30 : decode prog_50_method_1_code 30 = .ok (.return_, 1) := by decide +kernel
theorem pn_com_example_forkstream_forkstream_TwinLinear : plainName "com/example/forkstream/forkstream/TwinLinear" = true := by first | (simp [plainName, overriddenIn]; done) | decide +kernel
theorem ef_1 (m : MethodId) (a1_0 : Addr) (q1_1 : Int64) (q1_2 : Int64) (q1_3 : Int64) (q1_4 : Int64) : entryFrame m #[(.ref a1_0), (.long q1_1), (.long q1_2), (.long q1_3), (.long q1_4)] 9 = mkF m 0 #[.val (.ref a1_0), .val (.long q1_1), .second, .val (.long q1_2), .second, .val (.long q1_3), .second, .val (.long q1_4), .second] [] := by first | (simp [entryFrame, mkF, argsToLocals, Value.category]; done) | rfl
def Q1 (Z : State) (a1_0 : Addr) (q1_1 : Int64) (q1_2 : Int64) (q1_3 : Int64) (q1_4 : Int64) (v1_s1 : Int64) (v1_s2 : Int64) (v1_g1 : Int64) (v1_g2 : Int64) (h0 : Heap) (n0 : Nat) (v : Option Value) (h : Heap) (L : List Loc) : Prop := v = none ∧ Fr n0 L ∧ Keep h0 h [a1_0] ∧ Exa Z h a1_0 "com/example/forkstream/forkstream/TwinLinear" ∧ Fld Z h a1_0 "com/example/forkstream/forkstream/TwinLinear" "s1" "J" (.long q1_1) ∧ Fld Z h a1_0 "com/example/forkstream/forkstream/TwinLinear" "s2" "J" (.long q1_2) ∧ Fld Z h a1_0 "com/example/forkstream/forkstream/TwinLinear" "g1" "J" (.long (q1_3 ||| (1 : Int64))) ∧ Fld Z h a1_0 "com/example/forkstream/forkstream/TwinLinear" "g2" "J" (.long (q1_4 ||| (1 : Int64)))
set_option maxRecDepth 65536 in
set_option maxHeartbeats 40000000 in
theorem rm1 (l : Launch) (Z : State) (a0 : Array Value) (hw : ∀ d ∈ tables_1, d.before a0 Z = true) (ws : List Jvm.Cond) (a1_0 : Addr) (q1_1 : Int64) (q1_2 : Int64) (q1_3 : Int64) (q1_4 : Int64) (v1_s1 : Int64) (v1_s2 : Int64) (v1_g1 : Int64) (v1_g2 : Int64) (h0 : Heap) (n0 : Nat) (Z0 : n0 ≤ h0.size) (F_s1_a1_0 : Fld Z h0 a1_0 "com/example/forkstream/forkstream/TwinLinear" "s1" "J" (.long v1_s1)) (F_s2_a1_0 : Fld Z h0 a1_0 "com/example/forkstream/forkstream/TwinLinear" "s2" "J" (.long v1_s2)) (F_g1_a1_0 : Fld Z h0 a1_0 "com/example/forkstream/forkstream/TwinLinear" "g1" "J" (.long v1_g1)) (F_g2_a1_0 : Fld Z h0 a1_0 "com/example/forkstream/forkstream/TwinLinear" "g2" "J" (.long v1_g2)) (E_a1_0 : Exa Z h0 a1_0 "com/example/forkstream/forkstream/TwinLinear") (g_a1_0 : n0 ≤ a1_0) :
    MetFree l (⟨"com/example/forkstream/forkstream/TwinLinear", "<init>", "(JJJJ)V"⟩ : MethodName) (head1 (Jvm.Cond.code (⟨"com/example/forkstream/forkstream/TwinLinear", "<init>", "(JJJJ)V"⟩ : MethodName) prog_50_method_1_code 9 none :: ws) ({ frames := 3, cells := 0, slots := 0, locals := 36 } : Room)) (fun a U => a = #[(.ref a1_0), (.long q1_1), (.long q1_2), (.long q1_3), (.long q1_4)] ∧ Z.Warmed39 U.vm ∧ U.heap = h0) (fun _ _ _ _ _ => True) (fun _ U o U' => ∃ v L, o = .returned v ∧ Q1 Z a1_0 q1_1 q1_2 q1_3 q1_4 v1_s1 v1_s2 v1_g1 v1_g2 h0 n0 v U'.heap L ∧ FrameEnd U o U' L ({ frames := 3, cells := 0, slots := 0, locals := 36 } : Room).cells ({ frames := 3, cells := 0, slots := 0, locals := 36 } : Room).slots) := by
  refine MetFree.of_bodySF (plainFor_of_name pn_com_example_forkstream_forkstream_TwinLinear) hisR ?_
  intro p e s m args below meth c s₁ Bd hml0 hP hK
  obtain ⟨rfl, hZ, hh⟩ := hP
  have hx := Bd.exec
  have hby := Bd.bytes
  have hlk := Bd.notSynchronized
  have hret := Bd.returns
  have hml : c.maxLocals = 9 := hml0
  have hown : s.vm.findClass "com/example/forkstream/forkstream/TwinLinear" = some m.cls := findClass_of_methodNamed Bd.named
  have hnm := (name_of_methodNamed Bd.named Bd.method).1
  have X0 : Stand p l e ({ frames := 3, cells := 0, slots := 0, locals := 36 } : Room) s m #[(.ref a1_0), (.long q1_1), (.long q1_2), (.long q1_3), (.long q1_4)] below meth c s₁ [] 0 0 := Stand.of_body Bd
  have e0 : s₁.heap = h0 := by rw [← hh, Bd.state]; rfl
  have N0 := Fr.nil n0
  have K0 : Keep h0 h0 [a1_0] := Keep.refl _ _
  show own_G p e below s (Q1 Z a1_0 q1_1 q1_2 q1_3 q1_4 v1_s1 v1_s2 v1_g1 v1_g2 h0 n0) ({ frames := 3, cells := 0, slots := 0, locals := 36 } : Room).cells ({ frames := 3, cells := 0, slots := 0, locals := 36 } : Room).slots s₁ (entryFrame m #[(.ref a1_0), (.long q1_1), (.long q1_2), (.long q1_3), (.long q1_4)] 9)
  have ww1 := hw _ (List.mem_of_getElem? (i := 1) rfl)
  have ww6 := hw _ (List.mem_of_getElem? (i := 6) rfl)
  have ww7 := hw _ (List.mem_of_getElem? (i := 7) rfl)
  have ww9 := hw _ (List.mem_of_getElem? (i := 9) rfl)
  have ww10 := hw _ (List.mem_of_getElem? (i := 10) rfl)
  have ww19 := hw _ (List.mem_of_getElem? (i := 19) rfl)
  have ww20 := hw _ (List.mem_of_getElem? (i := 20) rfl)
  have ww21 := hw _ (List.mem_of_getElem? (i := 21) rfl)
  have ww22 := hw _ (List.mem_of_getElem? (i := 22) rfl)
  have ww23 := hw _ (List.mem_of_getElem? (i := 23) rfl)
  have ww24 := hw _ (List.mem_of_getElem? (i := 24) rfl)
  have ww25 := hw _ (List.mem_of_getElem? (i := 25) rfl)
  have ww26 := hw _ (List.mem_of_getElem? (i := 26) rfl)
  refine own_cast (ef_1 m a1_0 q1_1 q1_2 q1_3 q1_4) ?_
  refine own_s (g' := (mkF m 1 #[.val (.ref a1_0), .val (.long q1_1), .second, .val (.long q1_2), .second, .val (.long q1_3), .second, .val (.long q1_4), .second] [(.ref a1_0)])) (fun _ k => XS.aloadN X0.here hx rfl (hb hby d1_0) rfl rfl k) ?_
  obtain ⟨_, _, ⟨T3, L3, k3, n3⟩, -, X3, ⟨Lc3, hQ3, l3, y3, z3⟩, st3⟩ := X0.specialBack hx (y := (⟨"com/example/forkstream/forkstream/SplittableWordGenerator", "<init>", "()V"⟩ : MethodName)) rfl hown (mvT hZ ww6) (mvT hZ ww7) (mvT hZ ww10) (by decide) (backOf (W := 0) (rm2 l Z a0 hw [] a1_0 h0 n0 Z0 ) hZ ww10 ww9 (by decide) (by decide)) (g := (mkF m 1 #[.val (.ref a1_0), .val (.long q1_1), .second, .val (.long q1_2), .second, .val (.long q1_3), .second, .val (.long q1_4), .second] [(.ref a1_0)])) rfl (by rw [hml]; rfl) (Steps.refl _) (a := a1_0) (argsL := []) (rest := []) (lenOf pd___V rfl) rfl (by show 2 * 0 + _ ≤ _; exact Nat.le_of_eq rfl) (hb hby d1_1) (fun _ _ => ⟨rfl, e0, (by decide : 0 + 0 ≤ _), (by decide : 0 + 0 ≤ _)⟩)
  dsimp only [Pt.U, Pt.locs, Pt.cells, Pt.slots] at X3 l3 y3 z3 st3 hQ3
  subst l3 y3 z3
  obtain ⟨rfl, N3q, eh3⟩ := hQ3
  have N3 := Fr.app N0 N3q
  refine own_trans (g' := (mkF m 4 #[.val (.ref a1_0), .val (.long q1_1), .second, .val (.long q1_2), .second, .val (.long q1_3), .second, .val (.long q1_4), .second] [])) st3 ?_
  refine own_s (g' := (mkF m 5 #[.val (.ref a1_0), .val (.long q1_1), .second, .val (.long q1_2), .second, .val (.long q1_3), .second, .val (.long q1_4), .second] [(.ref a1_0)])) (fun _ k => XS.aloadN X3.here hx rfl (hb hby d1_4) rfl rfl k) ?_
  refine own_s (g' := (mkF m 6 #[.val (.ref a1_0), .val (.long q1_1), .second, .val (.long q1_2), .second, .val (.long q1_3), .second, .val (.long q1_4), .second] [(.long q1_1), (.ref a1_0)])) (fun _ k => XS.lloadN X3.here hx rfl (hb hby d1_5) rfl k) ?_
  obtain ⟨T4, h4, X4, e4, W4, st4⟩ := putF X3 hx hZ hown (host := "") (Or.inl ww19) Via.refl eh3 F_s1_a1_0 E_a1_0 (Or.inl ww20) ww1 (ty := .long) (by decide +kernel) rfl rfl (g := (mkF m 6 #[.val (.ref a1_0), .val (.long q1_1), .second, .val (.long q1_2), .second, .val (.long q1_3), .second, .val (.long q1_4), .second] [(.long q1_1), (.ref a1_0)])) rfl rfl (hb hby d1_6)
  have f5 := F_s1_a1_0.same W4
  have K4 := K0.wr W4 (Or.inl (List.mem_of_getElem? (i := 0) rfl))
  have N4 := Fr.snoc X4 N3 g_a1_0
  refine own_s (g' := (mkF m 9 #[.val (.ref a1_0), .val (.long q1_1), .second, .val (.long q1_2), .second, .val (.long q1_3), .second, .val (.long q1_4), .second] [])) st4 ?_
  refine own_s (g' := (mkF m 10 #[.val (.ref a1_0), .val (.long q1_1), .second, .val (.long q1_2), .second, .val (.long q1_3), .second, .val (.long q1_4), .second] [(.ref a1_0)])) (fun _ k => XS.aloadN X4.here hx rfl (hb hby d1_9) rfl rfl k) ?_
  refine own_s (g' := (mkF m 11 #[.val (.ref a1_0), .val (.long q1_1), .second, .val (.long q1_2), .second, .val (.long q1_3), .second, .val (.long q1_4), .second] [(.long q1_2), (.ref a1_0)])) (fun _ k => XS.lloadN X4.here hx rfl (hb hby d1_10) rfl k) ?_
  have f6 := (E_a1_0.wr W4)
  have f7 := (F_s2_a1_0.other W4 (Or.inr (own_sn_22_20 hw)))
  obtain ⟨T8, h8, X8, e8, W8, st8⟩ := putF X4 hx hZ hown (host := "") (Or.inl ww21) Via.refl e4 f7 f6 (Or.inl ww22) ww1 (ty := .long) (by decide +kernel) rfl rfl (g := (mkF m 11 #[.val (.ref a1_0), .val (.long q1_1), .second, .val (.long q1_2), .second, .val (.long q1_3), .second, .val (.long q1_4), .second] [(.long q1_2), (.ref a1_0)])) rfl rfl (hb hby d1_11)
  have f9 := f7.same W8
  have K8 := K4.wr W8 (Or.inl (List.mem_of_getElem? (i := 0) rfl))
  have N8 := Fr.snoc X8 N4 g_a1_0
  refine own_s (g' := (mkF m 14 #[.val (.ref a1_0), .val (.long q1_1), .second, .val (.long q1_2), .second, .val (.long q1_3), .second, .val (.long q1_4), .second] [])) st8 ?_
  refine own_s (g' := (mkF m 15 #[.val (.ref a1_0), .val (.long q1_1), .second, .val (.long q1_2), .second, .val (.long q1_3), .second, .val (.long q1_4), .second] [(.ref a1_0)])) (fun _ k => XS.aloadN X8.here hx rfl (hb hby d1_14) rfl rfl k) ?_
  refine own_s (g' := (mkF m 17 #[.val (.ref a1_0), .val (.long q1_1), .second, .val (.long q1_2), .second, .val (.long q1_3), .second, .val (.long q1_4), .second] [(.long q1_3), (.ref a1_0)])) (fun _ k => XS.lload X8.here hx rfl (hb hby d1_15) rfl k) ?_
  refine own_s (g' := (mkF m 18 #[.val (.ref a1_0), .val (.long q1_1), .second, .val (.long q1_2), .second, .val (.long q1_3), .second, .val (.long q1_4), .second] [(.long 1), (.long q1_3), (.ref a1_0)])) (fun _ k => XS.lconst X8.here hx rfl (hb hby d1_17) k) ?_
  refine own_s (g' := (mkF m 19 #[.val (.ref a1_0), .val (.long q1_1), .second, .val (.long q1_2), .second, .val (.long q1_3), .second, .val (.long q1_4), .second] [(.long (q1_3 ||| (1 : Int64))), (.ref a1_0)])) (fun _ k => XS.lor X8.here hx rfl (hb hby d1_18) rfl k) ?_
  have f10 := (f6.wr W8)
  have f11 := ((F_g1_a1_0.other W4 (Or.inr (own_sn_24_20 hw))).other W8 (Or.inr (own_sn_24_22 hw)))
  obtain ⟨T12, h12, X12, e12, W12, st12⟩ := putF X8 hx hZ hown (host := "") (Or.inl ww23) Via.refl e8 f11 f10 (Or.inr ⟨ww24, rfl, hnm⟩) ww1 (ty := .long) (by decide +kernel) rfl rfl (g := (mkF m 19 #[.val (.ref a1_0), .val (.long q1_1), .second, .val (.long q1_2), .second, .val (.long q1_3), .second, .val (.long q1_4), .second] [(.long (q1_3 ||| (1 : Int64))), (.ref a1_0)])) rfl rfl (hb hby d1_19)
  have f13 := f11.same W12
  have K12 := K8.wr W12 (Or.inl (List.mem_of_getElem? (i := 0) rfl))
  have N12 := Fr.snoc X12 N8 g_a1_0
  refine own_s (g' := (mkF m 22 #[.val (.ref a1_0), .val (.long q1_1), .second, .val (.long q1_2), .second, .val (.long q1_3), .second, .val (.long q1_4), .second] [])) st12 ?_
  refine own_s (g' := (mkF m 23 #[.val (.ref a1_0), .val (.long q1_1), .second, .val (.long q1_2), .second, .val (.long q1_3), .second, .val (.long q1_4), .second] [(.ref a1_0)])) (fun _ k => XS.aloadN X12.here hx rfl (hb hby d1_22) rfl rfl k) ?_
  refine own_s (g' := (mkF m 25 #[.val (.ref a1_0), .val (.long q1_1), .second, .val (.long q1_2), .second, .val (.long q1_3), .second, .val (.long q1_4), .second] [(.long q1_4), (.ref a1_0)])) (fun _ k => XS.lload X12.here hx rfl (hb hby d1_23) rfl k) ?_
  refine own_s (g' := (mkF m 26 #[.val (.ref a1_0), .val (.long q1_1), .second, .val (.long q1_2), .second, .val (.long q1_3), .second, .val (.long q1_4), .second] [(.long 1), (.long q1_4), (.ref a1_0)])) (fun _ k => XS.lconst X12.here hx rfl (hb hby d1_25) k) ?_
  refine own_s (g' := (mkF m 27 #[.val (.ref a1_0), .val (.long q1_1), .second, .val (.long q1_2), .second, .val (.long q1_3), .second, .val (.long q1_4), .second] [(.long (q1_4 ||| (1 : Int64))), (.ref a1_0)])) (fun _ k => XS.lor X12.here hx rfl (hb hby d1_26) rfl k) ?_
  have f14 := (f10.wr W12)
  have f15 := (((F_g2_a1_0.other W4 (Or.inr (own_sn_26_20 hw))).other W8 (Or.inr (own_sn_26_22 hw))).other W12 (Or.inr (own_sn_26_24 hw)))
  obtain ⟨T16, h16, X16, e16, W16, st16⟩ := putF X12 hx hZ hown (host := "") (Or.inl ww25) Via.refl e12 f15 f14 (Or.inr ⟨ww26, rfl, hnm⟩) ww1 (ty := .long) (by decide +kernel) rfl rfl (g := (mkF m 27 #[.val (.ref a1_0), .val (.long q1_1), .second, .val (.long q1_2), .second, .val (.long q1_3), .second, .val (.long q1_4), .second] [(.long (q1_4 ||| (1 : Int64))), (.ref a1_0)])) rfl rfl (hb hby d1_27)
  have f17 := f15.same W16
  have K16 := K12.wr W16 (Or.inl (List.mem_of_getElem? (i := 0) rfl))
  have N16 := Fr.snoc X16 N12 g_a1_0
  refine own_s (g' := (mkF m 30 #[.val (.ref a1_0), .val (.long q1_1), .second, .val (.long q1_2), .second, .val (.long q1_3), .second, .val (.long q1_4), .second] [])) st16 ?_
  have f18 := (f14.wr W16)
  have f19 := (((f5.other W8 (Or.inr (own_sn_20_22 hw))).other W12 (Or.inr (own_sn_20_24 hw))).other W16 (Or.inr (own_sn_20_26 hw)))
  have f20 := ((f9.other W12 (Or.inr (own_sn_22_24 hw))).other W16 (Or.inr (own_sn_22_26 hw)))
  have f21 := (f13.other W16 (Or.inr (own_sn_24_26 hw)))
  refine own_retV X16 hx hlk hret (hb hby d1_30) (by decide) (by decide) ?_
  show Q1 Z a1_0 q1_1 q1_2 q1_3 q1_4 v1_s1 v1_s2 v1_g1 v1_g2 h0 n0 _ T16.heap _
  rw [e16]
  exact ⟨rfl, N16, K16, f18, f19, f20, f21, f17⟩
theorem d5_0 : decode prog_50_method_7_code 0 = .ok (.iconst 4, 1) := by decide +kernel
theorem d5_1 : decode prog_50_method_7_code 1 = .ok (.newarray .long, 2) := by decide +kernel
theorem d5_3 : decode prog_50_method_7_code 3 = .ok (.dup, 1) := by decide +kernel
theorem d5_4 : decode prog_50_method_7_code 4 = .ok (.iconst 0, 1) := by decide +kernel
theorem d5_5 : decode prog_50_method_7_code 5 = .ok (.aload_n 0, 1) := by decide +kernel
theorem d5_6 : decode prog_50_method_7_code 6 = .ok (.getfield 7, 3) := by decide +kernel
theorem d5_9 : decode prog_50_method_7_code 9 = .ok (.lastore, 1) := by decide +kernel
theorem d5_10 : decode prog_50_method_7_code 10 = .ok (.dup, 1) := by decide +kernel
theorem d5_11 : decode prog_50_method_7_code 11 = .ok (.iconst 1, 1) := by decide +kernel
theorem d5_12 : decode prog_50_method_7_code 12 = .ok (.aload_n 0, 1) := by decide +kernel
theorem d5_13 : decode prog_50_method_7_code 13 = .ok (.getfield 13, 3) := by decide +kernel
theorem d5_16 : decode prog_50_method_7_code 16 = .ok (.lastore, 1) := by decide +kernel
theorem d5_17 : decode prog_50_method_7_code 17 = .ok (.dup, 1) := by decide +kernel
theorem d5_18 : decode prog_50_method_7_code 18 = .ok (.iconst 2, 1) := by decide +kernel
theorem d5_19 : decode prog_50_method_7_code 19 = .ok (.aload_n 0, 1) := by decide +kernel
theorem d5_20 : decode prog_50_method_7_code 20 = .ok (.getfield 16, 3) := by decide +kernel
theorem d5_23 : decode prog_50_method_7_code 23 = .ok (.lastore, 1) := by decide +kernel
theorem d5_24 : decode prog_50_method_7_code 24 = .ok (.dup, 1) := by decide +kernel
theorem d5_25 : decode prog_50_method_7_code 25 = .ok (.iconst 3, 1) := by decide +kernel
theorem d5_26 : decode prog_50_method_7_code 26 = .ok (.aload_n 0, 1) := by decide +kernel
theorem d5_27 : decode prog_50_method_7_code 27 = .ok (.getfield 19, 3) := by decide +kernel
theorem d5_30 : decode prog_50_method_7_code 30 = .ok (.lastore, 1) := by decide +kernel
theorem d5_31 : decode prog_50_method_7_code 31 = .ok (.areturn, 1) := by decide +kernel
theorem ef_5 (m : MethodId) (a5_0 : Addr) : entryFrame m #[(.ref a5_0)] 1 = mkF m 0 #[.val (.ref a5_0)] [] := by first | (simp [entryFrame, mkF, argsToLocals, Value.category]; done) | rfl
def Q5 (Z : State) (a5_0 : Addr) (v5_s1 : Int64) (v5_s2 : Int64) (v5_g1 : Int64) (v5_g2 : Int64) (h0 : Heap) (n0 : Nat) (v : Option Value) (h : Heap) (L : List Loc) : Prop := ∃ (bf0 : Addr) (kf0 : ClassId), h0.size ≤ bf0 ∧ v = some (.ref bf0) ∧ Fr n0 L ∧ Keep h0 h [] ∧ Arv Z h bf0 kf0 .long (4 : Int32) [(.long v5_s1), (.long v5_s2), (.long v5_g1), (.long v5_g2)] (.long 0)
set_option maxRecDepth 65536 in
set_option maxHeartbeats 40000000 in
theorem rm5 (l : Launch) (Z : State) (a0 : Array Value) (hw : ∀ d ∈ tables_1, d.before a0 Z = true) (ws : List Jvm.Cond) (a5_0 : Addr) (v5_s1 : Int64) (v5_s2 : Int64) (v5_g1 : Int64) (v5_g2 : Int64) (h0 : Heap) (n0 : Nat) (Z0 : n0 ≤ h0.size) (F_s1_a5_0 : Fld Z h0 a5_0 "com/example/forkstream/forkstream/TwinLinear" "s1" "J" (.long v5_s1)) (F_s2_a5_0 : Fld Z h0 a5_0 "com/example/forkstream/forkstream/TwinLinear" "s2" "J" (.long v5_s2)) (F_g1_a5_0 : Fld Z h0 a5_0 "com/example/forkstream/forkstream/TwinLinear" "g1" "J" (.long v5_g1)) (F_g2_a5_0 : Fld Z h0 a5_0 "com/example/forkstream/forkstream/TwinLinear" "g2" "J" (.long v5_g2)) :
    MetFree l (⟨"com/example/forkstream/forkstream/TwinLinear", "stateWords", "()[J"⟩ : MethodName) (head1 (Jvm.Cond.code (⟨"com/example/forkstream/forkstream/TwinLinear", "stateWords", "()[J"⟩ : MethodName) prog_50_method_7_code 1 (some (.array .long)) :: ws) ({ frames := 0, cells := 1, slots := 4, locals := 0 } : Room)) (fun a U => a = #[(.ref a5_0)] ∧ Z.Warmed39 U.vm ∧ U.heap = h0) (fun _ _ _ _ _ => True) (fun _ U o U' => ∃ v L, o = .returned v ∧ Q5 Z a5_0 v5_s1 v5_s2 v5_g1 v5_g2 h0 n0 v U'.heap L ∧ FrameEnd U o U' L ({ frames := 0, cells := 1, slots := 4, locals := 0 } : Room).cells ({ frames := 0, cells := 1, slots := 4, locals := 0 } : Room).slots) := by
  refine MetFree.of_bodySF (plainFor_of_name pn_com_example_forkstream_forkstream_TwinLinear) hisR ?_
  intro p e s m args below meth c s₁ Bd hml0 hP hK
  obtain ⟨rfl, hZ, hh⟩ := hP
  have hx := Bd.exec
  have hby := Bd.bytes
  have hlk := Bd.notSynchronized
  have hret := Bd.returns
  have hml : c.maxLocals = 1 := hml0
  have hown : s.vm.findClass "com/example/forkstream/forkstream/TwinLinear" = some m.cls := findClass_of_methodNamed Bd.named
  have hnm := (name_of_methodNamed Bd.named Bd.method).1
  have X0 : Stand p l e ({ frames := 0, cells := 1, slots := 4, locals := 0 } : Room) s m #[(.ref a5_0)] below meth c s₁ [] 0 0 := Stand.of_body Bd
  have e0 : s₁.heap = h0 := by rw [← hh, Bd.state]; rfl
  have N0 := Fr.nil n0
  have K0 : Keep h0 h0 [] := Keep.refl _ _
  show own_G p e below s (Q5 Z a5_0 v5_s1 v5_s2 v5_g1 v5_g2 h0 n0) ({ frames := 0, cells := 1, slots := 4, locals := 0 } : Room).cells ({ frames := 0, cells := 1, slots := 4, locals := 0 } : Room).slots s₁ (entryFrame m #[(.ref a5_0)] 1)
  have ww19 := hw _ (List.mem_of_getElem? (i := 19) rfl)
  have ww21 := hw _ (List.mem_of_getElem? (i := 21) rfl)
  have ww23 := hw _ (List.mem_of_getElem? (i := 23) rfl)
  have ww25 := hw _ (List.mem_of_getElem? (i := 25) rfl)
  have ww32 := hw _ (List.mem_of_getElem? (i := 32) rfl)
  refine own_cast (ef_5 m a5_0) ?_
  refine own_s (g' := (mkF m 1 #[.val (.ref a5_0)] [(.int 4)])) (fun _ k => XS.iconst X0.here hx rfl (hb hby d5_0) k) ?_
  obtain ⟨T22, h22, k22, X22, e22, E22, A22, st22⟩ := newP (aty := .long) X0 hx hZ ww32 e0 (g := (mkF m 1 #[.val (.ref a5_0)] [(.int 4)])) rfl (hb hby d5_1) rfl (by decide) (cap := 4) (by decide) (by decide) (by decide) (by decide)
  obtain ⟨b22, ga22⟩ : ∃ z, z = h0.size := ⟨_, rfl⟩
  rw [← ga22] at A22 st22
  have g_b22 := Nat.le_trans Z0 (Nat.le_of_eq ga22.symm)
  have sz_b22 := Nat.le_trans K0.1 (Nat.le_of_eq ga22.symm)
  have V22 : Arv Z h22 b22 k22 .long (4 : Int32) [(.long 0), (.long 0), (.long 0), (.long 0)] (.long 0) := (Arv.new A22 (by decide)).pad (pad_rep [] (.long 0) 4)
  have K22 := K0.ext E22
  refine own_s (g' := (mkF m 3 #[.val (.ref a5_0)] [(.ref b22)])) st22 ?_
  refine own_s (g' := (mkF m 4 #[.val (.ref a5_0)] [(.ref b22), (.ref b22)])) (fun _ k => XS.dup X22.here hx rfl (hb hby d5_3) rfl rfl k) ?_
  refine own_s (g' := (mkF m 5 #[.val (.ref a5_0)] [(.int 0), (.ref b22), (.ref b22)])) (fun _ k => XS.iconst X22.here hx rfl (hb hby d5_4) k) ?_
  refine own_s (g' := (mkF m 6 #[.val (.ref a5_0)] [(.ref a5_0), (.int 0), (.ref b22), (.ref b22)])) (fun _ k => XS.aloadN X22.here hx rfl (hb hby d5_5) rfl rfl k) ?_
  have f23 := (F_s1_a5_0.ext E22)
  obtain ⟨T24, X24, e24, st24⟩ := getF X22 hx hZ hown (host := "") (Or.inl ww19) Via.refl e22 f23 (g := (mkF m 6 #[.val (.ref a5_0)] [(.ref a5_0), (.int 0), (.ref b22), (.ref b22)])) rfl rfl (hb hby d5_6)
  refine own_s (g' := (mkF m 9 #[.val (.ref a5_0)] [(.long v5_s1), (.int 0), (.ref b22), (.ref b22)])) st24 ?_
  obtain ⟨cl25, Ar25, q25, S25, M25, H25, G25⟩ := id V22
  obtain ⟨T25, h25, X25, e25, W25, st25⟩ := stJ X24 hx hZ e24 Ar25 (j := (0 : Int32)) (inb_of S25 ⟨by decide, by decide⟩) (g := (mkF m 9 #[.val (.ref a5_0)] [(.long v5_s1), (.int 0), (.ref b22), (.ref b22)])) rfl rfl (hb hby d5_9)
  have f26 : Arv Z h25 b22 k22 .long (4 : Int32) [(.long v5_s1), (.long 0), (.long 0), (.long 0)] (.long 0) := Arv.set Ar25 q25 S25 M25 H25 G25 rfl W25 0 rfl (Nat.le_of_ble_eq_true rfl)
  have K25 := K22.wr W25 (Or.inr sz_b22)
  have N25 := Fr.snoc X25 N0 g_b22
  refine own_s (g' := (mkF m 10 #[.val (.ref a5_0)] [(.ref b22)])) st25 ?_
  refine own_s (g' := (mkF m 11 #[.val (.ref a5_0)] [(.ref b22), (.ref b22)])) (fun _ k => XS.dup X25.here hx rfl (hb hby d5_10) rfl rfl k) ?_
  refine own_s (g' := (mkF m 12 #[.val (.ref a5_0)] [(.int 1), (.ref b22), (.ref b22)])) (fun _ k => XS.iconst X25.here hx rfl (hb hby d5_11) k) ?_
  refine own_s (g' := (mkF m 13 #[.val (.ref a5_0)] [(.ref a5_0), (.int 1), (.ref b22), (.ref b22)])) (fun _ k => XS.aloadN X25.here hx rfl (hb hby d5_12) rfl rfl k) ?_
  have ne27 : a5_0 ≠ b22 := Nat.ne_of_lt (Nat.lt_of_lt_of_le F_s1_a5_0.lt (Nat.le_of_eq ga22.symm))
  have f28 := ((F_s2_a5_0.ext E22).other W25 (Or.inl ne27))
  obtain ⟨T29, X29, e29, st29⟩ := getF X25 hx hZ hown (host := "") (Or.inl ww21) Via.refl e25 f28 (g := (mkF m 13 #[.val (.ref a5_0)] [(.ref a5_0), (.int 1), (.ref b22), (.ref b22)])) rfl rfl (hb hby d5_13)
  refine own_s (g' := (mkF m 16 #[.val (.ref a5_0)] [(.long v5_s2), (.int 1), (.ref b22), (.ref b22)])) st29 ?_
  obtain ⟨cl30, Ar30, q30, S30, M30, H30, G30⟩ := id f26
  obtain ⟨T30, h30, X30, e30, W30, st30⟩ := stJ X29 hx hZ e29 Ar30 (j := (1 : Int32)) (inb_of S30 ⟨by decide, by decide⟩) (g := (mkF m 16 #[.val (.ref a5_0)] [(.long v5_s2), (.int 1), (.ref b22), (.ref b22)])) rfl rfl (hb hby d5_16)
  have f31 : Arv Z h30 b22 k22 .long (4 : Int32) [(.long v5_s1), (.long v5_s2), (.long 0), (.long 0)] (.long 0) := Arv.set Ar30 q30 S30 M30 H30 G30 rfl W30 1 rfl (Nat.le_of_ble_eq_true rfl)
  have K30 := K25.wr W30 (Or.inr sz_b22)
  have N30 := Fr.snoc X30 N25 g_b22
  refine own_s (g' := (mkF m 17 #[.val (.ref a5_0)] [(.ref b22)])) st30 ?_
  refine own_s (g' := (mkF m 18 #[.val (.ref a5_0)] [(.ref b22), (.ref b22)])) (fun _ k => XS.dup X30.here hx rfl (hb hby d5_17) rfl rfl k) ?_
  refine own_s (g' := (mkF m 19 #[.val (.ref a5_0)] [(.int 2), (.ref b22), (.ref b22)])) (fun _ k => XS.iconst X30.here hx rfl (hb hby d5_18) k) ?_
  refine own_s (g' := (mkF m 20 #[.val (.ref a5_0)] [(.ref a5_0), (.int 2), (.ref b22), (.ref b22)])) (fun _ k => XS.aloadN X30.here hx rfl (hb hby d5_19) rfl rfl k) ?_
  have f32 := (((F_g1_a5_0.ext E22).other W25 (Or.inl ne27)).other W30 (Or.inl ne27))
  obtain ⟨T33, X33, e33, st33⟩ := getF X30 hx hZ hown (host := "") (Or.inl ww23) Via.refl e30 f32 (g := (mkF m 20 #[.val (.ref a5_0)] [(.ref a5_0), (.int 2), (.ref b22), (.ref b22)])) rfl rfl (hb hby d5_20)
  refine own_s (g' := (mkF m 23 #[.val (.ref a5_0)] [(.long v5_g1), (.int 2), (.ref b22), (.ref b22)])) st33 ?_
  obtain ⟨cl34, Ar34, q34, S34, M34, H34, G34⟩ := id f31
  obtain ⟨T34, h34, X34, e34, W34, st34⟩ := stJ X33 hx hZ e33 Ar34 (j := (2 : Int32)) (inb_of S34 ⟨by decide, by decide⟩) (g := (mkF m 23 #[.val (.ref a5_0)] [(.long v5_g1), (.int 2), (.ref b22), (.ref b22)])) rfl rfl (hb hby d5_23)
  have f35 : Arv Z h34 b22 k22 .long (4 : Int32) [(.long v5_s1), (.long v5_s2), (.long v5_g1), (.long 0)] (.long 0) := Arv.set Ar34 q34 S34 M34 H34 G34 rfl W34 2 rfl (Nat.le_of_ble_eq_true rfl)
  have K34 := K30.wr W34 (Or.inr sz_b22)
  have N34 := Fr.snoc X34 N30 g_b22
  refine own_s (g' := (mkF m 24 #[.val (.ref a5_0)] [(.ref b22)])) st34 ?_
  refine own_s (g' := (mkF m 25 #[.val (.ref a5_0)] [(.ref b22), (.ref b22)])) (fun _ k => XS.dup X34.here hx rfl (hb hby d5_24) rfl rfl k) ?_
  refine own_s (g' := (mkF m 26 #[.val (.ref a5_0)] [(.int 3), (.ref b22), (.ref b22)])) (fun _ k => XS.iconst X34.here hx rfl (hb hby d5_25) k) ?_
  refine own_s (g' := (mkF m 27 #[.val (.ref a5_0)] [(.ref a5_0), (.int 3), (.ref b22), (.ref b22)])) (fun _ k => XS.aloadN X34.here hx rfl (hb hby d5_26) rfl rfl k) ?_
  have f36 := ((((F_g2_a5_0.ext E22).other W25 (Or.inl ne27)).other W30 (Or.inl ne27)).other W34 (Or.inl ne27))
  obtain ⟨T37, X37, e37, st37⟩ := getF X34 hx hZ hown (host := "") (Or.inl ww25) Via.refl e34 f36 (g := (mkF m 27 #[.val (.ref a5_0)] [(.ref a5_0), (.int 3), (.ref b22), (.ref b22)])) rfl rfl (hb hby d5_27)
  refine own_s (g' := (mkF m 30 #[.val (.ref a5_0)] [(.long v5_g2), (.int 3), (.ref b22), (.ref b22)])) st37 ?_
  obtain ⟨cl38, Ar38, q38, S38, M38, H38, G38⟩ := id f35
  obtain ⟨T38, h38, X38, e38, W38, st38⟩ := stJ X37 hx hZ e37 Ar38 (j := (3 : Int32)) (inb_of S38 ⟨by decide, by decide⟩) (g := (mkF m 30 #[.val (.ref a5_0)] [(.long v5_g2), (.int 3), (.ref b22), (.ref b22)])) rfl rfl (hb hby d5_30)
  have f39 : Arv Z h38 b22 k22 .long (4 : Int32) [(.long v5_s1), (.long v5_s2), (.long v5_g1), (.long v5_g2)] (.long 0) := Arv.set Ar38 q38 S38 M38 H38 G38 rfl W38 3 rfl (Nat.le_of_ble_eq_true rfl)
  have K38 := K34.wr W38 (Or.inr sz_b22)
  have N38 := Fr.snoc X38 N34 g_b22
  refine own_s (g' := (mkF m 31 #[.val (.ref a5_0)] [(.ref b22)])) st38 ?_
  refine own_retR X38 hx hlk hret rfl rfl rfl (hb hby d5_31) (by decide) (by decide) ?_
  show Q5 Z a5_0 v5_s1 v5_s2 v5_g1 v5_g2 h0 n0 _ T38.heap _
  rw [e38]
  exact ⟨b22, _, sz_b22, rfl, N38, K38, f39⟩
theorem d6_0 : decode method_2_code 0 = .ok (.aload_n 0, 1) := by decide +kernel
theorem d6_1 : decode method_2_code 1 = .ok (.ifnull 9, 3) := by decide +kernel
theorem d6_4 : decode method_2_code 4 = .ok (.aload_n 0, 1) := by decide +kernel
theorem d6_5 : decode method_2_code 5 = .ok (.arraylength, 1) := by decide +kernel
theorem d6_6 : decode method_2_code 6 = .ok (.iconst 4, 1) := by decide +kernel
theorem d6_7 : decode method_2_code 7 = .ok (.if_icmp .eq 5, 3) := by decide +kernel
theorem d6_12 : decode method_2_code 12 = .ok (.aload_n 0, 1) := by decide +kernel
theorem d6_13 : decode method_2_code 13 = .ok (.iconst 0, 1) := by decide +kernel
theorem d6_14 : decode method_2_code 14 = .ok (.laload, 1) := by decide +kernel
theorem d6_15 : decode method_2_code 15 = .ok (.lload_n 1, 1) := by decide +kernel
theorem d6_16 : decode method_2_code 16 = .ok (.lcmp, 1) := by decide +kernel
theorem d6_17 : decode method_2_code 17 = .ok (.ifCond .ne 33, 3) := by decide +kernel
theorem d6_20 : decode method_2_code 20 = .ok (.aload_n 0, 1) := by decide +kernel
theorem d6_21 : decode method_2_code 21 = .ok (.iconst 1, 1) := by decide +kernel
theorem d6_22 : decode method_2_code 22 = .ok (.laload, 1) := by decide +kernel
theorem d6_23 : decode method_2_code 23 = .ok (.lload_n 3, 1) := by decide +kernel
theorem d6_24 : decode method_2_code 24 = .ok (.lcmp, 1) := by decide +kernel
theorem d6_25 : decode method_2_code 25 = .ok (.ifCond .ne 25, 3) := by decide +kernel
theorem d6_28 : decode method_2_code 28 = .ok (.aload_n 0, 1) := by decide +kernel
theorem d6_29 : decode method_2_code 29 = .ok (.iconst 2, 1) := by decide +kernel
theorem d6_30 : decode method_2_code 30 = .ok (.laload, 1) := by decide +kernel
theorem d6_31 : decode method_2_code 31 = .ok (.lload 5, 2) := by decide +kernel
theorem d6_33 : decode method_2_code 33 = .ok (.lcmp, 1) := by decide +kernel
theorem d6_34 : decode method_2_code 34 = .ok (.ifCond .ne 16, 3) := by decide +kernel
theorem d6_37 : decode method_2_code 37 = .ok (.aload_n 0, 1) := by decide +kernel
theorem d6_38 : decode method_2_code 38 = .ok (.iconst 3, 1) := by decide +kernel
theorem d6_39 : decode method_2_code 39 = .ok (.laload, 1) := by decide +kernel
theorem d6_40 : decode method_2_code 40 = .ok (.lload 7, 2) := by decide +kernel
theorem d6_42 : decode method_2_code 42 = .ok (.lcmp, 1) := by decide +kernel
theorem d6_43 : decode method_2_code 43 = .ok (.ifCond .ne 7, 3) := by decide +kernel
theorem d6_46 : decode method_2_code 46 = .ok (.iconst 1, 1) := by decide +kernel
theorem d6_47 : decode method_2_code 47 = .ok (.goto 4, 3) := by decide +kernel
theorem d6_50 : decode method_2_code 50 = .ok (.iconst 0, 1) := by decide +kernel
theorem d6_51 : decode method_2_code 51 = .ok (.ireturn, 1) := by decide +kernel
theorem pn_com_example_forkstream_forkstream_TwinLinearStateWordsPinLaw : plainName "com/example/forkstream/forkstream/TwinLinearStateWordsPinLaw" = true := by first | (simp [plainName, overriddenIn]; done) | decide +kernel
theorem ef_6 (m : MethodId) (a6_0 : Addr) (q6_1 : Int64) (q6_2 : Int64) (q6_3 : Int64) (q6_4 : Int64) : entryFrame m #[(.ref a6_0), (.long q6_1), (.long q6_2), (.long q6_3), (.long q6_4)] 9 = mkF m 0 #[.val (.ref a6_0), .val (.long q6_1), .second, .val (.long q6_2), .second, .val (.long q6_3), .second, .val (.long q6_4), .second] [] := by first | (simp [entryFrame, mkF, argsToLocals, Value.category]; done) | rfl
def r6 (q6_1 : Int64) (q6_2 : Int64) (q6_3 : Int64) (q6_4 : Int64) (y0 : Int64) (y1 : Int64) (y2 : Int64) (y3 : Int64) : Int32 := (if y0 = q6_1 then (if y1 = q6_2 then (if y2 = q6_3 then (if y3 = q6_4 then (1 : Int32) else (0 : Int32)) else (0 : Int32)) else (0 : Int32)) else (0 : Int32))
def Q6 (Z : State) (a6_0 : Addr) (q6_1 : Int64) (q6_2 : Int64) (q6_3 : Int64) (q6_4 : Int64) (ky : ClassId) (y0 : Int64) (y1 : Int64) (y2 : Int64) (y3 : Int64) (h0 : Heap) (n0 : Nat) (v : Option Value) (h : Heap) (L : List Loc) : Prop := v = some (.int (r6 q6_1 q6_2 q6_3 q6_4 y0 y1 y2 y3)) ∧ Fr n0 L ∧ h = h0
set_option maxRecDepth 65536 in
set_option maxHeartbeats 40000000 in
theorem rm6 (l : Launch) (Z : State) (a0 : Array Value) (hw : ∀ d ∈ tables_1, d.before a0 Z = true) (ws : List Jvm.Cond) (a6_0 : Addr) (q6_1 : Int64) (q6_2 : Int64) (q6_3 : Int64) (q6_4 : Int64) (ky : ClassId) (y0 : Int64) (y1 : Int64) (y2 : Int64) (y3 : Int64) (h0 : Heap) (n0 : Nat) (Z0 : n0 ≤ h0.size) (V_a6_0 : Arv Z h0 a6_0 ky .long (4 : Int32) [(.long y0), (.long y1), (.long y2), (.long y3)] (.long (0 : Int64))) :
    MetFree l (⟨"com/example/forkstream/forkstream/TwinLinearStateWordsPinLaw", "words", "([JJJJJ)Z"⟩ : MethodName) (head1 (Jvm.Cond.code (⟨"com/example/forkstream/forkstream/TwinLinearStateWordsPinLaw", "words", "([JJJJJ)Z"⟩ : MethodName) method_2_code 9 (some .boolean) :: ws) ({ frames := 0, cells := 0, slots := 0, locals := 0 } : Room)) (fun a U => a = #[(.ref a6_0), (.long q6_1), (.long q6_2), (.long q6_3), (.long q6_4)] ∧ Z.Warmed39 U.vm ∧ U.heap = h0) (fun _ _ _ _ _ => True) (fun _ U o U' => ∃ v L, o = .returned v ∧ Q6 Z a6_0 q6_1 q6_2 q6_3 q6_4 ky y0 y1 y2 y3 h0 n0 v U'.heap L ∧ FrameEnd U o U' L ({ frames := 0, cells := 0, slots := 0, locals := 0 } : Room).cells ({ frames := 0, cells := 0, slots := 0, locals := 0 } : Room).slots) := by
  refine MetFree.of_bodySF (plainFor_of_name pn_com_example_forkstream_forkstream_TwinLinearStateWordsPinLaw) hisR ?_
  intro p e s m args below meth c s₁ Bd hml0 hP hK
  obtain ⟨rfl, hZ, hh⟩ := hP
  have hx := Bd.exec
  have hby := Bd.bytes
  have hlk := Bd.notSynchronized
  have hret := Bd.returns
  have hml : c.maxLocals = 9 := hml0
  have hown : s.vm.findClass "com/example/forkstream/forkstream/TwinLinearStateWordsPinLaw" = some m.cls := findClass_of_methodNamed Bd.named
  have hnm := (name_of_methodNamed Bd.named Bd.method).1
  have X0 : Stand p l e ({ frames := 0, cells := 0, slots := 0, locals := 0 } : Room) s m #[(.ref a6_0), (.long q6_1), (.long q6_2), (.long q6_3), (.long q6_4)] below meth c s₁ [] 0 0 := Stand.of_body Bd
  have e0 : s₁.heap = h0 := by rw [← hh, Bd.state]; rfl
  have N0 := Fr.nil n0
  have K0 : Keep h0 h0 [] := Keep.refl _ _
  show own_G p e below s (Q6 Z a6_0 q6_1 q6_2 q6_3 q6_4 ky y0 y1 y2 y3 h0 n0) ({ frames := 0, cells := 0, slots := 0, locals := 0 } : Room).cells ({ frames := 0, cells := 0, slots := 0, locals := 0 } : Room).slots s₁ (entryFrame m #[(.ref a6_0), (.long q6_1), (.long q6_2), (.long q6_3), (.long q6_4)] 9)
  refine own_cast (ef_6 m a6_0 q6_1 q6_2 q6_3 q6_4) ?_
  refine own_s (g' := (mkF m 1 #[.val (.ref a6_0), .val (.long q6_1), .second, .val (.long q6_2), .second, .val (.long q6_3), .second, .val (.long q6_4), .second] [(.ref a6_0)])) (fun _ k => XS.aloadN X0.here hx rfl (hb hby d6_0) rfl rfl k) ?_
  refine own_s (g' := (mkF m 4 #[.val (.ref a6_0), .val (.long q6_1), .second, .val (.long q6_2), .second, .val (.long q6_3), .second, .val (.long q6_4), .second] [])) (fun _ k => XS.ifnullNo X0.here hx rfl (hb hby d6_1) rfl k) ?_
  refine own_s (g' := (mkF m 5 #[.val (.ref a6_0), .val (.long q6_1), .second, .val (.long q6_2), .second, .val (.long q6_3), .second, .val (.long q6_4), .second] [(.ref a6_0)])) (fun _ k => XS.aloadN X0.here hx rfl (hb hby d6_4) rfl rfl k) ?_
  obtain ⟨cl40, Ar40, -, S40, M40, -, -⟩ := id V_a6_0
  refine own_s (g' := (mkF m 6 #[.val (.ref a6_0), .val (.long q6_1), .second, .val (.long q6_2), .second, .val (.long q6_3), .second, .val (.long q6_4), .second] [(.int 4)])) (fun t k => X0.arraylength hx (by rw [e0]; exact Ar40.1) (State.isArrayOf_alike hZ.alike Ar40.2.1) (g := (mkF m 5 #[.val (.ref a6_0), .val (.long q6_1), .second, .val (.long q6_2), .second, .val (.long q6_3), .second, .val (.long q6_4), .second] [(.ref a6_0)])) rfl rfl (hb hby d6_5) _ (by rw [len_of S40 M40]; exact k)) ?_
  refine own_s (g' := (mkF m 7 #[.val (.ref a6_0), .val (.long q6_1), .second, .val (.long q6_2), .second, .val (.long q6_3), .second, .val (.long q6_4), .second] [(.int 4), (.int 4)])) (fun _ k => XS.iconst X0.here hx rfl (hb hby d6_6) k) ?_
  refine own_s (g' := (mkF m 12 #[.val (.ref a6_0), .val (.long q6_1), .second, .val (.long q6_2), .second, .val (.long q6_3), .second, .val (.long q6_4), .second] [])) (fun _ k => XS.icmpYes X0.here hx rfl (pc0 := 7) (pc' := 12) rfl (hb hby d6_7) rfl (teq ((by decide) : (4 : Int32) = (4 : Int32))).1 (by decide) (by decide) k) ?_
  refine own_s (g' := (mkF m 13 #[.val (.ref a6_0), .val (.long q6_1), .second, .val (.long q6_2), .second, .val (.long q6_3), .second, .val (.long q6_4), .second] [(.ref a6_0)])) (fun _ k => XS.aloadN X0.here hx rfl (hb hby d6_12) rfl rfl k) ?_
  refine own_s (g' := (mkF m 14 #[.val (.ref a6_0), .val (.long q6_1), .second, .val (.long q6_2), .second, .val (.long q6_3), .second, .val (.long q6_4), .second] [(.int 0), (.ref a6_0)])) (fun _ k => XS.iconst X0.here hx rfl (hb hby d6_13) k) ?_
  obtain ⟨cl41, Ar41, -, S41, -, H41, -⟩ := id V_a6_0
  have in41 := inb_of S41 (j := (0 : Int32)) ⟨by decide, by decide⟩
  refine own_s (g' := (mkF m 15 #[.val (.ref a6_0), .val (.long q6_1), .second, .val (.long q6_2), .second, .val (.long q6_3), .second, .val (.long q6_4), .second] [(.long y0)])) (X0.laload hx (j := (0 : Int32)) (v := (.long y0)) (by rw [e0]; exact Ar41.1) (State.isArrayOf_alike hZ.alike Ar41.2.1) Ar41.2.2 in41 (Has.at H41 in41 rfl) (g := (mkF m 14 #[.val (.ref a6_0), .val (.long q6_1), .second, .val (.long q6_2), .second, .val (.long q6_3), .second, .val (.long q6_4), .second] [(.int 0), (.ref a6_0)])) rfl rfl (hb hby d6_14)) ?_
  refine own_s (g' := (mkF m 16 #[.val (.ref a6_0), .val (.long q6_1), .second, .val (.long q6_2), .second, .val (.long q6_3), .second, .val (.long q6_4), .second] [(.long q6_1), (.long y0)])) (fun _ k => XS.lloadN X0.here hx rfl (hb hby d6_15) rfl k) ?_
  refine own_s (g' := (mkF m 17 #[.val (.ref a6_0), .val (.long q6_1), .second, .val (.long q6_2), .second, .val (.long q6_3), .second, .val (.long q6_4), .second] [(.int (lcmpW y0 q6_1))])) (fun _ k => XS.lcmp X0.here hx rfl (hb hby d6_16) rfl k) ?_
  by_cases c42 : y0 = q6_1
  ·skip
   refine own_s (g' := (mkF m 20 #[.val (.ref a6_0), .val (.long q6_1), .second, .val (.long q6_2), .second, .val (.long q6_3), .second, .val (.long q6_4), .second] [])) (fun _ k => XS.ifNo X0.here hx rfl (hb hby d6_17) rfl ((if0 _ _).trans (teq ((lw_eq y0 q6_1).mpr c42)).2) k) ?_
   refine own_s (g' := (mkF m 21 #[.val (.ref a6_0), .val (.long q6_1), .second, .val (.long q6_2), .second, .val (.long q6_3), .second, .val (.long q6_4), .second] [(.ref a6_0)])) (fun _ k => XS.aloadN X0.here hx rfl (hb hby d6_20) rfl rfl k) ?_
   refine own_s (g' := (mkF m 22 #[.val (.ref a6_0), .val (.long q6_1), .second, .val (.long q6_2), .second, .val (.long q6_3), .second, .val (.long q6_4), .second] [(.int 1), (.ref a6_0)])) (fun _ k => XS.iconst X0.here hx rfl (hb hby d6_21) k) ?_
   obtain ⟨cl43, Ar43, -, S43, -, H43, -⟩ := id V_a6_0
   have in43 := inb_of S43 (j := (1 : Int32)) ⟨by decide, by decide⟩
   refine own_s (g' := (mkF m 23 #[.val (.ref a6_0), .val (.long q6_1), .second, .val (.long q6_2), .second, .val (.long q6_3), .second, .val (.long q6_4), .second] [(.long y1)])) (X0.laload hx (j := (1 : Int32)) (v := (.long y1)) (by rw [e0]; exact Ar43.1) (State.isArrayOf_alike hZ.alike Ar43.2.1) Ar43.2.2 in43 (Has.at H43 in43 rfl) (g := (mkF m 22 #[.val (.ref a6_0), .val (.long q6_1), .second, .val (.long q6_2), .second, .val (.long q6_3), .second, .val (.long q6_4), .second] [(.int 1), (.ref a6_0)])) rfl rfl (hb hby d6_22)) ?_
   refine own_s (g' := (mkF m 24 #[.val (.ref a6_0), .val (.long q6_1), .second, .val (.long q6_2), .second, .val (.long q6_3), .second, .val (.long q6_4), .second] [(.long q6_2), (.long y1)])) (fun _ k => XS.lloadN X0.here hx rfl (hb hby d6_23) rfl k) ?_
   refine own_s (g' := (mkF m 25 #[.val (.ref a6_0), .val (.long q6_1), .second, .val (.long q6_2), .second, .val (.long q6_3), .second, .val (.long q6_4), .second] [(.int (lcmpW y1 q6_2))])) (fun _ k => XS.lcmp X0.here hx rfl (hb hby d6_24) rfl k) ?_
   by_cases c44 : y1 = q6_2
   ·skip
    refine own_s (g' := (mkF m 28 #[.val (.ref a6_0), .val (.long q6_1), .second, .val (.long q6_2), .second, .val (.long q6_3), .second, .val (.long q6_4), .second] [])) (fun _ k => XS.ifNo X0.here hx rfl (hb hby d6_25) rfl ((if0 _ _).trans (teq ((lw_eq y1 q6_2).mpr c44)).2) k) ?_
    refine own_s (g' := (mkF m 29 #[.val (.ref a6_0), .val (.long q6_1), .second, .val (.long q6_2), .second, .val (.long q6_3), .second, .val (.long q6_4), .second] [(.ref a6_0)])) (fun _ k => XS.aloadN X0.here hx rfl (hb hby d6_28) rfl rfl k) ?_
    refine own_s (g' := (mkF m 30 #[.val (.ref a6_0), .val (.long q6_1), .second, .val (.long q6_2), .second, .val (.long q6_3), .second, .val (.long q6_4), .second] [(.int 2), (.ref a6_0)])) (fun _ k => XS.iconst X0.here hx rfl (hb hby d6_29) k) ?_
    obtain ⟨cl45, Ar45, -, S45, -, H45, -⟩ := id V_a6_0
    have in45 := inb_of S45 (j := (2 : Int32)) ⟨by decide, by decide⟩
    refine own_s (g' := (mkF m 31 #[.val (.ref a6_0), .val (.long q6_1), .second, .val (.long q6_2), .second, .val (.long q6_3), .second, .val (.long q6_4), .second] [(.long y2)])) (X0.laload hx (j := (2 : Int32)) (v := (.long y2)) (by rw [e0]; exact Ar45.1) (State.isArrayOf_alike hZ.alike Ar45.2.1) Ar45.2.2 in45 (Has.at H45 in45 rfl) (g := (mkF m 30 #[.val (.ref a6_0), .val (.long q6_1), .second, .val (.long q6_2), .second, .val (.long q6_3), .second, .val (.long q6_4), .second] [(.int 2), (.ref a6_0)])) rfl rfl (hb hby d6_30)) ?_
    refine own_s (g' := (mkF m 33 #[.val (.ref a6_0), .val (.long q6_1), .second, .val (.long q6_2), .second, .val (.long q6_3), .second, .val (.long q6_4), .second] [(.long q6_3), (.long y2)])) (fun _ k => XS.lload X0.here hx rfl (hb hby d6_31) rfl k) ?_
    refine own_s (g' := (mkF m 34 #[.val (.ref a6_0), .val (.long q6_1), .second, .val (.long q6_2), .second, .val (.long q6_3), .second, .val (.long q6_4), .second] [(.int (lcmpW y2 q6_3))])) (fun _ k => XS.lcmp X0.here hx rfl (hb hby d6_33) rfl k) ?_
    by_cases c46 : y2 = q6_3
    ·skip
     refine own_s (g' := (mkF m 37 #[.val (.ref a6_0), .val (.long q6_1), .second, .val (.long q6_2), .second, .val (.long q6_3), .second, .val (.long q6_4), .second] [])) (fun _ k => XS.ifNo X0.here hx rfl (hb hby d6_34) rfl ((if0 _ _).trans (teq ((lw_eq y2 q6_3).mpr c46)).2) k) ?_
     refine own_s (g' := (mkF m 38 #[.val (.ref a6_0), .val (.long q6_1), .second, .val (.long q6_2), .second, .val (.long q6_3), .second, .val (.long q6_4), .second] [(.ref a6_0)])) (fun _ k => XS.aloadN X0.here hx rfl (hb hby d6_37) rfl rfl k) ?_
     refine own_s (g' := (mkF m 39 #[.val (.ref a6_0), .val (.long q6_1), .second, .val (.long q6_2), .second, .val (.long q6_3), .second, .val (.long q6_4), .second] [(.int 3), (.ref a6_0)])) (fun _ k => XS.iconst X0.here hx rfl (hb hby d6_38) k) ?_
     obtain ⟨cl47, Ar47, -, S47, -, H47, -⟩ := id V_a6_0
     have in47 := inb_of S47 (j := (3 : Int32)) ⟨by decide, by decide⟩
     refine own_s (g' := (mkF m 40 #[.val (.ref a6_0), .val (.long q6_1), .second, .val (.long q6_2), .second, .val (.long q6_3), .second, .val (.long q6_4), .second] [(.long y3)])) (X0.laload hx (j := (3 : Int32)) (v := (.long y3)) (by rw [e0]; exact Ar47.1) (State.isArrayOf_alike hZ.alike Ar47.2.1) Ar47.2.2 in47 (Has.at H47 in47 rfl) (g := (mkF m 39 #[.val (.ref a6_0), .val (.long q6_1), .second, .val (.long q6_2), .second, .val (.long q6_3), .second, .val (.long q6_4), .second] [(.int 3), (.ref a6_0)])) rfl rfl (hb hby d6_39)) ?_
     refine own_s (g' := (mkF m 42 #[.val (.ref a6_0), .val (.long q6_1), .second, .val (.long q6_2), .second, .val (.long q6_3), .second, .val (.long q6_4), .second] [(.long q6_4), (.long y3)])) (fun _ k => XS.lload X0.here hx rfl (hb hby d6_40) rfl k) ?_
     refine own_s (g' := (mkF m 43 #[.val (.ref a6_0), .val (.long q6_1), .second, .val (.long q6_2), .second, .val (.long q6_3), .second, .val (.long q6_4), .second] [(.int (lcmpW y3 q6_4))])) (fun _ k => XS.lcmp X0.here hx rfl (hb hby d6_42) rfl k) ?_
     by_cases c48 : y3 = q6_4
     ·skip
      refine own_s (g' := (mkF m 46 #[.val (.ref a6_0), .val (.long q6_1), .second, .val (.long q6_2), .second, .val (.long q6_3), .second, .val (.long q6_4), .second] [])) (fun _ k => XS.ifNo X0.here hx rfl (hb hby d6_43) rfl ((if0 _ _).trans (teq ((lw_eq y3 q6_4).mpr c48)).2) k) ?_
      refine own_s (g' := (mkF m 47 #[.val (.ref a6_0), .val (.long q6_1), .second, .val (.long q6_2), .second, .val (.long q6_3), .second, .val (.long q6_4), .second] [(.int 1)])) (fun _ k => XS.iconst X0.here hx rfl (hb hby d6_46) k) ?_
      refine own_s (g' := (mkF m 51 #[.val (.ref a6_0), .val (.long q6_1), .second, .val (.long q6_2), .second, .val (.long q6_3), .second, .val (.long q6_4), .second] [(.int 1)])) (fun _ k => XS.goto X0.here hx rfl (pc0 := 47) (pc' := 51) rfl (hb hby d6_47) (by decide) (by decide) k) ?_
      refine own_retN X0 hx hlk (t := .boolean) hret (by simp) (hb hby d6_51) (z' := (1 : Int32)) (by decide) (by decide) (by decide) ?_
      show Q6 Z a6_0 q6_1 q6_2 q6_3 q6_4 ky y0 y1 y2 y3 h0 n0 _ s₁.heap _
      rw [e0]
      exact ⟨(congrArg (fun z => some (Value.int z)) (show (1 : Int32) = (r6 q6_1 q6_2 q6_3 q6_4 y0 y1 y2 y3) from (Eq.symm ((if_pos c42).trans ((if_pos c44).trans ((if_pos c46).trans (if_pos c48))))))), N0, rfl⟩
     ·skip
      refine own_s (g' := (mkF m 50 #[.val (.ref a6_0), .val (.long q6_1), .second, .val (.long q6_2), .second, .val (.long q6_3), .second, .val (.long q6_4), .second] [])) (fun _ k => XS.ifYes X0.here hx rfl (pc0 := 43) (pc' := 50) rfl (hb hby d6_43) rfl ((if0 _ _).trans (feq (mt (lw_eq y3 q6_4).mp c48)).2) (by decide) (by decide) k) ?_
      refine own_s (g' := (mkF m 51 #[.val (.ref a6_0), .val (.long q6_1), .second, .val (.long q6_2), .second, .val (.long q6_3), .second, .val (.long q6_4), .second] [(.int 0)])) (fun _ k => XS.iconst X0.here hx rfl (hb hby d6_50) k) ?_
      refine own_retN X0 hx hlk (t := .boolean) hret (by simp) (hb hby d6_51) (z' := (0 : Int32)) (by decide) (by decide) (by decide) ?_
      show Q6 Z a6_0 q6_1 q6_2 q6_3 q6_4 ky y0 y1 y2 y3 h0 n0 _ s₁.heap _
      rw [e0]
      exact ⟨(congrArg (fun z => some (Value.int z)) (show (0 : Int32) = (r6 q6_1 q6_2 q6_3 q6_4 y0 y1 y2 y3) from (Eq.symm ((if_pos c42).trans ((if_pos c44).trans ((if_pos c46).trans (if_neg c48))))))), N0, rfl⟩
    ·skip
     refine own_s (g' := (mkF m 50 #[.val (.ref a6_0), .val (.long q6_1), .second, .val (.long q6_2), .second, .val (.long q6_3), .second, .val (.long q6_4), .second] [])) (fun _ k => XS.ifYes X0.here hx rfl (pc0 := 34) (pc' := 50) rfl (hb hby d6_34) rfl ((if0 _ _).trans (feq (mt (lw_eq y2 q6_3).mp c46)).2) (by decide) (by decide) k) ?_
     refine own_s (g' := (mkF m 51 #[.val (.ref a6_0), .val (.long q6_1), .second, .val (.long q6_2), .second, .val (.long q6_3), .second, .val (.long q6_4), .second] [(.int 0)])) (fun _ k => XS.iconst X0.here hx rfl (hb hby d6_50) k) ?_
     refine own_retN X0 hx hlk (t := .boolean) hret (by simp) (hb hby d6_51) (z' := (0 : Int32)) (by decide) (by decide) (by decide) ?_
     show Q6 Z a6_0 q6_1 q6_2 q6_3 q6_4 ky y0 y1 y2 y3 h0 n0 _ s₁.heap _
     rw [e0]
     exact ⟨(congrArg (fun z => some (Value.int z)) (show (0 : Int32) = (r6 q6_1 q6_2 q6_3 q6_4 y0 y1 y2 y3) from (Eq.symm ((if_pos c42).trans ((if_pos c44).trans (if_neg c46)))))), N0, rfl⟩
   ·skip
    refine own_s (g' := (mkF m 50 #[.val (.ref a6_0), .val (.long q6_1), .second, .val (.long q6_2), .second, .val (.long q6_3), .second, .val (.long q6_4), .second] [])) (fun _ k => XS.ifYes X0.here hx rfl (pc0 := 25) (pc' := 50) rfl (hb hby d6_25) rfl ((if0 _ _).trans (feq (mt (lw_eq y1 q6_2).mp c44)).2) (by decide) (by decide) k) ?_
    refine own_s (g' := (mkF m 51 #[.val (.ref a6_0), .val (.long q6_1), .second, .val (.long q6_2), .second, .val (.long q6_3), .second, .val (.long q6_4), .second] [(.int 0)])) (fun _ k => XS.iconst X0.here hx rfl (hb hby d6_50) k) ?_
    refine own_retN X0 hx hlk (t := .boolean) hret (by simp) (hb hby d6_51) (z' := (0 : Int32)) (by decide) (by decide) (by decide) ?_
    show Q6 Z a6_0 q6_1 q6_2 q6_3 q6_4 ky y0 y1 y2 y3 h0 n0 _ s₁.heap _
    rw [e0]
    exact ⟨(congrArg (fun z => some (Value.int z)) (show (0 : Int32) = (r6 q6_1 q6_2 q6_3 q6_4 y0 y1 y2 y3) from (Eq.symm ((if_pos c42).trans (if_neg c44))))), N0, rfl⟩
  ·skip
   refine own_s (g' := (mkF m 50 #[.val (.ref a6_0), .val (.long q6_1), .second, .val (.long q6_2), .second, .val (.long q6_3), .second, .val (.long q6_4), .second] [])) (fun _ k => XS.ifYes X0.here hx rfl (pc0 := 17) (pc' := 50) rfl (hb hby d6_17) rfl ((if0 _ _).trans (feq (mt (lw_eq y0 q6_1).mp c42)).2) (by decide) (by decide) k) ?_
   refine own_s (g' := (mkF m 51 #[.val (.ref a6_0), .val (.long q6_1), .second, .val (.long q6_2), .second, .val (.long q6_3), .second, .val (.long q6_4), .second] [(.int 0)])) (fun _ k => XS.iconst X0.here hx rfl (hb hby d6_50) k) ?_
   refine own_retN X0 hx hlk (t := .boolean) hret (by simp) (hb hby d6_51) (z' := (0 : Int32)) (by decide) (by decide) (by decide) ?_
   show Q6 Z a6_0 q6_1 q6_2 q6_3 q6_4 ky y0 y1 y2 y3 h0 n0 _ s₁.heap _
   rw [e0]
   exact ⟨(congrArg (fun z => some (Value.int z)) (show (0 : Int32) = (r6 q6_1 q6_2 q6_3 q6_4 y0 y1 y2 y3) from (Eq.symm (if_neg c42)))), N0, rfl⟩
theorem d10_0 : decode jdk_35_method_51_code 0 = .ok (.lload_n 0, 1) := by decide +kernel
theorem d10_1 : decode jdk_35_method_51_code 1 = .ok (.iload_n 2, 1) := by decide +kernel
theorem d10_2 : decode jdk_35_method_51_code 2 = .ok (.lshl, 1) := by decide +kernel
theorem d10_3 : decode jdk_35_method_51_code 3 = .ok (.lload_n 0, 1) := by decide +kernel
theorem d10_4 : decode jdk_35_method_51_code 4 = .ok (.iload_n 2, 1) := by decide +kernel
theorem d10_5 : decode jdk_35_method_51_code 5 = .ok (.ineg, 1) := by decide +kernel
theorem d10_6 : decode jdk_35_method_51_code 6 = .ok (.lushr, 1) := by decide +kernel
theorem d10_7 : decode jdk_35_method_51_code 7 = .ok (.lor, 1) := by decide +kernel
theorem d10_8 : decode jdk_35_method_51_code 8 = .ok (.lreturn, 1) := by decide +kernel
theorem pn_java_lang_Long : plainName "java/lang/Long" = true := by first | (simp [plainName, overriddenIn]; done) | decide +kernel
theorem ef_10 (m : MethodId) (q10_0 : Int64) (p10_1 : Int32) : entryFrame m #[(.long q10_0), (.int p10_1)] 3 = mkF m 0 #[.val (.long q10_0), .second, .val (.int p10_1)] [] := by first | (simp [entryFrame, mkF, argsToLocals, Value.category]; done) | rfl
def r10 (q10_0 : Int64) (p10_1 : Int32) : Int64 := ((q10_0 <<< (p10_1 &&& 0x3f).toInt64) ||| ((q10_0.toUInt64 >>> ((-p10_1) &&& 0x3f).toInt64.toUInt64).toInt64))
def Q10 (Z : State) (q10_0 : Int64) (p10_1 : Int32) (h0 : Heap) (n0 : Nat) (v : Option Value) (h : Heap) (L : List Loc) : Prop := v = some (.long (r10 q10_0 p10_1)) ∧ Fr n0 L ∧ h = h0
set_option maxRecDepth 65536 in
set_option maxHeartbeats 40000000 in
theorem rm10 (l : Launch) (Z : State) (a0 : Array Value) (hw : ∀ d ∈ tables_1, d.before a0 Z = true) (ws : List Jvm.Cond) (q10_0 : Int64) (p10_1 : Int32) (h0 : Heap) (n0 : Nat) (Z0 : n0 ≤ h0.size) :
    MetFree l (⟨"java/lang/Long", "rotateLeft", "(JI)J"⟩ : MethodName) (head1 (Jvm.Cond.code (⟨"java/lang/Long", "rotateLeft", "(JI)J"⟩ : MethodName) jdk_35_method_51_code 3 (some .long) :: ws) ({ frames := 0, cells := 0, slots := 0, locals := 0 } : Room)) (fun a U => a = #[(.long q10_0), (.int p10_1)] ∧ Z.Warmed39 U.vm ∧ U.heap = h0) (fun _ _ _ _ _ => True) (fun _ U o U' => ∃ v L, o = .returned v ∧ Q10 Z q10_0 p10_1 h0 n0 v U'.heap L ∧ FrameEnd U o U' L ({ frames := 0, cells := 0, slots := 0, locals := 0 } : Room).cells ({ frames := 0, cells := 0, slots := 0, locals := 0 } : Room).slots) := by
  refine MetFree.of_bodySF (plainFor_of_name pn_java_lang_Long) hisR ?_
  intro p e s m args below meth c s₁ Bd hml0 hP hK
  obtain ⟨rfl, hZ, hh⟩ := hP
  have hx := Bd.exec
  have hby := Bd.bytes
  have hlk := Bd.notSynchronized
  have hret := Bd.returns
  have hml : c.maxLocals = 3 := hml0
  have hown : s.vm.findClass "java/lang/Long" = some m.cls := findClass_of_methodNamed Bd.named
  have hnm := (name_of_methodNamed Bd.named Bd.method).1
  have X0 : Stand p l e ({ frames := 0, cells := 0, slots := 0, locals := 0 } : Room) s m #[(.long q10_0), (.int p10_1)] below meth c s₁ [] 0 0 := Stand.of_body Bd
  have e0 : s₁.heap = h0 := by rw [← hh, Bd.state]; rfl
  have N0 := Fr.nil n0
  have K0 : Keep h0 h0 [] := Keep.refl _ _
  show own_G p e below s (Q10 Z q10_0 p10_1 h0 n0) ({ frames := 0, cells := 0, slots := 0, locals := 0 } : Room).cells ({ frames := 0, cells := 0, slots := 0, locals := 0 } : Room).slots s₁ (entryFrame m #[(.long q10_0), (.int p10_1)] 3)
  refine own_cast (ef_10 m q10_0 p10_1) ?_
  refine own_s (g' := (mkF m 1 #[.val (.long q10_0), .second, .val (.int p10_1)] [(.long q10_0)])) (fun _ k => XS.lloadN X0.here hx rfl (hb hby d10_0) rfl k) ?_
  refine own_s (g' := (mkF m 2 #[.val (.long q10_0), .second, .val (.int p10_1)] [(.int p10_1), (.long q10_0)])) (fun _ k => XS.iloadN X0.here hx rfl (hb hby d10_1) rfl k) ?_
  refine own_s (g' := (mkF m 3 #[.val (.long q10_0), .second, .val (.int p10_1)] [(.long (q10_0 <<< (p10_1 &&& 0x3f).toInt64))])) (fun _ k => XS.lshl X0.here hx rfl (hb hby d10_2) rfl k) ?_
  refine own_s (g' := (mkF m 4 #[.val (.long q10_0), .second, .val (.int p10_1)] [(.long q10_0), (.long (q10_0 <<< (p10_1 &&& 0x3f).toInt64))])) (fun _ k => XS.lloadN X0.here hx rfl (hb hby d10_3) rfl k) ?_
  refine own_s (g' := (mkF m 5 #[.val (.long q10_0), .second, .val (.int p10_1)] [(.int p10_1), (.long q10_0), (.long (q10_0 <<< (p10_1 &&& 0x3f).toInt64))])) (fun _ k => XS.iloadN X0.here hx rfl (hb hby d10_4) rfl k) ?_
  refine own_s (g' := (mkF m 6 #[.val (.long q10_0), .second, .val (.int p10_1)] [(.int (-p10_1)), (.long q10_0), (.long (q10_0 <<< (p10_1 &&& 0x3f).toInt64))])) (fun _ k => XS.ineg X0.here hx rfl (hb hby d10_5) rfl k) ?_
  refine own_s (g' := (mkF m 7 #[.val (.long q10_0), .second, .val (.int p10_1)] [(.long ((q10_0.toUInt64 >>> ((-p10_1) &&& 0x3f).toInt64.toUInt64).toInt64)), (.long (q10_0 <<< (p10_1 &&& 0x3f).toInt64))])) (fun _ k => XS.lushr X0.here hx rfl (hb hby d10_6) rfl k) ?_
  refine own_s (g' := (mkF m 8 #[.val (.long q10_0), .second, .val (.int p10_1)] [(.long ((q10_0 <<< (p10_1 &&& 0x3f).toInt64) ||| ((q10_0.toUInt64 >>> ((-p10_1) &&& 0x3f).toInt64.toUInt64).toInt64)))])) (fun _ k => XS.lor X0.here hx rfl (hb hby d10_7) rfl k) ?_
  refine own_retJ X0 hx hlk hret (hb hby d10_8) (by decide) (by decide) ?_
  show Q10 Z q10_0 p10_1 h0 n0 _ s₁.heap _
  rw [e0]
  exact ⟨rfl, N0, rfl⟩
theorem pd__JI_J : parseMethodDescriptor "(JI)J" = some ⟨[.long, .int], some .long⟩ := by decide +kernel
theorem d9_0 : decode prog_50_method_11_code 0 = .ok (.lload_n 0, 1) := by decide +kernel
theorem d9_1 : decode prog_50_method_11_code 1 = .ok (.bipush 32, 2) := by decide +kernel
theorem d9_3 : decode prog_50_method_11_code 3 = .ok (.invokestatic 77, 3) := by decide +kernel
theorem d9_6 : decode prog_50_method_11_code 6 = .ok (.lload_n 2, 1) := by decide +kernel
theorem d9_7 : decode prog_50_method_11_code 7 = .ok (.lxor, 1) := by decide +kernel
theorem d9_8 : decode prog_50_method_11_code 8 = .ok (.lreturn, 1) := by decide +kernel
theorem ef_9 (m : MethodId) (q9_0 : Int64) (q9_1 : Int64) : entryFrame m #[(.long q9_0), (.long q9_1)] 4 = mkF m 0 #[.val (.long q9_0), .second, .val (.long q9_1), .second] [] := by first | (simp [entryFrame, mkF, argsToLocals, Value.category]; done) | rfl
def r9 (q9_0 : Int64) (q9_1 : Int64) : Int64 := ((r10 q9_0 (32 : Int32)) ^^^ q9_1)
def Q9 (Z : State) (q9_0 : Int64) (q9_1 : Int64) (h0 : Heap) (n0 : Nat) (v : Option Value) (h : Heap) (L : List Loc) : Prop := v = some (.long (r9 q9_0 q9_1)) ∧ Fr n0 L ∧ h = h0
set_option maxRecDepth 65536 in
set_option maxHeartbeats 40000000 in
theorem rm9 (l : Launch) (Z : State) (a0 : Array Value) (hw : ∀ d ∈ tables_1, d.before a0 Z = true) (ws : List Jvm.Cond) (q9_0 : Int64) (q9_1 : Int64) (h0 : Heap) (n0 : Nat) (Z0 : n0 ≤ h0.size) :
    MetFree l (⟨"com/example/forkstream/forkstream/TwinLinear", "fold", "(JJ)J"⟩ : MethodName) (head1 (Jvm.Cond.code (⟨"com/example/forkstream/forkstream/TwinLinear", "fold", "(JJ)J"⟩ : MethodName) prog_50_method_11_code 4 (some .long) :: ws) ({ frames := 1, cells := 0, slots := 0, locals := 14 } : Room)) (fun a U => a = #[(.long q9_0), (.long q9_1)] ∧ Z.Warmed39 U.vm ∧ U.heap = h0) (fun _ _ _ _ _ => True) (fun _ U o U' => ∃ v L, o = .returned v ∧ Q9 Z q9_0 q9_1 h0 n0 v U'.heap L ∧ FrameEnd U o U' L ({ frames := 1, cells := 0, slots := 0, locals := 14 } : Room).cells ({ frames := 1, cells := 0, slots := 0, locals := 14 } : Room).slots) := by
  refine MetFree.of_bodySF (plainFor_of_name pn_com_example_forkstream_forkstream_TwinLinear) hisR ?_
  intro p e s m args below meth c s₁ Bd hml0 hP hK
  obtain ⟨rfl, hZ, hh⟩ := hP
  have hx := Bd.exec
  have hby := Bd.bytes
  have hlk := Bd.notSynchronized
  have hret := Bd.returns
  have hml : c.maxLocals = 4 := hml0
  have hown : s.vm.findClass "com/example/forkstream/forkstream/TwinLinear" = some m.cls := findClass_of_methodNamed Bd.named
  have hnm := (name_of_methodNamed Bd.named Bd.method).1
  have X0 : Stand p l e ({ frames := 1, cells := 0, slots := 0, locals := 14 } : Room) s m #[(.long q9_0), (.long q9_1)] below meth c s₁ [] 0 0 := Stand.of_body Bd
  have e0 : s₁.heap = h0 := by rw [← hh, Bd.state]; rfl
  have N0 := Fr.nil n0
  have K0 : Keep h0 h0 [] := Keep.refl _ _
  show own_G p e below s (Q9 Z q9_0 q9_1 h0 n0) ({ frames := 1, cells := 0, slots := 0, locals := 14 } : Room).cells ({ frames := 1, cells := 0, slots := 0, locals := 14 } : Room).slots s₁ (entryFrame m #[(.long q9_0), (.long q9_1)] 4)
  have ww51 := hw _ (List.mem_of_getElem? (i := 51) rfl)
  have ww52 := hw _ (List.mem_of_getElem? (i := 52) rfl)
  have ww53 := hw _ (List.mem_of_getElem? (i := 53) rfl)
  have ww54 := hw _ (List.mem_of_getElem? (i := 54) rfl)
  refine own_cast (ef_9 m q9_0 q9_1) ?_
  refine own_s (g' := (mkF m 1 #[.val (.long q9_0), .second, .val (.long q9_1), .second] [(.long q9_0)])) (fun _ k => XS.lloadN X0.here hx rfl (hb hby d9_0) rfl k) ?_
  refine own_s (g' := (mkF m 3 #[.val (.long q9_0), .second, .val (.long q9_1), .second] [(.int 32), (.long q9_0)])) (fun _ k => XS.bipush X0.here hx rfl (hb hby d9_1) k) ?_
  obtain ⟨_, _, ⟨T49, L49, k49, n49⟩, -, X49, ⟨Lc49, hQ49, l49, y49, z49⟩, st49⟩ := Jvm.LawKit.callS X0 hx (y := (⟨"java/lang/Long", "rotateLeft", "(JI)J"⟩ : MethodName)) hown (mvT hZ ww51) (mvT hZ ww52) (mvT hZ ww53) (mvT hZ ww54) (by decide) (backOf (W := 0) (rm10 l Z a0 hw [] q9_0 (32 : Int32) h0 n0 Z0 ) hZ ww54 ww53 (by decide) (by decide)) (g := (mkF m 3 #[.val (.long q9_0), .second, .val (.long q9_1), .second] [(.int 32), (.long q9_0)])) rfl (by rw [hml]; rfl) (argsL := [(.long q9_0), (.int 32)]) (rest := []) (lenOf pd__JI_J rfl) rfl (by show 2 * 0 + _ ≤ _; exact Nat.le_of_eq rfl) (hb hby d9_3) (fun _ _ => ⟨rfl, e0, (by decide : 0 + 0 ≤ _), (by decide : 0 + 0 ≤ _)⟩)
  dsimp only [Pt.U, Pt.locs, Pt.cells, Pt.slots] at X49 l49 y49 z49 st49 hQ49
  subst l49 y49 z49
  obtain ⟨rfl, N49q, eh49⟩ := hQ49
  have N49 := Fr.app N0 N49q
  refine own_s (g' := (mkF m 6 #[.val (.long q9_0), .second, .val (.long q9_1), .second] [(.long (r10 q9_0 (32 : Int32)))])) st49 ?_
  refine own_s (g' := (mkF m 7 #[.val (.long q9_0), .second, .val (.long q9_1), .second] [(.long q9_1), (.long (r10 q9_0 (32 : Int32)))])) (fun _ k => XS.lloadN X49.here hx rfl (hb hby d9_6) rfl k) ?_
  refine own_s (g' := (mkF m 8 #[.val (.long q9_0), .second, .val (.long q9_1), .second] [(.long ((r10 q9_0 (32 : Int32)) ^^^ q9_1))])) (fun _ k => XS.lxor X49.here hx rfl (hb hby d9_7) rfl k) ?_
  refine own_retJ X49 hx hlk hret (hb hby d9_8) (by decide) (by decide) ?_
  show Q9 Z q9_0 q9_1 h0 n0 _ T49.heap _
  rw [eh49]
  exact ⟨rfl, N49, rfl⟩
theorem d11_0 : decode prog_50_method_12_code 0 = .ok (.lload_n 0, 1) := by decide +kernel
theorem d11_1 : decode prog_50_method_12_code 1 = .ok (.bipush 58, 2) := by decide +kernel
theorem d11_3 : decode prog_50_method_12_code 3 = .ok (.lushr, 1) := by decide +kernel
theorem d11_4 : decode prog_50_method_12_code 4 = .ok (.lreturn, 1) := by decide +kernel
theorem ef_11 (m : MethodId) (q11_0 : Int64) : entryFrame m #[(.long q11_0)] 2 = mkF m 0 #[.val (.long q11_0), .second] [] := by first | (simp [entryFrame, mkF, argsToLocals, Value.category]; done) | rfl
def r11 (q11_0 : Int64) : Int64 := ((q11_0.toUInt64 >>> ((58 : Int32) &&& 0x3f).toInt64.toUInt64).toInt64)
def Q11 (Z : State) (q11_0 : Int64) (h0 : Heap) (n0 : Nat) (v : Option Value) (h : Heap) (L : List Loc) : Prop := v = some (.long (r11 q11_0)) ∧ Fr n0 L ∧ h = h0
set_option maxRecDepth 65536 in
set_option maxHeartbeats 40000000 in
theorem rm11 (l : Launch) (Z : State) (a0 : Array Value) (hw : ∀ d ∈ tables_1, d.before a0 Z = true) (ws : List Jvm.Cond) (q11_0 : Int64) (h0 : Heap) (n0 : Nat) (Z0 : n0 ≤ h0.size) :
    MetFree l (⟨"com/example/forkstream/forkstream/TwinLinear", "turn", "(J)J"⟩ : MethodName) (head1 (Jvm.Cond.code (⟨"com/example/forkstream/forkstream/TwinLinear", "turn", "(J)J"⟩ : MethodName) prog_50_method_12_code 2 (some .long) :: ws) ({ frames := 0, cells := 0, slots := 0, locals := 0 } : Room)) (fun a U => a = #[(.long q11_0)] ∧ Z.Warmed39 U.vm ∧ U.heap = h0) (fun _ _ _ _ _ => True) (fun _ U o U' => ∃ v L, o = .returned v ∧ Q11 Z q11_0 h0 n0 v U'.heap L ∧ FrameEnd U o U' L ({ frames := 0, cells := 0, slots := 0, locals := 0 } : Room).cells ({ frames := 0, cells := 0, slots := 0, locals := 0 } : Room).slots) := by
  refine MetFree.of_bodySF (plainFor_of_name pn_com_example_forkstream_forkstream_TwinLinear) hisR ?_
  intro p e s m args below meth c s₁ Bd hml0 hP hK
  obtain ⟨rfl, hZ, hh⟩ := hP
  have hx := Bd.exec
  have hby := Bd.bytes
  have hlk := Bd.notSynchronized
  have hret := Bd.returns
  have hml : c.maxLocals = 2 := hml0
  have hown : s.vm.findClass "com/example/forkstream/forkstream/TwinLinear" = some m.cls := findClass_of_methodNamed Bd.named
  have hnm := (name_of_methodNamed Bd.named Bd.method).1
  have X0 : Stand p l e ({ frames := 0, cells := 0, slots := 0, locals := 0 } : Room) s m #[(.long q11_0)] below meth c s₁ [] 0 0 := Stand.of_body Bd
  have e0 : s₁.heap = h0 := by rw [← hh, Bd.state]; rfl
  have N0 := Fr.nil n0
  have K0 : Keep h0 h0 [] := Keep.refl _ _
  show own_G p e below s (Q11 Z q11_0 h0 n0) ({ frames := 0, cells := 0, slots := 0, locals := 0 } : Room).cells ({ frames := 0, cells := 0, slots := 0, locals := 0 } : Room).slots s₁ (entryFrame m #[(.long q11_0)] 2)
  refine own_cast (ef_11 m q11_0) ?_
  refine own_s (g' := (mkF m 1 #[.val (.long q11_0), .second] [(.long q11_0)])) (fun _ k => XS.lloadN X0.here hx rfl (hb hby d11_0) rfl k) ?_
  refine own_s (g' := (mkF m 3 #[.val (.long q11_0), .second] [(.int 58), (.long q11_0)])) (fun _ k => XS.bipush X0.here hx rfl (hb hby d11_1) k) ?_
  refine own_s (g' := (mkF m 4 #[.val (.long q11_0), .second] [(.long ((q11_0.toUInt64 >>> ((58 : Int32) &&& 0x3f).toInt64.toUInt64).toInt64))])) (fun _ k => XS.lushr X0.here hx rfl (hb hby d11_3) rfl k) ?_
  refine own_retJ X0 hx hlk hret (hb hby d11_4) (by decide) (by decide) ?_
  show Q11 Z q11_0 h0 n0 _ s₁.heap _
  rw [e0]
  exact ⟨rfl, N0, rfl⟩
theorem d12_0 : decode prog_50_method_13_code 0 = .ok (.lload_n 0, 1) := by decide +kernel
theorem d12_1 : decode prog_50_method_13_code 1 = .ok (.lload_n 2, 1) := by decide +kernel
theorem d12_2 : decode prog_50_method_13_code 2 = .ok (.l2i, 1) := by decide +kernel
theorem d12_3 : decode prog_50_method_13_code 3 = .ok (.invokestatic 77, 3) := by decide +kernel
theorem d12_6 : decode prog_50_method_13_code 6 = .ok (.lload 4, 2) := by decide +kernel
theorem d12_8 : decode prog_50_method_13_code 8 = .ok (.lmul, 1) := by decide +kernel
theorem d12_9 : decode prog_50_method_13_code 9 = .ok (.lreturn, 1) := by decide +kernel
theorem ef_12 (m : MethodId) (q12_0 : Int64) (q12_1 : Int64) (q12_2 : Int64) : entryFrame m #[(.long q12_0), (.long q12_1), (.long q12_2)] 6 = mkF m 0 #[.val (.long q12_0), .second, .val (.long q12_1), .second, .val (.long q12_2), .second] [] := by first | (simp [entryFrame, mkF, argsToLocals, Value.category]; done) | rfl
def r12 (q12_0 : Int64) (q12_1 : Int64) (q12_2 : Int64) : Int64 := ((r10 q12_0 q12_1.toInt32) * q12_2)
def Q12 (Z : State) (q12_0 : Int64) (q12_1 : Int64) (q12_2 : Int64) (h0 : Heap) (n0 : Nat) (v : Option Value) (h : Heap) (L : List Loc) : Prop := v = some (.long (r12 q12_0 q12_1 q12_2)) ∧ Fr n0 L ∧ h = h0
set_option maxRecDepth 65536 in
set_option maxHeartbeats 40000000 in
theorem rm12 (l : Launch) (Z : State) (a0 : Array Value) (hw : ∀ d ∈ tables_1, d.before a0 Z = true) (ws : List Jvm.Cond) (q12_0 : Int64) (q12_1 : Int64) (q12_2 : Int64) (h0 : Heap) (n0 : Nat) (Z0 : n0 ≤ h0.size) :
    MetFree l (⟨"com/example/forkstream/forkstream/TwinLinear", "turned", "(JJJ)J"⟩ : MethodName) (head1 (Jvm.Cond.code (⟨"com/example/forkstream/forkstream/TwinLinear", "turned", "(JJJ)J"⟩ : MethodName) prog_50_method_13_code 6 (some .long) :: ws) ({ frames := 1, cells := 0, slots := 0, locals := 14 } : Room)) (fun a U => a = #[(.long q12_0), (.long q12_1), (.long q12_2)] ∧ Z.Warmed39 U.vm ∧ U.heap = h0) (fun _ _ _ _ _ => True) (fun _ U o U' => ∃ v L, o = .returned v ∧ Q12 Z q12_0 q12_1 q12_2 h0 n0 v U'.heap L ∧ FrameEnd U o U' L ({ frames := 1, cells := 0, slots := 0, locals := 14 } : Room).cells ({ frames := 1, cells := 0, slots := 0, locals := 14 } : Room).slots) := by
  refine MetFree.of_bodySF (plainFor_of_name pn_com_example_forkstream_forkstream_TwinLinear) hisR ?_
  intro p e s m args below meth c s₁ Bd hml0 hP hK
  obtain ⟨rfl, hZ, hh⟩ := hP
  have hx := Bd.exec
  have hby := Bd.bytes
  have hlk := Bd.notSynchronized
  have hret := Bd.returns
  have hml : c.maxLocals = 6 := hml0
  have hown : s.vm.findClass "com/example/forkstream/forkstream/TwinLinear" = some m.cls := findClass_of_methodNamed Bd.named
  have hnm := (name_of_methodNamed Bd.named Bd.method).1
  have X0 : Stand p l e ({ frames := 1, cells := 0, slots := 0, locals := 14 } : Room) s m #[(.long q12_0), (.long q12_1), (.long q12_2)] below meth c s₁ [] 0 0 := Stand.of_body Bd
  have e0 : s₁.heap = h0 := by rw [← hh, Bd.state]; rfl
  have N0 := Fr.nil n0
  have K0 : Keep h0 h0 [] := Keep.refl _ _
  show own_G p e below s (Q12 Z q12_0 q12_1 q12_2 h0 n0) ({ frames := 1, cells := 0, slots := 0, locals := 14 } : Room).cells ({ frames := 1, cells := 0, slots := 0, locals := 14 } : Room).slots s₁ (entryFrame m #[(.long q12_0), (.long q12_1), (.long q12_2)] 6)
  have ww51 := hw _ (List.mem_of_getElem? (i := 51) rfl)
  have ww52 := hw _ (List.mem_of_getElem? (i := 52) rfl)
  have ww53 := hw _ (List.mem_of_getElem? (i := 53) rfl)
  have ww54 := hw _ (List.mem_of_getElem? (i := 54) rfl)
  refine own_cast (ef_12 m q12_0 q12_1 q12_2) ?_
  refine own_s (g' := (mkF m 1 #[.val (.long q12_0), .second, .val (.long q12_1), .second, .val (.long q12_2), .second] [(.long q12_0)])) (fun _ k => XS.lloadN X0.here hx rfl (hb hby d12_0) rfl k) ?_
  refine own_s (g' := (mkF m 2 #[.val (.long q12_0), .second, .val (.long q12_1), .second, .val (.long q12_2), .second] [(.long q12_1), (.long q12_0)])) (fun _ k => XS.lloadN X0.here hx rfl (hb hby d12_1) rfl k) ?_
  refine own_s (g' := (mkF m 3 #[.val (.long q12_0), .second, .val (.long q12_1), .second, .val (.long q12_2), .second] [(.int q12_1.toInt32), (.long q12_0)])) (fun _ k => XS.l2i X0.here hx rfl (hb hby d12_2) rfl k) ?_
  obtain ⟨_, _, ⟨T50, L50, k50, n50⟩, -, X50, ⟨Lc50, hQ50, l50, y50, z50⟩, st50⟩ := Jvm.LawKit.callS X0 hx (y := (⟨"java/lang/Long", "rotateLeft", "(JI)J"⟩ : MethodName)) hown (mvT hZ ww51) (mvT hZ ww52) (mvT hZ ww53) (mvT hZ ww54) (by decide) (backOf (W := 0) (rm10 l Z a0 hw [] q12_0 q12_1.toInt32 h0 n0 Z0 ) hZ ww54 ww53 (by decide) (by decide)) (g := (mkF m 3 #[.val (.long q12_0), .second, .val (.long q12_1), .second, .val (.long q12_2), .second] [(.int q12_1.toInt32), (.long q12_0)])) rfl (by rw [hml]; rfl) (argsL := [(.long q12_0), (.int q12_1.toInt32)]) (rest := []) (lenOf pd__JI_J rfl) rfl (by show 2 * 0 + _ ≤ _; exact Nat.le_of_eq rfl) (hb hby d12_3) (fun _ _ => ⟨rfl, e0, (by decide : 0 + 0 ≤ _), (by decide : 0 + 0 ≤ _)⟩)
  dsimp only [Pt.U, Pt.locs, Pt.cells, Pt.slots] at X50 l50 y50 z50 st50 hQ50
  subst l50 y50 z50
  obtain ⟨rfl, N50q, eh50⟩ := hQ50
  have N50 := Fr.app N0 N50q
  refine own_s (g' := (mkF m 6 #[.val (.long q12_0), .second, .val (.long q12_1), .second, .val (.long q12_2), .second] [(.long (r10 q12_0 q12_1.toInt32))])) st50 ?_
  refine own_s (g' := (mkF m 8 #[.val (.long q12_0), .second, .val (.long q12_1), .second, .val (.long q12_2), .second] [(.long q12_2), (.long (r10 q12_0 q12_1.toInt32))])) (fun _ k => XS.lload X50.here hx rfl (hb hby d12_6) rfl k) ?_
  refine own_s (g' := (mkF m 9 #[.val (.long q12_0), .second, .val (.long q12_1), .second, .val (.long q12_2), .second] [(.long ((r10 q12_0 q12_1.toInt32) * q12_2))])) (fun _ k => XS.lmul X50.here hx rfl (hb hby d12_8) rfl k) ?_
  refine own_retJ X50 hx hlk hret (hb hby d12_9) (by decide) (by decide) ?_
  show Q12 Z q12_0 q12_1 q12_2 h0 n0 _ T50.heap _
  rw [eh50]
  exact ⟨rfl, N50, rfl⟩
theorem pd__JJ_J : parseMethodDescriptor "(JJ)J" = some ⟨[.long, .long], some .long⟩ := by decide +kernel
theorem pd__J_J : parseMethodDescriptor "(J)J" = some ⟨[.long], some .long⟩ := by decide +kernel
theorem pd__JJJ_J : parseMethodDescriptor "(JJJ)J" = some ⟨[.long, .long, .long], some .long⟩ := by decide +kernel
theorem d8_0 : decode prog_50_method_10_code 0 = .ok (.lload_n 0, 1) := by decide +kernel
theorem d8_1 : decode prog_50_method_10_code 1 = .ok (.lload_n 2, 1) := by decide +kernel
theorem d8_2 : decode prog_50_method_10_code 2 = .ok (.invokestatic 66, 3) := by decide +kernel
theorem d8_5 : decode prog_50_method_10_code 5 = .ok (.lload_n 0, 1) := by decide +kernel
theorem d8_6 : decode prog_50_method_10_code 6 = .ok (.invokestatic 70, 3) := by decide +kernel
theorem d8_9 : decode prog_50_method_10_code 9 = .ok (.lload 4, 2) := by decide +kernel
theorem d8_11 : decode prog_50_method_10_code 11 = .ok (.invokestatic 74, 3) := by decide +kernel
theorem d8_14 : decode prog_50_method_10_code 14 = .ok (.lreturn, 1) := by decide +kernel
theorem ef_8 (m : MethodId) (q8_0 : Int64) (q8_1 : Int64) (q8_2 : Int64) : entryFrame m #[(.long q8_0), (.long q8_1), (.long q8_2)] 6 = mkF m 0 #[.val (.long q8_0), .second, .val (.long q8_1), .second, .val (.long q8_2), .second] [] := by first | (simp [entryFrame, mkF, argsToLocals, Value.category]; done) | rfl
def r8 (q8_0 : Int64) (q8_1 : Int64) (q8_2 : Int64) : Int64 := (r12 (r9 q8_0 q8_1) (r11 q8_0) q8_2)
def Q8 (Z : State) (q8_0 : Int64) (q8_1 : Int64) (q8_2 : Int64) (h0 : Heap) (n0 : Nat) (v : Option Value) (h : Heap) (L : List Loc) : Prop := v = some (.long (r8 q8_0 q8_1 q8_2)) ∧ Fr n0 L ∧ h = h0
set_option maxRecDepth 65536 in
set_option maxHeartbeats 40000000 in
theorem rm8 (l : Launch) (Z : State) (a0 : Array Value) (hw : ∀ d ∈ tables_1, d.before a0 Z = true) (ws : List Jvm.Cond) (q8_0 : Int64) (q8_1 : Int64) (q8_2 : Int64) (h0 : Heap) (n0 : Nat) (Z0 : n0 ≤ h0.size) :
    MetFree l (⟨"com/example/forkstream/forkstream/TwinLinear", "mix", "(JJJ)J"⟩ : MethodName) (head1 (Jvm.Cond.code (⟨"com/example/forkstream/forkstream/TwinLinear", "mix", "(JJJ)J"⟩ : MethodName) prog_50_method_10_code 6 (some .long) :: ws) ({ frames := 2, cells := 0, slots := 0, locals := 31 } : Room)) (fun a U => a = #[(.long q8_0), (.long q8_1), (.long q8_2)] ∧ Z.Warmed39 U.vm ∧ U.heap = h0) (fun _ _ _ _ _ => True) (fun _ U o U' => ∃ v L, o = .returned v ∧ Q8 Z q8_0 q8_1 q8_2 h0 n0 v U'.heap L ∧ FrameEnd U o U' L ({ frames := 2, cells := 0, slots := 0, locals := 31 } : Room).cells ({ frames := 2, cells := 0, slots := 0, locals := 31 } : Room).slots) := by
  refine MetFree.of_bodySF (plainFor_of_name pn_com_example_forkstream_forkstream_TwinLinear) hisR ?_
  intro p e s m args below meth c s₁ Bd hml0 hP hK
  obtain ⟨rfl, hZ, hh⟩ := hP
  have hx := Bd.exec
  have hby := Bd.bytes
  have hlk := Bd.notSynchronized
  have hret := Bd.returns
  have hml : c.maxLocals = 6 := hml0
  have hown : s.vm.findClass "com/example/forkstream/forkstream/TwinLinear" = some m.cls := findClass_of_methodNamed Bd.named
  have hnm := (name_of_methodNamed Bd.named Bd.method).1
  have X0 : Stand p l e ({ frames := 2, cells := 0, slots := 0, locals := 31 } : Room) s m #[(.long q8_0), (.long q8_1), (.long q8_2)] below meth c s₁ [] 0 0 := Stand.of_body Bd
  have e0 : s₁.heap = h0 := by rw [← hh, Bd.state]; rfl
  have N0 := Fr.nil n0
  have K0 : Keep h0 h0 [] := Keep.refl _ _
  show own_G p e below s (Q8 Z q8_0 q8_1 q8_2 h0 n0) ({ frames := 2, cells := 0, slots := 0, locals := 31 } : Room).cells ({ frames := 2, cells := 0, slots := 0, locals := 31 } : Room).slots s₁ (entryFrame m #[(.long q8_0), (.long q8_1), (.long q8_2)] 6)
  have ww2 := hw _ (List.mem_of_getElem? (i := 2) rfl)
  have ww48 := hw _ (List.mem_of_getElem? (i := 48) rfl)
  have ww49 := hw _ (List.mem_of_getElem? (i := 49) rfl)
  have ww50 := hw _ (List.mem_of_getElem? (i := 50) rfl)
  have ww55 := hw _ (List.mem_of_getElem? (i := 55) rfl)
  have ww56 := hw _ (List.mem_of_getElem? (i := 56) rfl)
  have ww57 := hw _ (List.mem_of_getElem? (i := 57) rfl)
  have ww58 := hw _ (List.mem_of_getElem? (i := 58) rfl)
  have ww59 := hw _ (List.mem_of_getElem? (i := 59) rfl)
  have ww60 := hw _ (List.mem_of_getElem? (i := 60) rfl)
  refine own_cast (ef_8 m q8_0 q8_1 q8_2) ?_
  refine own_s (g' := (mkF m 1 #[.val (.long q8_0), .second, .val (.long q8_1), .second, .val (.long q8_2), .second] [(.long q8_0)])) (fun _ k => XS.lloadN X0.here hx rfl (hb hby d8_0) rfl k) ?_
  refine own_s (g' := (mkF m 2 #[.val (.long q8_0), .second, .val (.long q8_1), .second, .val (.long q8_2), .second] [(.long q8_1), (.long q8_0)])) (fun _ k => XS.lloadN X0.here hx rfl (hb hby d8_1) rfl k) ?_
  obtain ⟨_, _, ⟨T51, L51, k51, n51⟩, -, X51, ⟨Lc51, hQ51, l51, y51, z51⟩, st51⟩ := Jvm.LawKit.callS X0 hx (y := (⟨"com/example/forkstream/forkstream/TwinLinear", "fold", "(JJ)J"⟩ : MethodName)) hown (mvT hZ ww48) (mvT hZ ww49) (mvT hZ ww2) (mvT hZ ww50) (by decide) (backOf (W := 0) (rm9 l Z a0 hw [] q8_0 q8_1 h0 n0 Z0 ) hZ ww50 ww2 (by decide) (by decide)) (g := (mkF m 2 #[.val (.long q8_0), .second, .val (.long q8_1), .second, .val (.long q8_2), .second] [(.long q8_1), (.long q8_0)])) rfl (by rw [hml]; rfl) (argsL := [(.long q8_0), (.long q8_1)]) (rest := []) (lenOf pd__JJ_J rfl) rfl (by show 2 * 0 + _ ≤ _; exact Nat.le_of_eq rfl) (hb hby d8_2) (fun _ _ => ⟨rfl, e0, (by decide : 0 + 0 ≤ _), (by decide : 0 + 0 ≤ _)⟩)
  dsimp only [Pt.U, Pt.locs, Pt.cells, Pt.slots] at X51 l51 y51 z51 st51 hQ51
  subst l51 y51 z51
  obtain ⟨rfl, N51q, eh51⟩ := hQ51
  have N51 := Fr.app N0 N51q
  refine own_s (g' := (mkF m 5 #[.val (.long q8_0), .second, .val (.long q8_1), .second, .val (.long q8_2), .second] [(.long (r9 q8_0 q8_1))])) st51 ?_
  refine own_s (g' := (mkF m 6 #[.val (.long q8_0), .second, .val (.long q8_1), .second, .val (.long q8_2), .second] [(.long q8_0), (.long (r9 q8_0 q8_1))])) (fun _ k => XS.lloadN X51.here hx rfl (hb hby d8_5) rfl k) ?_
  obtain ⟨_, _, ⟨T52, L52, k52, n52⟩, -, X52, ⟨Lc52, hQ52, l52, y52, z52⟩, st52⟩ := Jvm.LawKit.callS X51 hx (y := (⟨"com/example/forkstream/forkstream/TwinLinear", "turn", "(J)J"⟩ : MethodName)) hown (mvT hZ ww55) (mvT hZ ww56) (mvT hZ ww2) (mvT hZ ww57) (by decide) (backOf (W := 2) (rm11 l Z a0 hw [] q8_0 h0 n0 Z0 ) hZ ww57 ww2 (by decide) (by decide)) (g := (mkF m 6 #[.val (.long q8_0), .second, .val (.long q8_1), .second, .val (.long q8_2), .second] [(.long q8_0), (.long (r9 q8_0 q8_1))])) rfl (by rw [hml]; rfl) (argsL := [(.long q8_0)]) (rest := [(.long (r9 q8_0 q8_1))]) (lenOf pd__J_J rfl) rfl (by show 2 * 0 + _ ≤ _; exact Nat.le_of_eq rfl) (hb hby d8_6) (fun _ _ => ⟨rfl, eh51, (by decide : 0 + 0 ≤ _), (by decide : 0 + 0 ≤ _)⟩)
  dsimp only [Pt.U, Pt.locs, Pt.cells, Pt.slots] at X52 l52 y52 z52 st52 hQ52
  subst l52 y52 z52
  obtain ⟨rfl, N52q, eh52⟩ := hQ52
  have N52 := Fr.app N51 N52q
  refine own_s (g' := (mkF m 9 #[.val (.long q8_0), .second, .val (.long q8_1), .second, .val (.long q8_2), .second] [(.long (r11 q8_0)), (.long (r9 q8_0 q8_1))])) st52 ?_
  refine own_s (g' := (mkF m 11 #[.val (.long q8_0), .second, .val (.long q8_1), .second, .val (.long q8_2), .second] [(.long q8_2), (.long (r11 q8_0)), (.long (r9 q8_0 q8_1))])) (fun _ k => XS.lload X52.here hx rfl (hb hby d8_9) rfl k) ?_
  obtain ⟨_, _, ⟨T53, L53, k53, n53⟩, -, X53, ⟨Lc53, hQ53, l53, y53, z53⟩, st53⟩ := Jvm.LawKit.callS X52 hx (y := (⟨"com/example/forkstream/forkstream/TwinLinear", "turned", "(JJJ)J"⟩ : MethodName)) hown (mvT hZ ww58) (mvT hZ ww59) (mvT hZ ww2) (mvT hZ ww60) (by decide) (backOf (W := 0) (rm12 l Z a0 hw [] (r9 q8_0 q8_1) (r11 q8_0) q8_2 h0 n0 Z0 ) hZ ww60 ww2 (by decide) (by decide)) (g := (mkF m 11 #[.val (.long q8_0), .second, .val (.long q8_1), .second, .val (.long q8_2), .second] [(.long q8_2), (.long (r11 q8_0)), (.long (r9 q8_0 q8_1))])) rfl (by rw [hml]; rfl) (argsL := [(.long (r9 q8_0 q8_1)), (.long (r11 q8_0)), (.long q8_2)]) (rest := []) (lenOf pd__JJJ_J rfl) rfl (by show 2 * 0 + _ ≤ _; exact Nat.le_of_eq rfl) (hb hby d8_11) (fun _ _ => ⟨rfl, eh52, (by decide : 0 + 0 ≤ _), (by decide : 0 + 0 ≤ _)⟩)
  dsimp only [Pt.U, Pt.locs, Pt.cells, Pt.slots] at X53 l53 y53 z53 st53 hQ53
  subst l53 y53 z53
  obtain ⟨rfl, N53q, eh53⟩ := hQ53
  have N53 := Fr.app N52 N53q
  refine own_s (g' := (mkF m 14 #[.val (.long q8_0), .second, .val (.long q8_1), .second, .val (.long q8_2), .second] [(.long (r12 (r9 q8_0 q8_1) (r11 q8_0) q8_2))])) st53 ?_
  refine own_retJ X53 hx hlk hret (hb hby d8_14) (by decide) (by decide) ?_
  show Q8 Z q8_0 q8_1 q8_2 h0 n0 _ T53.heap _
  rw [eh53]
  exact ⟨rfl, N53, rfl⟩
theorem d14_0 : decode prog_50_method_15_code 0 = .ok (.lload_n 0, 1) := by decide +kernel
theorem d14_1 : decode prog_50_method_15_code 1 = .ok (.lload_n 2, 1) := by decide +kernel
theorem d14_2 : decode prog_50_method_15_code 2 = .ok (.lmul, 1) := by decide +kernel
theorem d14_3 : decode prog_50_method_15_code 3 = .ok (.lload 4, 2) := by decide +kernel
theorem d14_5 : decode prog_50_method_15_code 5 = .ok (.ladd, 1) := by decide +kernel
theorem d14_6 : decode prog_50_method_15_code 6 = .ok (.lreturn, 1) := by decide +kernel
theorem ef_14 (m : MethodId) (q14_0 : Int64) (q14_1 : Int64) (q14_2 : Int64) : entryFrame m #[(.long q14_0), (.long q14_1), (.long q14_2)] 6 = mkF m 0 #[.val (.long q14_0), .second, .val (.long q14_1), .second, .val (.long q14_2), .second] [] := by first | (simp [entryFrame, mkF, argsToLocals, Value.category]; done) | rfl
def Q14 (Z : State) (q14_0 : Int64) (q14_1 : Int64) (q14_2 : Int64) (h0 : Heap) (n0 : Nat) (v : Option Value) (h : Heap) (L : List Loc) : Prop := v = some (.long ((q14_0 * q14_1) + q14_2)) ∧ Fr n0 L ∧ h = h0
set_option maxRecDepth 65536 in
set_option maxHeartbeats 40000000 in
theorem rm14 (l : Launch) (Z : State) (a0 : Array Value) (hw : ∀ d ∈ tables_1, d.before a0 Z = true) (ws : List Jvm.Cond) (q14_0 : Int64) (q14_1 : Int64) (q14_2 : Int64) (h0 : Heap) (n0 : Nat) (Z0 : n0 ≤ h0.size) :
    MetFree l (⟨"com/example/forkstream/forkstream/TwinLinear", "stepped", "(JJJ)J"⟩ : MethodName) (head1 (Jvm.Cond.code (⟨"com/example/forkstream/forkstream/TwinLinear", "stepped", "(JJJ)J"⟩ : MethodName) prog_50_method_15_code 6 (some .long) :: ws) ({ frames := 0, cells := 0, slots := 0, locals := 0 } : Room)) (fun a U => a = #[(.long q14_0), (.long q14_1), (.long q14_2)] ∧ Z.Warmed39 U.vm ∧ U.heap = h0) (fun _ _ _ _ _ => True) (fun _ U o U' => ∃ v L, o = .returned v ∧ Q14 Z q14_0 q14_1 q14_2 h0 n0 v U'.heap L ∧ FrameEnd U o U' L ({ frames := 0, cells := 0, slots := 0, locals := 0 } : Room).cells ({ frames := 0, cells := 0, slots := 0, locals := 0 } : Room).slots) := by
  refine MetFree.of_bodySF (plainFor_of_name pn_com_example_forkstream_forkstream_TwinLinear) hisR ?_
  intro p e s m args below meth c s₁ Bd hml0 hP hK
  obtain ⟨rfl, hZ, hh⟩ := hP
  have hx := Bd.exec
  have hby := Bd.bytes
  have hlk := Bd.notSynchronized
  have hret := Bd.returns
  have hml : c.maxLocals = 6 := hml0
  have hown : s.vm.findClass "com/example/forkstream/forkstream/TwinLinear" = some m.cls := findClass_of_methodNamed Bd.named
  have hnm := (name_of_methodNamed Bd.named Bd.method).1
  have X0 : Stand p l e ({ frames := 0, cells := 0, slots := 0, locals := 0 } : Room) s m #[(.long q14_0), (.long q14_1), (.long q14_2)] below meth c s₁ [] 0 0 := Stand.of_body Bd
  have e0 : s₁.heap = h0 := by rw [← hh, Bd.state]; rfl
  have N0 := Fr.nil n0
  have K0 : Keep h0 h0 [] := Keep.refl _ _
  show own_G p e below s (Q14 Z q14_0 q14_1 q14_2 h0 n0) ({ frames := 0, cells := 0, slots := 0, locals := 0 } : Room).cells ({ frames := 0, cells := 0, slots := 0, locals := 0 } : Room).slots s₁ (entryFrame m #[(.long q14_0), (.long q14_1), (.long q14_2)] 6)
  refine own_cast (ef_14 m q14_0 q14_1 q14_2) ?_
  refine own_s (g' := (mkF m 1 #[.val (.long q14_0), .second, .val (.long q14_1), .second, .val (.long q14_2), .second] [(.long q14_0)])) (fun _ k => XS.lloadN X0.here hx rfl (hb hby d14_0) rfl k) ?_
  refine own_s (g' := (mkF m 2 #[.val (.long q14_0), .second, .val (.long q14_1), .second, .val (.long q14_2), .second] [(.long q14_1), (.long q14_0)])) (fun _ k => XS.lloadN X0.here hx rfl (hb hby d14_1) rfl k) ?_
  refine own_s (g' := (mkF m 3 #[.val (.long q14_0), .second, .val (.long q14_1), .second, .val (.long q14_2), .second] [(.long (q14_0 * q14_1))])) (fun _ k => XS.lmul X0.here hx rfl (hb hby d14_2) rfl k) ?_
  refine own_s (g' := (mkF m 5 #[.val (.long q14_0), .second, .val (.long q14_1), .second, .val (.long q14_2), .second] [(.long q14_2), (.long (q14_0 * q14_1))])) (fun _ k => XS.lload X0.here hx rfl (hb hby d14_3) rfl k) ?_
  refine own_s (g' := (mkF m 6 #[.val (.long q14_0), .second, .val (.long q14_1), .second, .val (.long q14_2), .second] [(.long ((q14_0 * q14_1) + q14_2))])) (fun _ k => XS.ladd X0.here hx rfl (hb hby d14_5) rfl k) ?_
  refine own_retJ X0 hx hlk hret (hb hby d14_6) (by decide) (by decide) ?_
  show Q14 Z q14_0 q14_1 q14_2 h0 n0 _ s₁.heap _
  rw [e0]
  exact ⟨rfl, N0, rfl⟩
theorem d13_0 : decode prog_50_method_14_code 0 = .ok (.aload_n 0, 1) := by decide +kernel
theorem d13_1 : decode prog_50_method_14_code 1 = .ok (.ldc2_w 83, 3) := by decide +kernel
theorem d13_4 : decode prog_50_method_14_code 4 = .ok (.aload_n 0, 1) := by decide +kernel
theorem d13_5 : decode prog_50_method_14_code 5 = .ok (.getfield 7, 3) := by decide +kernel
theorem d13_8 : decode prog_50_method_14_code 8 = .ok (.aload_n 0, 1) := by decide +kernel
theorem d13_9 : decode prog_50_method_14_code 9 = .ok (.getfield 16, 3) := by decide +kernel
theorem d13_12 : decode prog_50_method_14_code 12 = .ok (.invokestatic 85, 3) := by decide +kernel
theorem d13_15 : decode prog_50_method_14_code 15 = .ok (.putfield 7, 3) := by decide +kernel
theorem d13_18 : decode prog_50_method_14_code 18 = .ok (.aload_n 0, 1) := by decide +kernel
theorem d13_19 : decode prog_50_method_14_code 19 = .ok (.ldc2_w 88, 3) := by decide +kernel
theorem d13_22 : decode prog_50_method_14_code 22 = .ok (.aload_n 0, 1) := by decide +kernel
theorem d13_23 : decode prog_50_method_14_code 23 = .ok (.getfield 13, 3) := by decide +kernel
theorem d13_26 : decode prog_50_method_14_code 26 = .ok (.aload_n 0, 1) := by decide +kernel
theorem d13_27 : decode prog_50_method_14_code 27 = .ok (.getfield 19, 3) := by decide +kernel
theorem d13_30 : decode prog_50_method_14_code 30 = .ok (.invokestatic 85, 3) := by decide +kernel
theorem d13_33 : decode prog_50_method_14_code 33 = .ok (.putfield 13, 3) := by decide +kernel
theorem d13_36 : decode prog_50_method_14_code 36 = .ok (.return_, 1) := by decide +kernel
theorem ef_13 (m : MethodId) (a13_0 : Addr) : entryFrame m #[(.ref a13_0)] 1 = mkF m 0 #[.val (.ref a13_0)] [] := by first | (simp [entryFrame, mkF, argsToLocals, Value.category]; done) | rfl
def Q13 (Z : State) (a13_0 : Addr) (v13_s1 : Int64) (v13_g1 : Int64) (v13_s2 : Int64) (v13_g2 : Int64) (h0 : Heap) (n0 : Nat) (v : Option Value) (h : Heap) (L : List Loc) : Prop := v = none ∧ Fr n0 L ∧ Keep h0 h [a13_0] ∧ Exa Z h a13_0 "com/example/forkstream/forkstream/TwinLinear" ∧ Fld Z h a13_0 "com/example/forkstream/forkstream/TwinLinear" "g1" "J" (.long v13_g1) ∧ Fld Z h a13_0 "com/example/forkstream/forkstream/TwinLinear" "g2" "J" (.long v13_g2) ∧ Fld Z h a13_0 "com/example/forkstream/forkstream/TwinLinear" "s1" "J" (.long (((3202034522624059733 : Int64) * v13_s1) + v13_g1)) ∧ Fld Z h a13_0 "com/example/forkstream/forkstream/TwinLinear" "s2" "J" (.long (((3935559000370003845 : Int64) * v13_s2) + v13_g2))
set_option maxRecDepth 65536 in
set_option maxHeartbeats 40000000 in
theorem rm13 (l : Launch) (Z : State) (a0 : Array Value) (hw : ∀ d ∈ tables_1, d.before a0 Z = true) (ws : List Jvm.Cond) (a13_0 : Addr) (v13_s1 : Int64) (v13_g1 : Int64) (v13_s2 : Int64) (v13_g2 : Int64) (h0 : Heap) (n0 : Nat) (Z0 : n0 ≤ h0.size) (F_s1_a13_0 : Fld Z h0 a13_0 "com/example/forkstream/forkstream/TwinLinear" "s1" "J" (.long v13_s1)) (F_g1_a13_0 : Fld Z h0 a13_0 "com/example/forkstream/forkstream/TwinLinear" "g1" "J" (.long v13_g1)) (F_s2_a13_0 : Fld Z h0 a13_0 "com/example/forkstream/forkstream/TwinLinear" "s2" "J" (.long v13_s2)) (F_g2_a13_0 : Fld Z h0 a13_0 "com/example/forkstream/forkstream/TwinLinear" "g2" "J" (.long v13_g2)) (E_a13_0 : Exa Z h0 a13_0 "com/example/forkstream/forkstream/TwinLinear") (g_a13_0 : n0 ≤ a13_0) :
    MetFree l (⟨"com/example/forkstream/forkstream/TwinLinear", "step", "()V"⟩ : MethodName) (head1 (Jvm.Cond.code (⟨"com/example/forkstream/forkstream/TwinLinear", "step", "()V"⟩ : MethodName) prog_50_method_14_code 1 none :: ws) ({ frames := 1, cells := 0, slots := 0, locals := 18 } : Room)) (fun a U => a = #[(.ref a13_0)] ∧ Z.Warmed39 U.vm ∧ U.heap = h0) (fun _ _ _ _ _ => True) (fun _ U o U' => ∃ v L, o = .returned v ∧ Q13 Z a13_0 v13_s1 v13_g1 v13_s2 v13_g2 h0 n0 v U'.heap L ∧ FrameEnd U o U' L ({ frames := 1, cells := 0, slots := 0, locals := 18 } : Room).cells ({ frames := 1, cells := 0, slots := 0, locals := 18 } : Room).slots) := by
  refine MetFree.of_bodySF (plainFor_of_name pn_com_example_forkstream_forkstream_TwinLinear) hisR ?_
  intro p e s m args below meth c s₁ Bd hml0 hP hK
  obtain ⟨rfl, hZ, hh⟩ := hP
  have hx := Bd.exec
  have hby := Bd.bytes
  have hlk := Bd.notSynchronized
  have hret := Bd.returns
  have hml : c.maxLocals = 1 := hml0
  have hown : s.vm.findClass "com/example/forkstream/forkstream/TwinLinear" = some m.cls := findClass_of_methodNamed Bd.named
  have hnm := (name_of_methodNamed Bd.named Bd.method).1
  have X0 : Stand p l e ({ frames := 1, cells := 0, slots := 0, locals := 18 } : Room) s m #[(.ref a13_0)] below meth c s₁ [] 0 0 := Stand.of_body Bd
  have e0 : s₁.heap = h0 := by rw [← hh, Bd.state]; rfl
  have N0 := Fr.nil n0
  have K0 : Keep h0 h0 [a13_0] := Keep.refl _ _
  show own_G p e below s (Q13 Z a13_0 v13_s1 v13_g1 v13_s2 v13_g2 h0 n0) ({ frames := 1, cells := 0, slots := 0, locals := 18 } : Room).cells ({ frames := 1, cells := 0, slots := 0, locals := 18 } : Room).slots s₁ (entryFrame m #[(.ref a13_0)] 1)
  have ww1 := hw _ (List.mem_of_getElem? (i := 1) rfl)
  have ww2 := hw _ (List.mem_of_getElem? (i := 2) rfl)
  have ww19 := hw _ (List.mem_of_getElem? (i := 19) rfl)
  have ww20 := hw _ (List.mem_of_getElem? (i := 20) rfl)
  have ww21 := hw _ (List.mem_of_getElem? (i := 21) rfl)
  have ww22 := hw _ (List.mem_of_getElem? (i := 22) rfl)
  have ww23 := hw _ (List.mem_of_getElem? (i := 23) rfl)
  have ww25 := hw _ (List.mem_of_getElem? (i := 25) rfl)
  have ww65 := hw _ (List.mem_of_getElem? (i := 65) rfl)
  have ww66 := hw _ (List.mem_of_getElem? (i := 66) rfl)
  have ww67 := hw _ (List.mem_of_getElem? (i := 67) rfl)
  have ww68 := hw _ (List.mem_of_getElem? (i := 68) rfl)
  have ww69 := hw _ (List.mem_of_getElem? (i := 69) rfl)
  refine own_cast (ef_13 m a13_0) ?_
  refine own_s (g' := (mkF m 1 #[.val (.ref a13_0)] [(.ref a13_0)])) (fun _ k => XS.aloadN X0.here hx rfl (hb hby d13_0) rfl rfl k) ?_
  refine own_s (g' := (mkF m 4 #[.val (.ref a13_0)] [(.long 3202034522624059733), (.ref a13_0)])) (X0.ldc2Long hx hown (mvT hZ ww65) (g := (mkF m 1 #[.val (.ref a13_0)] [(.ref a13_0)])) rfl (hb hby d13_1)) ?_
  refine own_s (g' := (mkF m 5 #[.val (.ref a13_0)] [(.ref a13_0), (.long 3202034522624059733), (.ref a13_0)])) (fun _ k => XS.aloadN X0.here hx rfl (hb hby d13_4) rfl rfl k) ?_
  obtain ⟨T54, X54, e54, st54⟩ := getF X0 hx hZ hown (host := "") (Or.inl ww19) Via.refl e0 F_s1_a13_0 (g := (mkF m 5 #[.val (.ref a13_0)] [(.ref a13_0), (.long 3202034522624059733), (.ref a13_0)])) rfl rfl (hb hby d13_5)
  refine own_s (g' := (mkF m 8 #[.val (.ref a13_0)] [(.long v13_s1), (.long 3202034522624059733), (.ref a13_0)])) st54 ?_
  refine own_s (g' := (mkF m 9 #[.val (.ref a13_0)] [(.ref a13_0), (.long v13_s1), (.long 3202034522624059733), (.ref a13_0)])) (fun _ k => XS.aloadN X54.here hx rfl (hb hby d13_8) rfl rfl k) ?_
  obtain ⟨T55, X55, e55, st55⟩ := getF X54 hx hZ hown (host := "") (Or.inl ww23) Via.refl e54 F_g1_a13_0 (g := (mkF m 9 #[.val (.ref a13_0)] [(.ref a13_0), (.long v13_s1), (.long 3202034522624059733), (.ref a13_0)])) rfl rfl (hb hby d13_9)
  refine own_s (g' := (mkF m 12 #[.val (.ref a13_0)] [(.long v13_g1), (.long v13_s1), (.long 3202034522624059733), (.ref a13_0)])) st55 ?_
  obtain ⟨_, _, ⟨T56, L56, k56, n56⟩, -, X56, ⟨Lc56, hQ56, l56, y56, z56⟩, st56⟩ := Jvm.LawKit.callS X55 hx (y := (⟨"com/example/forkstream/forkstream/TwinLinear", "stepped", "(JJJ)J"⟩ : MethodName)) hown (mvT hZ ww66) (mvT hZ ww67) (mvT hZ ww2) (mvT hZ ww68) (by decide) (backOf (W := 1) (rm14 l Z a0 hw [] (3202034522624059733 : Int64) v13_s1 v13_g1 h0 n0 Z0 ) hZ ww68 ww2 (by decide) (by decide)) (g := (mkF m 12 #[.val (.ref a13_0)] [(.long v13_g1), (.long v13_s1), (.long 3202034522624059733), (.ref a13_0)])) rfl (by rw [hml]; rfl) (argsL := [(.long 3202034522624059733), (.long v13_s1), (.long v13_g1)]) (rest := [(.ref a13_0)]) (lenOf pd__JJJ_J rfl) rfl (by show 2 * 0 + _ ≤ _; exact Nat.le_of_eq rfl) (hb hby d13_12) (fun _ _ => ⟨rfl, e55, (by decide : 0 + 0 ≤ _), (by decide : 0 + 0 ≤ _)⟩)
  dsimp only [Pt.U, Pt.locs, Pt.cells, Pt.slots] at X56 l56 y56 z56 st56 hQ56
  subst l56 y56 z56
  obtain ⟨rfl, N56q, eh56⟩ := hQ56
  have N56 := Fr.app N0 N56q
  refine own_s (g' := (mkF m 15 #[.val (.ref a13_0)] [(.long (((3202034522624059733 : Int64) * v13_s1) + v13_g1)), (.ref a13_0)])) st56 ?_
  obtain ⟨T57, h57, X57, e57, W57, st57⟩ := putF X56 hx hZ hown (host := "") (Or.inl ww19) Via.refl eh56 F_s1_a13_0 E_a13_0 (Or.inl ww20) ww1 (ty := .long) (by decide +kernel) rfl rfl (g := (mkF m 15 #[.val (.ref a13_0)] [(.long (((3202034522624059733 : Int64) * v13_s1) + v13_g1)), (.ref a13_0)])) rfl rfl (hb hby d13_15)
  have f58 := F_s1_a13_0.same W57
  have K57 := K0.wr W57 (Or.inl (List.mem_of_getElem? (i := 0) rfl))
  have N57 := Fr.snoc X57 N56 g_a13_0
  refine own_s (g' := (mkF m 18 #[.val (.ref a13_0)] [])) st57 ?_
  refine own_s (g' := (mkF m 19 #[.val (.ref a13_0)] [(.ref a13_0)])) (fun _ k => XS.aloadN X57.here hx rfl (hb hby d13_18) rfl rfl k) ?_
  refine own_s (g' := (mkF m 22 #[.val (.ref a13_0)] [(.long 3935559000370003845), (.ref a13_0)])) (X57.ldc2Long hx hown (mvT hZ ww69) (g := (mkF m 19 #[.val (.ref a13_0)] [(.ref a13_0)])) rfl (hb hby d13_19)) ?_
  refine own_s (g' := (mkF m 23 #[.val (.ref a13_0)] [(.ref a13_0), (.long 3935559000370003845), (.ref a13_0)])) (fun _ k => XS.aloadN X57.here hx rfl (hb hby d13_22) rfl rfl k) ?_
  have f59 := (F_s2_a13_0.other W57 (Or.inr (own_sn_22_20 hw)))
  obtain ⟨T60, X60, e60, st60⟩ := getF X57 hx hZ hown (host := "") (Or.inl ww21) Via.refl e57 f59 (g := (mkF m 23 #[.val (.ref a13_0)] [(.ref a13_0), (.long 3935559000370003845), (.ref a13_0)])) rfl rfl (hb hby d13_23)
  refine own_s (g' := (mkF m 26 #[.val (.ref a13_0)] [(.long v13_s2), (.long 3935559000370003845), (.ref a13_0)])) st60 ?_
  refine own_s (g' := (mkF m 27 #[.val (.ref a13_0)] [(.ref a13_0), (.long v13_s2), (.long 3935559000370003845), (.ref a13_0)])) (fun _ k => XS.aloadN X60.here hx rfl (hb hby d13_26) rfl rfl k) ?_
  have f61 := (F_g2_a13_0.other W57 (Or.inr (own_sn_26_20 hw)))
  obtain ⟨T62, X62, e62, st62⟩ := getF X60 hx hZ hown (host := "") (Or.inl ww25) Via.refl e60 f61 (g := (mkF m 27 #[.val (.ref a13_0)] [(.ref a13_0), (.long v13_s2), (.long 3935559000370003845), (.ref a13_0)])) rfl rfl (hb hby d13_27)
  refine own_s (g' := (mkF m 30 #[.val (.ref a13_0)] [(.long v13_g2), (.long v13_s2), (.long 3935559000370003845), (.ref a13_0)])) st62 ?_
  obtain ⟨_, _, ⟨T63, L63, k63, n63⟩, -, X63, ⟨Lc63, hQ63, l63, y63, z63⟩, st63⟩ := Jvm.LawKit.callS X62 hx (y := (⟨"com/example/forkstream/forkstream/TwinLinear", "stepped", "(JJJ)J"⟩ : MethodName)) hown (mvT hZ ww66) (mvT hZ ww67) (mvT hZ ww2) (mvT hZ ww68) (by decide) (backOf (W := 1) (rm14 l Z a0 hw [] (3935559000370003845 : Int64) v13_s2 v13_g2 h57 n0 (Nat.le_trans Z0 K57.1) ) hZ ww68 ww2 (by decide) (by decide)) (g := (mkF m 30 #[.val (.ref a13_0)] [(.long v13_g2), (.long v13_s2), (.long 3935559000370003845), (.ref a13_0)])) rfl (by rw [hml]; rfl) (argsL := [(.long 3935559000370003845), (.long v13_s2), (.long v13_g2)]) (rest := [(.ref a13_0)]) (lenOf pd__JJJ_J rfl) rfl (by show 2 * 0 + _ ≤ _; exact Nat.le_of_eq rfl) (hb hby d13_30) (fun _ _ => ⟨rfl, e62, (by decide : 0 + 0 ≤ _), (by decide : 0 + 0 ≤ _)⟩)
  dsimp only [Pt.U, Pt.locs, Pt.cells, Pt.slots] at X63 l63 y63 z63 st63 hQ63
  subst l63 y63 z63
  obtain ⟨rfl, N63q, eh63⟩ := hQ63
  have N63 := Fr.app N57 N63q
  refine own_s (g' := (mkF m 33 #[.val (.ref a13_0)] [(.long (((3935559000370003845 : Int64) * v13_s2) + v13_g2)), (.ref a13_0)])) st63 ?_
  have f64 := (E_a13_0.wr W57)
  obtain ⟨T65, h65, X65, e65, W65, st65⟩ := putF X63 hx hZ hown (host := "") (Or.inl ww21) Via.refl eh63 f59 f64 (Or.inl ww22) ww1 (ty := .long) (by decide +kernel) rfl rfl (g := (mkF m 33 #[.val (.ref a13_0)] [(.long (((3935559000370003845 : Int64) * v13_s2) + v13_g2)), (.ref a13_0)])) rfl rfl (hb hby d13_33)
  have f66 := f59.same W65
  have K65 := K57.wr W65 (Or.inl (List.mem_of_getElem? (i := 0) rfl))
  have N65 := Fr.snoc X65 N63 g_a13_0
  refine own_s (g' := (mkF m 36 #[.val (.ref a13_0)] [])) st65 ?_
  have f67 := ((F_g1_a13_0.other W57 (Or.inr (own_sn_24_20 hw))).other W65 (Or.inr (own_sn_24_22 hw)))
  have f68 := (f61.other W65 (Or.inr (own_sn_26_22 hw)))
  have f69 := (f64.wr W65)
  have f70 := (f58.other W65 (Or.inr (own_sn_20_22 hw)))
  refine own_retV X65 hx hlk hret (hb hby d13_36) (by decide) (by decide) ?_
  show Q13 Z a13_0 v13_s1 v13_g1 v13_s2 v13_g2 h0 n0 _ T65.heap _
  rw [e65]
  exact ⟨rfl, N65, K65, f69, f67, f68, f70, f66⟩
theorem d7_0 : decode prog_50_method_8_code 0 = .ok (.aload_n 0, 1) := by decide +kernel
theorem d7_1 : decode prog_50_method_8_code 1 = .ok (.getfield 7, 3) := by decide +kernel
theorem d7_4 : decode prog_50_method_8_code 4 = .ok (.aload_n 0, 1) := by decide +kernel
theorem d7_5 : decode prog_50_method_8_code 5 = .ok (.getfield 13, 3) := by decide +kernel
theorem d7_8 : decode prog_50_method_8_code 8 = .ok (.ldc2_w 57, 3) := by decide +kernel
theorem d7_11 : decode prog_50_method_8_code 11 = .ok (.invokestatic 59, 3) := by decide +kernel
theorem d7_14 : decode prog_50_method_8_code 14 = .ok (.lstore_n 1, 1) := by decide +kernel
theorem d7_15 : decode prog_50_method_8_code 15 = .ok (.aload_n 0, 1) := by decide +kernel
theorem d7_16 : decode prog_50_method_8_code 16 = .ok (.invokevirtual 63, 3) := by decide +kernel
theorem d7_19 : decode prog_50_method_8_code 19 = .ok (.lload_n 1, 1) := by decide +kernel
theorem d7_20 : decode prog_50_method_8_code 20 = .ok (.lload_n 1, 1) := by decide +kernel
theorem d7_21 : decode prog_50_method_8_code 21 = .ok (.bipush 32, 2) := by decide +kernel
theorem d7_23 : decode prog_50_method_8_code 23 = .ok (.lushr, 1) := by decide +kernel
theorem d7_24 : decode prog_50_method_8_code 24 = .ok (.lxor, 1) := by decide +kernel
theorem d7_25 : decode prog_50_method_8_code 25 = .ok (.lreturn, 1) := by decide +kernel
theorem ef_7 (m : MethodId) (a7_0 : Addr) : entryFrame m #[(.ref a7_0)] 3 = mkF m 0 #[.val (.ref a7_0), .unset, .unset] [] := by first | (simp [entryFrame, mkF, argsToLocals, Value.category]; done) | rfl
def r7 (v7_s1 : Int64) (v7_s2 : Int64) : Int64 := ((r8 v7_s1 v7_s2 (2685821657736338717 : Int64)) ^^^ (((r8 v7_s1 v7_s2 (2685821657736338717 : Int64)).toUInt64 >>> ((32 : Int32) &&& 0x3f).toInt64.toUInt64).toInt64))
def Q7 (Z : State) (a7_0 : Addr) (v7_s1 : Int64) (v7_s2 : Int64) (v7_g1 : Int64) (v7_g2 : Int64) (h0 : Heap) (n0 : Nat) (v : Option Value) (h : Heap) (L : List Loc) : Prop := v = some (.long (r7 v7_s1 v7_s2)) ∧ Fr n0 L ∧ Keep h0 h [a7_0] ∧ Exa Z h a7_0 "com/example/forkstream/forkstream/TwinLinear" ∧ Fld Z h a7_0 "com/example/forkstream/forkstream/TwinLinear" "g1" "J" (.long v7_g1) ∧ Fld Z h a7_0 "com/example/forkstream/forkstream/TwinLinear" "g2" "J" (.long v7_g2) ∧ Fld Z h a7_0 "com/example/forkstream/forkstream/TwinLinear" "s1" "J" (.long (((3202034522624059733 : Int64) * v7_s1) + v7_g1)) ∧ Fld Z h a7_0 "com/example/forkstream/forkstream/TwinLinear" "s2" "J" (.long (((3935559000370003845 : Int64) * v7_s2) + v7_g2))
set_option maxRecDepth 65536 in
set_option maxHeartbeats 40000000 in
theorem rm7 (l : Launch) (Z : State) (a0 : Array Value) (hw : ∀ d ∈ tables_1, d.before a0 Z = true) (ws : List Jvm.Cond) (a7_0 : Addr) (v7_s1 : Int64) (v7_s2 : Int64) (v7_g1 : Int64) (v7_g2 : Int64) (h0 : Heap) (n0 : Nat) (Z0 : n0 ≤ h0.size) (F_s1_a7_0 : Fld Z h0 a7_0 "com/example/forkstream/forkstream/TwinLinear" "s1" "J" (.long v7_s1)) (F_s2_a7_0 : Fld Z h0 a7_0 "com/example/forkstream/forkstream/TwinLinear" "s2" "J" (.long v7_s2)) (F_g1_a7_0 : Fld Z h0 a7_0 "com/example/forkstream/forkstream/TwinLinear" "g1" "J" (.long v7_g1)) (F_g2_a7_0 : Fld Z h0 a7_0 "com/example/forkstream/forkstream/TwinLinear" "g2" "J" (.long v7_g2)) (E_a7_0 : Exa Z h0 a7_0 "com/example/forkstream/forkstream/TwinLinear") (g_a7_0 : n0 ≤ a7_0) :
    MetFree l (⟨"com/example/forkstream/forkstream/TwinLinear", "nextLong", "()J"⟩ : MethodName) (head1 (Jvm.Cond.code (⟨"com/example/forkstream/forkstream/TwinLinear", "nextLong", "()J"⟩ : MethodName) prog_50_method_8_code 3 (some .long) :: ws) ({ frames := 3, cells := 0, slots := 0, locals := 48 } : Room)) (fun a U => a = #[(.ref a7_0)] ∧ Z.Warmed39 U.vm ∧ U.heap = h0) (fun _ _ _ _ _ => True) (fun _ U o U' => ∃ v L, o = .returned v ∧ Q7 Z a7_0 v7_s1 v7_s2 v7_g1 v7_g2 h0 n0 v U'.heap L ∧ FrameEnd U o U' L ({ frames := 3, cells := 0, slots := 0, locals := 48 } : Room).cells ({ frames := 3, cells := 0, slots := 0, locals := 48 } : Room).slots) := by
  refine MetFree.of_bodySF (plainFor_of_name pn_com_example_forkstream_forkstream_TwinLinear) hisR ?_
  intro p e s m args below meth c s₁ Bd hml0 hP hK
  obtain ⟨rfl, hZ, hh⟩ := hP
  have hx := Bd.exec
  have hby := Bd.bytes
  have hlk := Bd.notSynchronized
  have hret := Bd.returns
  have hml : c.maxLocals = 3 := hml0
  have hown : s.vm.findClass "com/example/forkstream/forkstream/TwinLinear" = some m.cls := findClass_of_methodNamed Bd.named
  have hnm := (name_of_methodNamed Bd.named Bd.method).1
  have X0 : Stand p l e ({ frames := 3, cells := 0, slots := 0, locals := 48 } : Room) s m #[(.ref a7_0)] below meth c s₁ [] 0 0 := Stand.of_body Bd
  have e0 : s₁.heap = h0 := by rw [← hh, Bd.state]; rfl
  have N0 := Fr.nil n0
  have K0 : Keep h0 h0 [a7_0] := Keep.refl _ _
  show own_G p e below s (Q7 Z a7_0 v7_s1 v7_s2 v7_g1 v7_g2 h0 n0) ({ frames := 3, cells := 0, slots := 0, locals := 48 } : Room).cells ({ frames := 3, cells := 0, slots := 0, locals := 48 } : Room).slots s₁ (entryFrame m #[(.ref a7_0)] 3)
  have ww1 := hw _ (List.mem_of_getElem? (i := 1) rfl)
  have ww2 := hw _ (List.mem_of_getElem? (i := 2) rfl)
  have ww19 := hw _ (List.mem_of_getElem? (i := 19) rfl)
  have ww21 := hw _ (List.mem_of_getElem? (i := 21) rfl)
  have ww44 := hw _ (List.mem_of_getElem? (i := 44) rfl)
  have ww45 := hw _ (List.mem_of_getElem? (i := 45) rfl)
  have ww46 := hw _ (List.mem_of_getElem? (i := 46) rfl)
  have ww47 := hw _ (List.mem_of_getElem? (i := 47) rfl)
  have ww61 := hw _ (List.mem_of_getElem? (i := 61) rfl)
  have ww62 := hw _ (List.mem_of_getElem? (i := 62) rfl)
  have ww63 := hw _ (List.mem_of_getElem? (i := 63) rfl)
  have ww64 := hw _ (List.mem_of_getElem? (i := 64) rfl)
  refine own_cast (ef_7 m a7_0) ?_
  refine own_s (g' := (mkF m 1 #[.val (.ref a7_0), .unset, .unset] [(.ref a7_0)])) (fun _ k => XS.aloadN X0.here hx rfl (hb hby d7_0) rfl rfl k) ?_
  obtain ⟨T71, X71, e71, st71⟩ := getF X0 hx hZ hown (host := "") (Or.inl ww19) Via.refl e0 F_s1_a7_0 (g := (mkF m 1 #[.val (.ref a7_0), .unset, .unset] [(.ref a7_0)])) rfl rfl (hb hby d7_1)
  refine own_s (g' := (mkF m 4 #[.val (.ref a7_0), .unset, .unset] [(.long v7_s1)])) st71 ?_
  refine own_s (g' := (mkF m 5 #[.val (.ref a7_0), .unset, .unset] [(.ref a7_0), (.long v7_s1)])) (fun _ k => XS.aloadN X71.here hx rfl (hb hby d7_4) rfl rfl k) ?_
  obtain ⟨T72, X72, e72, st72⟩ := getF X71 hx hZ hown (host := "") (Or.inl ww21) Via.refl e71 F_s2_a7_0 (g := (mkF m 5 #[.val (.ref a7_0), .unset, .unset] [(.ref a7_0), (.long v7_s1)])) rfl rfl (hb hby d7_5)
  refine own_s (g' := (mkF m 8 #[.val (.ref a7_0), .unset, .unset] [(.long v7_s2), (.long v7_s1)])) st72 ?_
  refine own_s (g' := (mkF m 11 #[.val (.ref a7_0), .unset, .unset] [(.long 2685821657736338717), (.long v7_s2), (.long v7_s1)])) (X72.ldc2Long hx hown (mvT hZ ww44) (g := (mkF m 8 #[.val (.ref a7_0), .unset, .unset] [(.long v7_s2), (.long v7_s1)])) rfl (hb hby d7_8)) ?_
  obtain ⟨_, _, ⟨T73, L73, k73, n73⟩, -, X73, ⟨Lc73, hQ73, l73, y73, z73⟩, st73⟩ := Jvm.LawKit.callS X72 hx (y := (⟨"com/example/forkstream/forkstream/TwinLinear", "mix", "(JJJ)J"⟩ : MethodName)) hown (mvT hZ ww45) (mvT hZ ww46) (mvT hZ ww2) (mvT hZ ww47) (by decide) (backOf (W := 0) (rm8 l Z a0 hw [] v7_s1 v7_s2 (2685821657736338717 : Int64) h0 n0 Z0 ) hZ ww47 ww2 (by decide) (by decide)) (g := (mkF m 11 #[.val (.ref a7_0), .unset, .unset] [(.long 2685821657736338717), (.long v7_s2), (.long v7_s1)])) rfl (by rw [hml]; rfl) (argsL := [(.long v7_s1), (.long v7_s2), (.long 2685821657736338717)]) (rest := []) (lenOf pd__JJJ_J rfl) rfl (by show 2 * 0 + _ ≤ _; exact Nat.le_of_eq rfl) (hb hby d7_11) (fun _ _ => ⟨rfl, e72, (by decide : 0 + 0 ≤ _), (by decide : 0 + 0 ≤ _)⟩)
  dsimp only [Pt.U, Pt.locs, Pt.cells, Pt.slots] at X73 l73 y73 z73 st73 hQ73
  subst l73 y73 z73
  obtain ⟨rfl, N73q, eh73⟩ := hQ73
  have N73 := Fr.app N0 N73q
  refine own_s (g' := (mkF m 14 #[.val (.ref a7_0), .unset, .unset] [(.long (r8 v7_s1 v7_s2 (2685821657736338717 : Int64)))])) st73 ?_
  refine own_s (g' := (mkF m 15 #[.val (.ref a7_0), .val (.long (r8 v7_s1 v7_s2 (2685821657736338717 : Int64))), .second] [])) (fun _ k => XS.lstoreN X73.here hx rfl (hb hby d7_14) rfl (l' := #[.val (.ref a7_0), .val (.long (r8 v7_s1 v7_s2 (2685821657736338717 : Int64))), .second]) rfl k) ?_
  refine own_s (g' := (mkF m 16 #[.val (.ref a7_0), .val (.long (r8 v7_s1 v7_s2 (2685821657736338717 : Int64))), .second] [(.ref a7_0)])) (fun _ k => XS.aloadN X73.here hx rfl (hb hby d7_15) rfl rfl k) ?_
  obtain ⟨cq74, q74, q74'⟩ := E_a7_0.cell
  obtain ⟨_, _, ⟨T74, L74, k74, n74⟩, -, X74, ⟨Lc74, hQ74, l74, y74, z74⟩, st74⟩ := X73.privateBack hx (y := (⟨"com/example/forkstream/forkstream/TwinLinear", "step", "()V"⟩ : MethodName)) hown (mvT hZ ww61) (mvT hZ ww62) (own_selp (mvT hZ ww1) (mvP hZ ww63) (mvT hZ ww62) (by decide)) (Cond.privateMethod_at (mvP hZ ww63 (args := #[]))) (mvT hZ ww64) (by decide) (backOf (W := 0) (rm13 l Z a0 hw [] a7_0 v7_s1 v7_g1 v7_s2 v7_g2 h0 n0 Z0 F_s1_a7_0 F_g1_a7_0 F_s2_a7_0 F_g2_a7_0 E_a7_0 g_a7_0) hZ ww64 ww2 (by decide) (by decide)) (g := (mkF m 16 #[.val (.ref a7_0), .val (.long (r8 v7_s1 v7_s2 (2685821657736338717 : Int64))), .second] [(.ref a7_0)])) rfl (by rw [hml]; rfl) (Steps.refl _) (a := a7_0) (by rw [eh73]; exact q74) q74' (argsL := []) (rest := []) (lenOf pd___V rfl) rfl (by show 2 * 0 + _ ≤ _; exact Nat.le_of_eq rfl) (hb hby d7_16) (fun _ _ => ⟨rfl, eh73, (by decide : 0 + 0 ≤ _), (by decide : 0 + 0 ≤ _)⟩)
  dsimp only [Pt.U, Pt.locs, Pt.cells, Pt.slots] at X74 l74 y74 z74 st74 hQ74
  subst l74 y74 z74
  obtain ⟨rfl, N74q, K74q, f75, f76, f77, f78, f79⟩ := hQ74
  have K74 := K0.trans K74q (allS (Or.inl (List.mem_of_getElem? (i := 0) rfl)) all0)
  have N74 := Fr.app N73 N74q
  refine own_trans (g' := (mkF m 19 #[.val (.ref a7_0), .val (.long (r8 v7_s1 v7_s2 (2685821657736338717 : Int64))), .second] [])) st74 ?_
  refine own_s (g' := (mkF m 20 #[.val (.ref a7_0), .val (.long (r8 v7_s1 v7_s2 (2685821657736338717 : Int64))), .second] [(.long (r8 v7_s1 v7_s2 (2685821657736338717 : Int64)))])) (fun _ k => XS.lloadN X74.here hx rfl (hb hby d7_19) rfl k) ?_
  refine own_s (g' := (mkF m 21 #[.val (.ref a7_0), .val (.long (r8 v7_s1 v7_s2 (2685821657736338717 : Int64))), .second] [(.long (r8 v7_s1 v7_s2 (2685821657736338717 : Int64))), (.long (r8 v7_s1 v7_s2 (2685821657736338717 : Int64)))])) (fun _ k => XS.lloadN X74.here hx rfl (hb hby d7_20) rfl k) ?_
  refine own_s (g' := (mkF m 23 #[.val (.ref a7_0), .val (.long (r8 v7_s1 v7_s2 (2685821657736338717 : Int64))), .second] [(.int 32), (.long (r8 v7_s1 v7_s2 (2685821657736338717 : Int64))), (.long (r8 v7_s1 v7_s2 (2685821657736338717 : Int64)))])) (fun _ k => XS.bipush X74.here hx rfl (hb hby d7_21) k) ?_
  refine own_s (g' := (mkF m 24 #[.val (.ref a7_0), .val (.long (r8 v7_s1 v7_s2 (2685821657736338717 : Int64))), .second] [(.long (((r8 v7_s1 v7_s2 (2685821657736338717 : Int64)).toUInt64 >>> ((32 : Int32) &&& 0x3f).toInt64.toUInt64).toInt64)), (.long (r8 v7_s1 v7_s2 (2685821657736338717 : Int64)))])) (fun _ k => XS.lushr X74.here hx rfl (hb hby d7_23) rfl k) ?_
  refine own_s (g' := (mkF m 25 #[.val (.ref a7_0), .val (.long (r8 v7_s1 v7_s2 (2685821657736338717 : Int64))), .second] [(.long ((r8 v7_s1 v7_s2 (2685821657736338717 : Int64)) ^^^ (((r8 v7_s1 v7_s2 (2685821657736338717 : Int64)).toUInt64 >>> ((32 : Int32) &&& 0x3f).toInt64.toUInt64).toInt64)))])) (fun _ k => XS.lxor X74.here hx rfl (hb hby d7_24) rfl k) ?_
  refine own_retJ X74 hx hlk hret (hb hby d7_25) (by decide) (by decide) ?_
  show Q7 Z a7_0 v7_s1 v7_s2 v7_g1 v7_g2 h0 n0 _ T74.heap _
  exact ⟨rfl, N74, K74, f75, f76, f77, f78, f79⟩
theorem pd__JJJJ_V : parseMethodDescriptor "(JJJJ)V" = some ⟨[.long, .long, .long, .long], none⟩ := by decide +kernel
theorem pd____J : parseMethodDescriptor "()[J" = some ⟨[], some (.array .long)⟩ := by decide +kernel
theorem pd___JJJJJ_Z : parseMethodDescriptor "([JJJJJ)Z" = some ⟨[(.array .long), .long, .long, .long, .long], some .boolean⟩ := by decide +kernel
theorem pd___J : parseMethodDescriptor "()J" = some ⟨[], some .long⟩ := by decide +kernel
theorem ef_0 (m : MethodId) (q0_0 : Int64) (q0_1 : Int64) (q0_2 : Int64) (q0_3 : Int64) (p0_4 : Int32) : entryFrame m #[(.long q0_0), (.long q0_1), (.long q0_2), (.long q0_3), (.int p0_4)] maxLocals = mkF m 0 #[.val (.long q0_0), .second, .val (.long q0_1), .second, .val (.long q0_2), .second, .val (.long q0_3), .second, .val (.int p0_4), .unset, .unset, .unset, .unset, .unset, .unset, .unset, .unset, .unset, .unset, .unset, .unset] [] := by first | (simp [entryFrame, mkF, argsToLocals, Value.category, maxLocals]; done) | rfl
def Q0 (Z : State) (q0_0 : Int64) (q0_1 : Int64) (q0_2 : Int64) (q0_3 : Int64) (p0_4 : Int32) (h0 : Heap) (n0 : Nat) (v : Option Value) (h : Heap) (L : List Loc) : Prop := v = some (.int (1 : Int32)) ∧ Fr n0 L
set_option maxRecDepth 65536 in
set_option maxHeartbeats 40000000 in
theorem rm0 (l : Launch) (Z : State) (a0 : Array Value) (hw : ∀ d ∈ tables_1, d.before a0 Z = true) (ws : List Jvm.Cond) (q0_0 : Int64) (q0_1 : Int64) (q0_2 : Int64) (q0_3 : Int64) (p0_4 : Int32) (h0 : Heap) (n0 : Nat) (Z0 : n0 ≤ h0.size) :
    MetFree l x (head1 (Jvm.Cond.code x code maxLocals ret :: ws) room_1) (fun a U => a = #[(.long q0_0), (.long q0_1), (.long q0_2), (.long q0_3), (.int p0_4)] ∧ Z.Warmed39 U.vm ∧ U.heap = h0) (fun _ _ _ _ _ => True) (fun _ U o U' => ∃ v L, o = .returned v ∧ Q0 Z q0_0 q0_1 q0_2 q0_3 p0_4 h0 n0 v U'.heap L ∧ FrameEnd U o U' L 16 128) := by
  refine MetFree.of_bodySF (plainFor_of_name pn_com_example_forkstream_forkstream_TwinLinearStateWordsPinLaw) hisR ?_
  intro p e s m args below meth c s₁ Bd hml0 hP hK
  obtain ⟨rfl, hZ, hh⟩ := hP
  have hx := Bd.exec
  have hby := Bd.bytes
  have hlk := Bd.notSynchronized
  have hret := Bd.returns
  have hml : c.maxLocals = 21 := hml0
  have hown : s.vm.findClass "com/example/forkstream/forkstream/TwinLinearStateWordsPinLaw" = some m.cls := findClass_of_methodNamed Bd.named
  have hnm := (name_of_methodNamed Bd.named Bd.method).1
  have X0 : Stand p l e room_1 s m #[(.long q0_0), (.long q0_1), (.long q0_2), (.long q0_3), (.int p0_4)] below meth c s₁ [] 0 0 := Stand.of_body Bd
  have e0 : s₁.heap = h0 := by rw [← hh, Bd.state]; rfl
  have N0 := Fr.nil n0
  have K0 : Keep h0 h0 [] := Keep.refl _ _
  show own_G p e below s (Q0 Z q0_0 q0_1 q0_2 q0_3 p0_4 h0 n0) 16 128 s₁ (entryFrame m #[(.long q0_0), (.long q0_1), (.long q0_2), (.long q0_3), (.int p0_4)] maxLocals)
  have ww0 := hw _ (List.mem_of_getElem? (i := 0) rfl)
  have ww1 := hw _ (List.mem_of_getElem? (i := 1) rfl)
  have ww2 := hw _ (List.mem_of_getElem? (i := 2) rfl)
  have ww3 := hw _ (List.mem_of_getElem? (i := 3) rfl)
  have ww4 := hw _ (List.mem_of_getElem? (i := 4) rfl)
  have ww5 := hw _ (List.mem_of_getElem? (i := 5) rfl)
  have ww20 := hw _ (List.mem_of_getElem? (i := 20) rfl)
  have ww22 := hw _ (List.mem_of_getElem? (i := 22) rfl)
  have ww24 := hw _ (List.mem_of_getElem? (i := 24) rfl)
  have ww26 := hw _ (List.mem_of_getElem? (i := 26) rfl)
  have ww27 := hw _ (List.mem_of_getElem? (i := 27) rfl)
  have ww28 := hw _ (List.mem_of_getElem? (i := 28) rfl)
  have ww29 := hw _ (List.mem_of_getElem? (i := 29) rfl)
  have ww30 := hw _ (List.mem_of_getElem? (i := 30) rfl)
  have ww31 := hw _ (List.mem_of_getElem? (i := 31) rfl)
  have ww33 := hw _ (List.mem_of_getElem? (i := 33) rfl)
  have ww34 := hw _ (List.mem_of_getElem? (i := 34) rfl)
  have ww35 := hw _ (List.mem_of_getElem? (i := 35) rfl)
  have ww36 := hw _ (List.mem_of_getElem? (i := 36) rfl)
  have ww37 := hw _ (List.mem_of_getElem? (i := 37) rfl)
  have ww38 := hw _ (List.mem_of_getElem? (i := 38) rfl)
  have ww39 := hw _ (List.mem_of_getElem? (i := 39) rfl)
  have ww40 := hw _ (List.mem_of_getElem? (i := 40) rfl)
  have ww41 := hw _ (List.mem_of_getElem? (i := 41) rfl)
  have ww42 := hw _ (List.mem_of_getElem? (i := 42) rfl)
  have ww43 := hw _ (List.mem_of_getElem? (i := 43) rfl)
  have ww70 := hw _ (List.mem_of_getElem? (i := 70) rfl)
  have ww71 := hw _ (List.mem_of_getElem? (i := 71) rfl)
  refine own_cast (ef_0 m q0_0 q0_1 q0_2 q0_3 p0_4) ?_
  refine own_s (g' := (mkF m 2 #[.val (.long q0_0), .second, .val (.long q0_1), .second, .val (.long q0_2), .second, .val (.long q0_3), .second, .val (.int p0_4), .unset, .unset, .unset, .unset, .unset, .unset, .unset, .unset, .unset, .unset, .unset, .unset] [(.int p0_4)])) (fun _ k => XS.iload X0.here hx rfl (hb hby at_0) rfl k) ?_
  refine own_s (g' := (mkF m 3 #[.val (.long q0_0), .second, .val (.long q0_1), .second, .val (.long q0_2), .second, .val (.long q0_3), .second, .val (.int p0_4), .unset, .unset, .unset, .unset, .unset, .unset, .unset, .unset, .unset, .unset, .unset, .unset] [(.int 1), (.int p0_4)])) (fun _ k => XS.iconst X0.here hx rfl (hb hby at_2) k) ?_
  refine own_s (g' := (mkF m 4 #[.val (.long q0_0), .second, .val (.long q0_1), .second, .val (.long q0_2), .second, .val (.long q0_3), .second, .val (.int p0_4), .unset, .unset, .unset, .unset, .unset, .unset, .unset, .unset, .unset, .unset, .unset, .unset] [(.int (p0_4 &&& (1 : Int32)))])) (fun _ k => XS.iand X0.here hx rfl (hb hby at_3) rfl k) ?_
  by_cases c80 : (p0_4 &&& (1 : Int32)) = (0 : Int32)
  ·skip
   refine own_s (g' := (mkF m 11 #[.val (.long q0_0), .second, .val (.long q0_1), .second, .val (.long q0_2), .second, .val (.long q0_3), .second, .val (.int p0_4), .unset, .unset, .unset, .unset, .unset, .unset, .unset, .unset, .unset, .unset, .unset, .unset] [])) (fun _ k => XS.ifYes X0.here hx rfl (pc0 := 4) (pc' := 11) rfl (hb hby at_4) rfl ((if0 _ _).trans (teq c80).1) (by decide) (by decide) k) ?_
   refine own_s (g' := (mkF m 12 #[.val (.long q0_0), .second, .val (.long q0_1), .second, .val (.long q0_2), .second, .val (.long q0_3), .second, .val (.int p0_4), .unset, .unset, .unset, .unset, .unset, .unset, .unset, .unset, .unset, .unset, .unset, .unset] [(.int 0)])) (fun _ k => XS.iconst X0.here hx rfl (hb hby at_11) k) ?_
   refine own_s (g' := (mkF m 14 #[.val (.long q0_0), .second, .val (.long q0_1), .second, .val (.long q0_2), .second, .val (.long q0_3), .second, .val (.int p0_4), .val (.int 0), .unset, .unset, .unset, .unset, .unset, .unset, .unset, .unset, .unset, .unset, .unset] [])) (fun _ k => XS.istore X0.here hx rfl (hb hby at_12) rfl (l' := #[.val (.long q0_0), .second, .val (.long q0_1), .second, .val (.long q0_2), .second, .val (.long q0_3), .second, .val (.int p0_4), .val (.int 0), .unset, .unset, .unset, .unset, .unset, .unset, .unset, .unset, .unset, .unset, .unset]) rfl k) ?_
   refine own_s (g' := (mkF m 16 #[.val (.long q0_0), .second, .val (.long q0_1), .second, .val (.long q0_2), .second, .val (.long q0_3), .second, .val (.int p0_4), .val (.int 0), .unset, .unset, .unset, .unset, .unset, .unset, .unset, .unset, .unset, .unset, .unset] [(.long q0_2)])) (fun _ k => XS.lload X0.here hx rfl (hb hby at_14) rfl k) ?_
   refine own_s (g' := (mkF m 17 #[.val (.long q0_0), .second, .val (.long q0_1), .second, .val (.long q0_2), .second, .val (.long q0_3), .second, .val (.int p0_4), .val (.int 0), .unset, .unset, .unset, .unset, .unset, .unset, .unset, .unset, .unset, .unset, .unset] [(.long 1), (.long q0_2)])) (fun _ k => XS.lconst X0.here hx rfl (hb hby at_16) k) ?_
   refine own_s (g' := (mkF m 18 #[.val (.long q0_0), .second, .val (.long q0_1), .second, .val (.long q0_2), .second, .val (.long q0_3), .second, .val (.int p0_4), .val (.int 0), .unset, .unset, .unset, .unset, .unset, .unset, .unset, .unset, .unset, .unset, .unset] [(.long (q0_2 ||| (1 : Int64)))])) (fun _ k => XS.lor X0.here hx rfl (hb hby at_17) rfl k) ?_
   refine own_s (g' := (mkF m 20 #[.val (.long q0_0), .second, .val (.long q0_1), .second, .val (.long q0_2), .second, .val (.long q0_3), .second, .val (.int p0_4), .val (.int 0), .val (.long (q0_2 ||| (1 : Int64))), .second, .unset, .unset, .unset, .unset, .unset, .unset, .unset, .unset, .unset] [])) (fun _ k => XS.lstore X0.here hx rfl (hb hby at_18) rfl (l' := #[.val (.long q0_0), .second, .val (.long q0_1), .second, .val (.long q0_2), .second, .val (.long q0_3), .second, .val (.int p0_4), .val (.int 0), .val (.long (q0_2 ||| (1 : Int64))), .second, .unset, .unset, .unset, .unset, .unset, .unset, .unset, .unset, .unset]) rfl k) ?_
   refine own_s (g' := (mkF m 22 #[.val (.long q0_0), .second, .val (.long q0_1), .second, .val (.long q0_2), .second, .val (.long q0_3), .second, .val (.int p0_4), .val (.int 0), .val (.long (q0_2 ||| (1 : Int64))), .second, .unset, .unset, .unset, .unset, .unset, .unset, .unset, .unset, .unset] [(.long q0_3)])) (fun _ k => XS.lload X0.here hx rfl (hb hby at_20) rfl k) ?_
   refine own_s (g' := (mkF m 23 #[.val (.long q0_0), .second, .val (.long q0_1), .second, .val (.long q0_2), .second, .val (.long q0_3), .second, .val (.int p0_4), .val (.int 0), .val (.long (q0_2 ||| (1 : Int64))), .second, .unset, .unset, .unset, .unset, .unset, .unset, .unset, .unset, .unset] [(.long 1), (.long q0_3)])) (fun _ k => XS.lconst X0.here hx rfl (hb hby at_22) k) ?_
   refine own_s (g' := (mkF m 24 #[.val (.long q0_0), .second, .val (.long q0_1), .second, .val (.long q0_2), .second, .val (.long q0_3), .second, .val (.int p0_4), .val (.int 0), .val (.long (q0_2 ||| (1 : Int64))), .second, .unset, .unset, .unset, .unset, .unset, .unset, .unset, .unset, .unset] [(.long (q0_3 ||| (1 : Int64)))])) (fun _ k => XS.lor X0.here hx rfl (hb hby at_23) rfl k) ?_
   refine own_s (g' := (mkF m 26 #[.val (.long q0_0), .second, .val (.long q0_1), .second, .val (.long q0_2), .second, .val (.long q0_3), .second, .val (.int p0_4), .val (.int 0), .val (.long (q0_2 ||| (1 : Int64))), .second, .val (.long (q0_3 ||| (1 : Int64))), .second, .unset, .unset, .unset, .unset, .unset, .unset, .unset] [])) (fun _ k => XS.lstore X0.here hx rfl (hb hby at_24) rfl (l' := #[.val (.long q0_0), .second, .val (.long q0_1), .second, .val (.long q0_2), .second, .val (.long q0_3), .second, .val (.int p0_4), .val (.int 0), .val (.long (q0_2 ||| (1 : Int64))), .second, .val (.long (q0_3 ||| (1 : Int64))), .second, .unset, .unset, .unset, .unset, .unset, .unset, .unset]) rfl k) ?_
   obtain ⟨T81, h81, X81, e81, E81, A81, D81, -, st81⟩ := newO X0 hx hZ hown ww0 ww1 ww2 e0 (g := (mkF m 26 #[.val (.long q0_0), .second, .val (.long q0_1), .second, .val (.long q0_2), .second, .val (.long q0_3), .second, .val (.int p0_4), .val (.int 0), .val (.long (q0_2 ||| (1 : Int64))), .second, .val (.long (q0_3 ||| (1 : Int64))), .second, .unset, .unset, .unset, .unset, .unset, .unset, .unset] [])) rfl (hb hby at_26) (by decide) (by decide)
   obtain ⟨b81, ga81⟩ : ∃ z, z = h0.size := ⟨_, rfl⟩
   rw [← ga81] at A81 D81 st81
   have g_b81 := Nat.le_trans Z0 (Nat.le_of_eq ga81.symm)
   have sz_b81 := Nat.le_trans K0.1 (Nat.le_of_eq ga81.symm)
   have f81_s1 : Fld Z h81 b81 "com/example/forkstream/forkstream/TwinLinear" "s1" "J" (.long 0) := D81 (Or.inl ww20) (ty := .long) (by decide +kernel)
   have f81_s2 : Fld Z h81 b81 "com/example/forkstream/forkstream/TwinLinear" "s2" "J" (.long 0) := D81 (Or.inl ww22) (ty := .long) (by decide +kernel)
   have f81_g1 : Fld Z h81 b81 "com/example/forkstream/forkstream/TwinLinear" "g1" "J" (.long 0) := D81 (Or.inr ww24) (ty := .long) (by decide +kernel)
   have f81_g2 : Fld Z h81 b81 "com/example/forkstream/forkstream/TwinLinear" "g2" "J" (.long 0) := D81 (Or.inr ww26) (ty := .long) (by decide +kernel)
   have K81 := K0.ext E81
   refine own_s (g' := (mkF m 29 #[.val (.long q0_0), .second, .val (.long q0_1), .second, .val (.long q0_2), .second, .val (.long q0_3), .second, .val (.int p0_4), .val (.int 0), .val (.long (q0_2 ||| (1 : Int64))), .second, .val (.long (q0_3 ||| (1 : Int64))), .second, .unset, .unset, .unset, .unset, .unset, .unset, .unset] [(.ref b81)])) st81 ?_
   refine own_s (g' := (mkF m 30 #[.val (.long q0_0), .second, .val (.long q0_1), .second, .val (.long q0_2), .second, .val (.long q0_3), .second, .val (.int p0_4), .val (.int 0), .val (.long (q0_2 ||| (1 : Int64))), .second, .val (.long (q0_3 ||| (1 : Int64))), .second, .unset, .unset, .unset, .unset, .unset, .unset, .unset] [(.ref b81), (.ref b81)])) (fun _ k => XS.dup X81.here hx rfl (hb hby at_29) rfl rfl k) ?_
   refine own_s (g' := (mkF m 31 #[.val (.long q0_0), .second, .val (.long q0_1), .second, .val (.long q0_2), .second, .val (.long q0_3), .second, .val (.int p0_4), .val (.int 0), .val (.long (q0_2 ||| (1 : Int64))), .second, .val (.long (q0_3 ||| (1 : Int64))), .second, .unset, .unset, .unset, .unset, .unset, .unset, .unset] [(.long q0_0), (.ref b81), (.ref b81)])) (fun _ k => XS.lloadN X81.here hx rfl (hb hby at_30) rfl k) ?_
   refine own_s (g' := (mkF m 32 #[.val (.long q0_0), .second, .val (.long q0_1), .second, .val (.long q0_2), .second, .val (.long q0_3), .second, .val (.int p0_4), .val (.int 0), .val (.long (q0_2 ||| (1 : Int64))), .second, .val (.long (q0_3 ||| (1 : Int64))), .second, .unset, .unset, .unset, .unset, .unset, .unset, .unset] [(.long q0_1), (.long q0_0), (.ref b81), (.ref b81)])) (fun _ k => XS.lloadN X81.here hx rfl (hb hby at_31) rfl k) ?_
   refine own_s (g' := (mkF m 34 #[.val (.long q0_0), .second, .val (.long q0_1), .second, .val (.long q0_2), .second, .val (.long q0_3), .second, .val (.int p0_4), .val (.int 0), .val (.long (q0_2 ||| (1 : Int64))), .second, .val (.long (q0_3 ||| (1 : Int64))), .second, .unset, .unset, .unset, .unset, .unset, .unset, .unset] [(.long q0_2), (.long q0_1), (.long q0_0), (.ref b81), (.ref b81)])) (fun _ k => XS.lload X81.here hx rfl (hb hby at_32) rfl k) ?_
   refine own_s (g' := (mkF m 36 #[.val (.long q0_0), .second, .val (.long q0_1), .second, .val (.long q0_2), .second, .val (.long q0_3), .second, .val (.int p0_4), .val (.int 0), .val (.long (q0_2 ||| (1 : Int64))), .second, .val (.long (q0_3 ||| (1 : Int64))), .second, .unset, .unset, .unset, .unset, .unset, .unset, .unset] [(.long q0_3), (.long q0_2), (.long q0_1), (.long q0_0), (.ref b81), (.ref b81)])) (fun _ k => XS.lload X81.here hx rfl (hb hby at_34) rfl k) ?_
   obtain ⟨_, _, ⟨T82, L82, k82, n82⟩, -, X82, ⟨Lc82, hQ82, l82, y82, z82⟩, st82⟩ := X81.specialBack hx (y := (⟨"com/example/forkstream/forkstream/TwinLinear", "<init>", "(JJJJ)V"⟩ : MethodName)) rfl hown (mvT hZ ww3) (mvT hZ ww4) (mvT hZ ww5) (by decide) (backOf (W := 1) (rm1 l Z a0 hw [] b81 q0_0 q0_1 q0_2 q0_3 (0 : Int64) (0 : Int64) (0 : Int64) (0 : Int64) h81 n0 (Nat.le_trans Z0 K81.1) f81_s1 f81_s2 f81_g1 f81_g2 A81 g_b81) hZ ww5 ww2 (by decide) (by decide)) (g := (mkF m 36 #[.val (.long q0_0), .second, .val (.long q0_1), .second, .val (.long q0_2), .second, .val (.long q0_3), .second, .val (.int p0_4), .val (.int 0), .val (.long (q0_2 ||| (1 : Int64))), .second, .val (.long (q0_3 ||| (1 : Int64))), .second, .unset, .unset, .unset, .unset, .unset, .unset, .unset] [(.long q0_3), (.long q0_2), (.long q0_1), (.long q0_0), (.ref b81), (.ref b81)])) rfl (by rw [hml]; rfl) (Steps.refl _) (a := b81) (argsL := [(.long q0_0), (.long q0_1), (.long q0_2), (.long q0_3)]) (rest := [(.ref b81)]) (lenOf pd__JJJJ_V rfl) rfl (by show 2 * 0 + _ ≤ _; exact Nat.le_of_eq rfl) (hb hby at_36) (fun _ _ => ⟨rfl, e81, (by decide : 1 + 0 ≤ _), (by decide : 4 + 0 ≤ _)⟩)
   dsimp only [Pt.U, Pt.locs, Pt.cells, Pt.slots] at X82 l82 y82 z82 st82 hQ82
   subst l82 y82 z82
   obtain ⟨rfl, N82q, K82q, f83, f84, f85, f86, f87⟩ := hQ82
   have K82 := K81.trans K82q (allS (Or.inr sz_b81) all0)
   have N82 := Fr.app N0 N82q
   refine own_trans (g' := (mkF m 39 #[.val (.long q0_0), .second, .val (.long q0_1), .second, .val (.long q0_2), .second, .val (.long q0_3), .second, .val (.int p0_4), .val (.int 0), .val (.long (q0_2 ||| (1 : Int64))), .second, .val (.long (q0_3 ||| (1 : Int64))), .second, .unset, .unset, .unset, .unset, .unset, .unset, .unset] [(.ref b81)])) st82 ?_
   refine own_s (g' := (mkF m 41 #[.val (.long q0_0), .second, .val (.long q0_1), .second, .val (.long q0_2), .second, .val (.long q0_3), .second, .val (.int p0_4), .val (.int 0), .val (.long (q0_2 ||| (1 : Int64))), .second, .val (.long (q0_3 ||| (1 : Int64))), .second, .val (.ref b81), .unset, .unset, .unset, .unset, .unset, .unset] [])) (fun _ k => XS.astore X82.here hx rfl (hb hby at_39) rfl rfl (l' := #[.val (.long q0_0), .second, .val (.long q0_1), .second, .val (.long q0_2), .second, .val (.long q0_3), .second, .val (.int p0_4), .val (.int 0), .val (.long (q0_2 ||| (1 : Int64))), .second, .val (.long (q0_3 ||| (1 : Int64))), .second, .val (.ref b81), .unset, .unset, .unset, .unset, .unset, .unset]) rfl k) ?_
   refine own_s (g' := (mkF m 43 #[.val (.long q0_0), .second, .val (.long q0_1), .second, .val (.long q0_2), .second, .val (.long q0_3), .second, .val (.int p0_4), .val (.int 0), .val (.long (q0_2 ||| (1 : Int64))), .second, .val (.long (q0_3 ||| (1 : Int64))), .second, .val (.ref b81), .unset, .unset, .unset, .unset, .unset, .unset] [(.ref b81)])) (fun _ k => XS.aload X82.here hx rfl (hb hby at_41) rfl rfl k) ?_
   obtain ⟨cq88, kq88, q88a, q88b, q88c⟩ := isOf hZ rfl f83
   obtain ⟨_, _, ⟨T88, L88, k88, n88⟩, -, X88, ⟨Lc88, hQ88, l88, y88, z88⟩, st88⟩ := X82.virtualBack hx (y := (⟨"com/example/forkstream/forkstream/TwinLinear", "stateWords", "()[J"⟩ : MethodName)) (z := (⟨"com/example/forkstream/forkstream/TwinLinear", "stateWords", "()[J"⟩ : MethodName)) hown (mvT hZ ww27) (mvT hZ ww28) (notFace_of_selects (args := #[]) (mvT hZ ww30)) (mvT hZ ww30) (mvT hZ ww29) (by decide) (backOf (W := 0) (rm5 l Z a0 hw [] b81 q0_0 q0_1 (q0_2 ||| (1 : Int64)) (q0_3 ||| (1 : Int64)) T82.heap n0 (Nat.le_trans Z0 K82.1) f84 f85 f86 f87) hZ ww31 ww2 (by decide) (by decide)) q88a q88c (g := (mkF m 43 #[.val (.long q0_0), .second, .val (.long q0_1), .second, .val (.long q0_2), .second, .val (.long q0_3), .second, .val (.int p0_4), .val (.int 0), .val (.long (q0_2 ||| (1 : Int64))), .second, .val (.long (q0_3 ||| (1 : Int64))), .second, .val (.ref b81), .unset, .unset, .unset, .unset, .unset, .unset] [(.ref b81)])) rfl (by rw [hml]; rfl) (Steps.refl _) (argsL := []) (rest := []) (lenOf pd____J rfl) rfl (by show 2 * 0 + _ ≤ _; exact Nat.le_of_eq rfl) (hb hby at_43) (fun _ _ => ⟨rfl, rfl, (by decide : 1 + 1 ≤ _), (by decide : 4 + 4 ≤ _)⟩)
   dsimp only [Pt.U, Pt.locs, Pt.cells, Pt.slots] at X88 l88 y88 z88 st88 hQ88
   subst l88 y88 z88
   obtain ⟨bf0_88, kf0_88, hs_bf0_88, rfl, N88q, K88q, f89⟩ := hQ88
   have g_bf0_88 := Nat.le_trans (Nat.le_trans Z0 K82.1) hs_bf0_88
   have sz_bf0_88 := Nat.le_trans K82.1 hs_bf0_88
   have K88 := K82.trans K88q all0
   have N88 := Fr.app N82 N88q
   refine own_trans (g' := (mkF m 46 #[.val (.long q0_0), .second, .val (.long q0_1), .second, .val (.long q0_2), .second, .val (.long q0_3), .second, .val (.int p0_4), .val (.int 0), .val (.long (q0_2 ||| (1 : Int64))), .second, .val (.long (q0_3 ||| (1 : Int64))), .second, .val (.ref b81), .unset, .unset, .unset, .unset, .unset, .unset] [(.ref bf0_88)])) st88 ?_
   refine own_s (g' := (mkF m 48 #[.val (.long q0_0), .second, .val (.long q0_1), .second, .val (.long q0_2), .second, .val (.long q0_3), .second, .val (.int p0_4), .val (.int 0), .val (.long (q0_2 ||| (1 : Int64))), .second, .val (.long (q0_3 ||| (1 : Int64))), .second, .val (.ref b81), .val (.ref bf0_88), .unset, .unset, .unset, .unset, .unset] [])) (fun _ k => XS.astore X88.here hx rfl (hb hby at_46) rfl rfl (l' := #[.val (.long q0_0), .second, .val (.long q0_1), .second, .val (.long q0_2), .second, .val (.long q0_3), .second, .val (.int p0_4), .val (.int 0), .val (.long (q0_2 ||| (1 : Int64))), .second, .val (.long (q0_3 ||| (1 : Int64))), .second, .val (.ref b81), .val (.ref bf0_88), .unset, .unset, .unset, .unset, .unset]) rfl k) ?_
   refine own_s (g' := (mkF m 50 #[.val (.long q0_0), .second, .val (.long q0_1), .second, .val (.long q0_2), .second, .val (.long q0_3), .second, .val (.int p0_4), .val (.int 0), .val (.long (q0_2 ||| (1 : Int64))), .second, .val (.long (q0_3 ||| (1 : Int64))), .second, .val (.ref b81), .val (.ref bf0_88), .unset, .unset, .unset, .unset, .unset] [(.ref bf0_88)])) (fun _ k => XS.aload X88.here hx rfl (hb hby at_48) rfl rfl k) ?_
   refine own_s (g' := (mkF m 51 #[.val (.long q0_0), .second, .val (.long q0_1), .second, .val (.long q0_2), .second, .val (.long q0_3), .second, .val (.int p0_4), .val (.int 0), .val (.long (q0_2 ||| (1 : Int64))), .second, .val (.long (q0_3 ||| (1 : Int64))), .second, .val (.ref b81), .val (.ref bf0_88), .unset, .unset, .unset, .unset, .unset] [(.long q0_0), (.ref bf0_88)])) (fun _ k => XS.lloadN X88.here hx rfl (hb hby at_50) rfl k) ?_
   refine own_s (g' := (mkF m 52 #[.val (.long q0_0), .second, .val (.long q0_1), .second, .val (.long q0_2), .second, .val (.long q0_3), .second, .val (.int p0_4), .val (.int 0), .val (.long (q0_2 ||| (1 : Int64))), .second, .val (.long (q0_3 ||| (1 : Int64))), .second, .val (.ref b81), .val (.ref bf0_88), .unset, .unset, .unset, .unset, .unset] [(.long q0_1), (.long q0_0), (.ref bf0_88)])) (fun _ k => XS.lloadN X88.here hx rfl (hb hby at_51) rfl k) ?_
   refine own_s (g' := (mkF m 54 #[.val (.long q0_0), .second, .val (.long q0_1), .second, .val (.long q0_2), .second, .val (.long q0_3), .second, .val (.int p0_4), .val (.int 0), .val (.long (q0_2 ||| (1 : Int64))), .second, .val (.long (q0_3 ||| (1 : Int64))), .second, .val (.ref b81), .val (.ref bf0_88), .unset, .unset, .unset, .unset, .unset] [(.long (q0_2 ||| (1 : Int64))), (.long q0_1), (.long q0_0), (.ref bf0_88)])) (fun _ k => XS.lload X88.here hx rfl (hb hby at_52) rfl k) ?_
   refine own_s (g' := (mkF m 56 #[.val (.long q0_0), .second, .val (.long q0_1), .second, .val (.long q0_2), .second, .val (.long q0_3), .second, .val (.int p0_4), .val (.int 0), .val (.long (q0_2 ||| (1 : Int64))), .second, .val (.long (q0_3 ||| (1 : Int64))), .second, .val (.ref b81), .val (.ref bf0_88), .unset, .unset, .unset, .unset, .unset] [(.long (q0_3 ||| (1 : Int64))), (.long (q0_2 ||| (1 : Int64))), (.long q0_1), (.long q0_0), (.ref bf0_88)])) (fun _ k => XS.lload X88.here hx rfl (hb hby at_54) rfl k) ?_
   obtain ⟨_, _, ⟨T90, L90, k90, n90⟩, -, X90, ⟨Lc90, hQ90, l90, y90, z90⟩, st90⟩ := Jvm.LawKit.callS X88 hx (y := (⟨"com/example/forkstream/forkstream/TwinLinearStateWordsPinLaw", "words", "([JJJJJ)Z"⟩ : MethodName)) hown (mvT hZ ww33) (mvT hZ ww34) (mvT hZ ww35) (mvT hZ ww36) (by decide) (backOf (W := 0) (rm6 l Z a0 hw [] bf0_88 q0_0 q0_1 (q0_2 ||| (1 : Int64)) (q0_3 ||| (1 : Int64)) kf0_88 q0_0 q0_1 (q0_2 ||| (1 : Int64)) (q0_3 ||| (1 : Int64)) T88.heap n0 (Nat.le_trans Z0 K88.1) f89) hZ ww36 ww35 (by decide) (by decide)) (g := (mkF m 56 #[.val (.long q0_0), .second, .val (.long q0_1), .second, .val (.long q0_2), .second, .val (.long q0_3), .second, .val (.int p0_4), .val (.int 0), .val (.long (q0_2 ||| (1 : Int64))), .second, .val (.long (q0_3 ||| (1 : Int64))), .second, .val (.ref b81), .val (.ref bf0_88), .unset, .unset, .unset, .unset, .unset] [(.long (q0_3 ||| (1 : Int64))), (.long (q0_2 ||| (1 : Int64))), (.long q0_1), (.long q0_0), (.ref bf0_88)])) rfl (by rw [hml]; rfl) (argsL := [(.ref bf0_88), (.long q0_0), (.long q0_1), (.long (q0_2 ||| (1 : Int64))), (.long (q0_3 ||| (1 : Int64)))]) (rest := []) (lenOf pd___JJJJJ_Z rfl) rfl (by show 2 * 0 + _ ≤ _; exact Nat.le_of_eq rfl) (hb hby at_56) (fun _ _ => ⟨rfl, rfl, (by decide : 2 + 0 ≤ _), (by decide : 8 + 0 ≤ _)⟩)
   dsimp only [Pt.U, Pt.locs, Pt.cells, Pt.slots] at X90 l90 y90 z90 st90 hQ90
   subst l90 y90 z90
   obtain ⟨rfl, N90q, eh90⟩ := hQ90
   have N90 := Fr.app N88 N90q
   refine own_s (g' := (mkF m 59 #[.val (.long q0_0), .second, .val (.long q0_1), .second, .val (.long q0_2), .second, .val (.long q0_3), .second, .val (.int p0_4), .val (.int 0), .val (.long (q0_2 ||| (1 : Int64))), .second, .val (.long (q0_3 ||| (1 : Int64))), .second, .val (.ref b81), .val (.ref bf0_88), .unset, .unset, .unset, .unset, .unset] [(.int (r6 q0_0 q0_1 (q0_2 ||| (1 : Int64)) (q0_3 ||| (1 : Int64)) q0_0 q0_1 (q0_2 ||| (1 : Int64)) (q0_3 ||| (1 : Int64))))])) st90 ?_
   rw [show (r6 q0_0 q0_1 (q0_2 ||| (1 : Int64)) (q0_3 ||| (1 : Int64)) q0_0 q0_1 (q0_2 ||| (1 : Int64)) (q0_3 ||| (1 : Int64))) = (1 : Int32) from ((if_pos rfl).trans ((if_pos rfl).trans ((if_pos rfl).trans (if_pos rfl))))]
   refine own_s (g' := (mkF m 64 #[.val (.long q0_0), .second, .val (.long q0_1), .second, .val (.long q0_2), .second, .val (.long q0_3), .second, .val (.int p0_4), .val (.int 0), .val (.long (q0_2 ||| (1 : Int64))), .second, .val (.long (q0_3 ||| (1 : Int64))), .second, .val (.ref b81), .val (.ref bf0_88), .unset, .unset, .unset, .unset, .unset] [])) (fun _ k => XS.ifYes X90.here hx rfl (pc0 := 59) (pc' := 64) rfl (hb hby at_59) rfl ((if0 _ _).trans (feq ((by decide) : ¬ (1 : Int32) = (0 : Int32))).2) (by decide) (by decide) k) ?_
   refine own_s (g' := (mkF m 66 #[.val (.long q0_0), .second, .val (.long q0_1), .second, .val (.long q0_2), .second, .val (.long q0_3), .second, .val (.int p0_4), .val (.int 0), .val (.long (q0_2 ||| (1 : Int64))), .second, .val (.long (q0_3 ||| (1 : Int64))), .second, .val (.ref b81), .val (.ref bf0_88), .unset, .unset, .unset, .unset, .unset] [(.ref bf0_88)])) (fun _ k => XS.aload X90.here hx rfl (hb hby at_64) rfl rfl k) ?_
   refine own_s (g' := (mkF m 67 #[.val (.long q0_0), .second, .val (.long q0_1), .second, .val (.long q0_2), .second, .val (.long q0_3), .second, .val (.int p0_4), .val (.int 0), .val (.long (q0_2 ||| (1 : Int64))), .second, .val (.long (q0_3 ||| (1 : Int64))), .second, .val (.ref b81), .val (.ref bf0_88), .unset, .unset, .unset, .unset, .unset] [(.int 0), (.ref bf0_88)])) (fun _ k => XS.iconst X90.here hx rfl (hb hby at_66) k) ?_
   refine own_s (g' := (mkF m 69 #[.val (.long q0_0), .second, .val (.long q0_1), .second, .val (.long q0_2), .second, .val (.long q0_3), .second, .val (.int p0_4), .val (.int 0), .val (.long (q0_2 ||| (1 : Int64))), .second, .val (.long (q0_3 ||| (1 : Int64))), .second, .val (.ref b81), .val (.ref bf0_88), .unset, .unset, .unset, .unset, .unset] [(.ref bf0_88), (.int 0), (.ref bf0_88)])) (fun _ k => XS.aload X90.here hx rfl (hb hby at_67) rfl rfl k) ?_
   refine own_s (g' := (mkF m 70 #[.val (.long q0_0), .second, .val (.long q0_1), .second, .val (.long q0_2), .second, .val (.long q0_3), .second, .val (.int p0_4), .val (.int 0), .val (.long (q0_2 ||| (1 : Int64))), .second, .val (.long (q0_3 ||| (1 : Int64))), .second, .val (.ref b81), .val (.ref bf0_88), .unset, .unset, .unset, .unset, .unset] [(.int 0), (.ref bf0_88), (.int 0), (.ref bf0_88)])) (fun _ k => XS.iconst X90.here hx rfl (hb hby at_69) k) ?_
   obtain ⟨cl91, Ar91, -, S91, -, H91, -⟩ := id f89
   have in91 := inb_of S91 (j := (0 : Int32)) ⟨by decide, by decide⟩
   refine own_s (g' := (mkF m 71 #[.val (.long q0_0), .second, .val (.long q0_1), .second, .val (.long q0_2), .second, .val (.long q0_3), .second, .val (.int p0_4), .val (.int 0), .val (.long (q0_2 ||| (1 : Int64))), .second, .val (.long (q0_3 ||| (1 : Int64))), .second, .val (.ref b81), .val (.ref bf0_88), .unset, .unset, .unset, .unset, .unset] [(.long q0_0), (.int 0), (.ref bf0_88)])) (X90.laload hx (j := (0 : Int32)) (v := (.long q0_0)) (by rw [eh90]; exact Ar91.1) (State.isArrayOf_alike hZ.alike Ar91.2.1) Ar91.2.2 in91 (Has.at H91 in91 rfl) (g := (mkF m 70 #[.val (.long q0_0), .second, .val (.long q0_1), .second, .val (.long q0_2), .second, .val (.long q0_3), .second, .val (.int p0_4), .val (.int 0), .val (.long (q0_2 ||| (1 : Int64))), .second, .val (.long (q0_3 ||| (1 : Int64))), .second, .val (.ref b81), .val (.ref bf0_88), .unset, .unset, .unset, .unset, .unset] [(.int 0), (.ref bf0_88), (.int 0), (.ref bf0_88)])) rfl rfl (hb hby at_70)) ?_
   refine own_s (g' := (mkF m 74 #[.val (.long q0_0), .second, .val (.long q0_1), .second, .val (.long q0_2), .second, .val (.long q0_3), .second, .val (.int p0_4), .val (.int 0), .val (.long (q0_2 ||| (1 : Int64))), .second, .val (.long (q0_3 ||| (1 : Int64))), .second, .val (.ref b81), .val (.ref bf0_88), .unset, .unset, .unset, .unset, .unset] [(.long (-1)), (.long q0_0), (.int 0), (.ref bf0_88)])) (X90.ldc2Long hx hown (mvT hZ ww37) (g := (mkF m 71 #[.val (.long q0_0), .second, .val (.long q0_1), .second, .val (.long q0_2), .second, .val (.long q0_3), .second, .val (.int p0_4), .val (.int 0), .val (.long (q0_2 ||| (1 : Int64))), .second, .val (.long (q0_3 ||| (1 : Int64))), .second, .val (.ref b81), .val (.ref bf0_88), .unset, .unset, .unset, .unset, .unset] [(.long q0_0), (.int 0), (.ref bf0_88)])) rfl (hb hby at_71)) ?_
   refine own_s (g' := (mkF m 75 #[.val (.long q0_0), .second, .val (.long q0_1), .second, .val (.long q0_2), .second, .val (.long q0_3), .second, .val (.int p0_4), .val (.int 0), .val (.long (q0_2 ||| (1 : Int64))), .second, .val (.long (q0_3 ||| (1 : Int64))), .second, .val (.ref b81), .val (.ref bf0_88), .unset, .unset, .unset, .unset, .unset] [(.long (q0_0 ^^^ (-1 : Int64))), (.int 0), (.ref bf0_88)])) (fun _ k => XS.lxor X90.here hx rfl (hb hby at_74) rfl k) ?_
   obtain ⟨cl92, Ar92, q92, S92, M92, H92, G92⟩ := id f89
   obtain ⟨T92, h92, X92, e92, W92, st92⟩ := stJ X90 hx hZ eh90 Ar92 (j := (0 : Int32)) (inb_of S92 ⟨by decide, by decide⟩) (g := (mkF m 75 #[.val (.long q0_0), .second, .val (.long q0_1), .second, .val (.long q0_2), .second, .val (.long q0_3), .second, .val (.int p0_4), .val (.int 0), .val (.long (q0_2 ||| (1 : Int64))), .second, .val (.long (q0_3 ||| (1 : Int64))), .second, .val (.ref b81), .val (.ref bf0_88), .unset, .unset, .unset, .unset, .unset] [(.long (q0_0 ^^^ (-1 : Int64))), (.int 0), (.ref bf0_88)])) rfl rfl (hb hby at_75)
   have f93 : Arv Z h92 bf0_88 kf0_88 .long (4 : Int32) [(.long (q0_0 ^^^ (-1 : Int64))), (.long q0_1), (.long (q0_2 ||| (1 : Int64))), (.long (q0_3 ||| (1 : Int64)))] (.long 0) := Arv.set Ar92 q92 S92 M92 H92 G92 rfl W92 0 rfl (Nat.le_of_ble_eq_true rfl)
   have K92 := K88.wr W92 (Or.inr sz_bf0_88)
   have N92 := Fr.snoc X92 N90 g_bf0_88
   refine own_s (g' := (mkF m 76 #[.val (.long q0_0), .second, .val (.long q0_1), .second, .val (.long q0_2), .second, .val (.long q0_3), .second, .val (.int p0_4), .val (.int 0), .val (.long (q0_2 ||| (1 : Int64))), .second, .val (.long (q0_3 ||| (1 : Int64))), .second, .val (.ref b81), .val (.ref bf0_88), .unset, .unset, .unset, .unset, .unset] [])) st92 ?_
   refine own_s (g' := (mkF m 78 #[.val (.long q0_0), .second, .val (.long q0_1), .second, .val (.long q0_2), .second, .val (.long q0_3), .second, .val (.int p0_4), .val (.int 0), .val (.long (q0_2 ||| (1 : Int64))), .second, .val (.long (q0_3 ||| (1 : Int64))), .second, .val (.ref b81), .val (.ref bf0_88), .unset, .unset, .unset, .unset, .unset] [(.ref bf0_88)])) (fun _ k => XS.aload X92.here hx rfl (hb hby at_76) rfl rfl k) ?_
   refine own_s (g' := (mkF m 79 #[.val (.long q0_0), .second, .val (.long q0_1), .second, .val (.long q0_2), .second, .val (.long q0_3), .second, .val (.int p0_4), .val (.int 0), .val (.long (q0_2 ||| (1 : Int64))), .second, .val (.long (q0_3 ||| (1 : Int64))), .second, .val (.ref b81), .val (.ref bf0_88), .unset, .unset, .unset, .unset, .unset] [(.int 1), (.ref bf0_88)])) (fun _ k => XS.iconst X92.here hx rfl (hb hby at_78) k) ?_
   refine own_s (g' := (mkF m 81 #[.val (.long q0_0), .second, .val (.long q0_1), .second, .val (.long q0_2), .second, .val (.long q0_3), .second, .val (.int p0_4), .val (.int 0), .val (.long (q0_2 ||| (1 : Int64))), .second, .val (.long (q0_3 ||| (1 : Int64))), .second, .val (.ref b81), .val (.ref bf0_88), .unset, .unset, .unset, .unset, .unset] [(.ref bf0_88), (.int 1), (.ref bf0_88)])) (fun _ k => XS.aload X92.here hx rfl (hb hby at_79) rfl rfl k) ?_
   refine own_s (g' := (mkF m 82 #[.val (.long q0_0), .second, .val (.long q0_1), .second, .val (.long q0_2), .second, .val (.long q0_3), .second, .val (.int p0_4), .val (.int 0), .val (.long (q0_2 ||| (1 : Int64))), .second, .val (.long (q0_3 ||| (1 : Int64))), .second, .val (.ref b81), .val (.ref bf0_88), .unset, .unset, .unset, .unset, .unset] [(.int 1), (.ref bf0_88), (.int 1), (.ref bf0_88)])) (fun _ k => XS.iconst X92.here hx rfl (hb hby at_81) k) ?_
   obtain ⟨cl94, Ar94, -, S94, -, H94, -⟩ := id f93
   have in94 := inb_of S94 (j := (1 : Int32)) ⟨by decide, by decide⟩
   refine own_s (g' := (mkF m 83 #[.val (.long q0_0), .second, .val (.long q0_1), .second, .val (.long q0_2), .second, .val (.long q0_3), .second, .val (.int p0_4), .val (.int 0), .val (.long (q0_2 ||| (1 : Int64))), .second, .val (.long (q0_3 ||| (1 : Int64))), .second, .val (.ref b81), .val (.ref bf0_88), .unset, .unset, .unset, .unset, .unset] [(.long q0_1), (.int 1), (.ref bf0_88)])) (X92.laload hx (j := (1 : Int32)) (v := (.long q0_1)) (by rw [e92]; exact Ar94.1) (State.isArrayOf_alike hZ.alike Ar94.2.1) Ar94.2.2 in94 (Has.at H94 in94 rfl) (g := (mkF m 82 #[.val (.long q0_0), .second, .val (.long q0_1), .second, .val (.long q0_2), .second, .val (.long q0_3), .second, .val (.int p0_4), .val (.int 0), .val (.long (q0_2 ||| (1 : Int64))), .second, .val (.long (q0_3 ||| (1 : Int64))), .second, .val (.ref b81), .val (.ref bf0_88), .unset, .unset, .unset, .unset, .unset] [(.int 1), (.ref bf0_88), (.int 1), (.ref bf0_88)])) rfl rfl (hb hby at_82)) ?_
   refine own_s (g' := (mkF m 86 #[.val (.long q0_0), .second, .val (.long q0_1), .second, .val (.long q0_2), .second, .val (.long q0_3), .second, .val (.int p0_4), .val (.int 0), .val (.long (q0_2 ||| (1 : Int64))), .second, .val (.long (q0_3 ||| (1 : Int64))), .second, .val (.ref b81), .val (.ref bf0_88), .unset, .unset, .unset, .unset, .unset] [(.long (-1)), (.long q0_1), (.int 1), (.ref bf0_88)])) (X92.ldc2Long hx hown (mvT hZ ww37) (g := (mkF m 83 #[.val (.long q0_0), .second, .val (.long q0_1), .second, .val (.long q0_2), .second, .val (.long q0_3), .second, .val (.int p0_4), .val (.int 0), .val (.long (q0_2 ||| (1 : Int64))), .second, .val (.long (q0_3 ||| (1 : Int64))), .second, .val (.ref b81), .val (.ref bf0_88), .unset, .unset, .unset, .unset, .unset] [(.long q0_1), (.int 1), (.ref bf0_88)])) rfl (hb hby at_83)) ?_
   refine own_s (g' := (mkF m 87 #[.val (.long q0_0), .second, .val (.long q0_1), .second, .val (.long q0_2), .second, .val (.long q0_3), .second, .val (.int p0_4), .val (.int 0), .val (.long (q0_2 ||| (1 : Int64))), .second, .val (.long (q0_3 ||| (1 : Int64))), .second, .val (.ref b81), .val (.ref bf0_88), .unset, .unset, .unset, .unset, .unset] [(.long (q0_1 ^^^ (-1 : Int64))), (.int 1), (.ref bf0_88)])) (fun _ k => XS.lxor X92.here hx rfl (hb hby at_86) rfl k) ?_
   obtain ⟨cl95, Ar95, q95, S95, M95, H95, G95⟩ := id f93
   obtain ⟨T95, h95, X95, e95, W95, st95⟩ := stJ X92 hx hZ e92 Ar95 (j := (1 : Int32)) (inb_of S95 ⟨by decide, by decide⟩) (g := (mkF m 87 #[.val (.long q0_0), .second, .val (.long q0_1), .second, .val (.long q0_2), .second, .val (.long q0_3), .second, .val (.int p0_4), .val (.int 0), .val (.long (q0_2 ||| (1 : Int64))), .second, .val (.long (q0_3 ||| (1 : Int64))), .second, .val (.ref b81), .val (.ref bf0_88), .unset, .unset, .unset, .unset, .unset] [(.long (q0_1 ^^^ (-1 : Int64))), (.int 1), (.ref bf0_88)])) rfl rfl (hb hby at_87)
   have f96 : Arv Z h95 bf0_88 kf0_88 .long (4 : Int32) [(.long (q0_0 ^^^ (-1 : Int64))), (.long (q0_1 ^^^ (-1 : Int64))), (.long (q0_2 ||| (1 : Int64))), (.long (q0_3 ||| (1 : Int64)))] (.long 0) := Arv.set Ar95 q95 S95 M95 H95 G95 rfl W95 1 rfl (Nat.le_of_ble_eq_true rfl)
   have K95 := K92.wr W95 (Or.inr sz_bf0_88)
   have N95 := Fr.snoc X95 N92 g_bf0_88
   refine own_s (g' := (mkF m 88 #[.val (.long q0_0), .second, .val (.long q0_1), .second, .val (.long q0_2), .second, .val (.long q0_3), .second, .val (.int p0_4), .val (.int 0), .val (.long (q0_2 ||| (1 : Int64))), .second, .val (.long (q0_3 ||| (1 : Int64))), .second, .val (.ref b81), .val (.ref bf0_88), .unset, .unset, .unset, .unset, .unset] [])) st95 ?_
   refine own_s (g' := (mkF m 90 #[.val (.long q0_0), .second, .val (.long q0_1), .second, .val (.long q0_2), .second, .val (.long q0_3), .second, .val (.int p0_4), .val (.int 0), .val (.long (q0_2 ||| (1 : Int64))), .second, .val (.long (q0_3 ||| (1 : Int64))), .second, .val (.ref b81), .val (.ref bf0_88), .unset, .unset, .unset, .unset, .unset] [(.ref bf0_88)])) (fun _ k => XS.aload X95.here hx rfl (hb hby at_88) rfl rfl k) ?_
   refine own_s (g' := (mkF m 91 #[.val (.long q0_0), .second, .val (.long q0_1), .second, .val (.long q0_2), .second, .val (.long q0_3), .second, .val (.int p0_4), .val (.int 0), .val (.long (q0_2 ||| (1 : Int64))), .second, .val (.long (q0_3 ||| (1 : Int64))), .second, .val (.ref b81), .val (.ref bf0_88), .unset, .unset, .unset, .unset, .unset] [(.int 2), (.ref bf0_88)])) (fun _ k => XS.iconst X95.here hx rfl (hb hby at_90) k) ?_
   refine own_s (g' := (mkF m 93 #[.val (.long q0_0), .second, .val (.long q0_1), .second, .val (.long q0_2), .second, .val (.long q0_3), .second, .val (.int p0_4), .val (.int 0), .val (.long (q0_2 ||| (1 : Int64))), .second, .val (.long (q0_3 ||| (1 : Int64))), .second, .val (.ref b81), .val (.ref bf0_88), .unset, .unset, .unset, .unset, .unset] [(.ref bf0_88), (.int 2), (.ref bf0_88)])) (fun _ k => XS.aload X95.here hx rfl (hb hby at_91) rfl rfl k) ?_
   refine own_s (g' := (mkF m 94 #[.val (.long q0_0), .second, .val (.long q0_1), .second, .val (.long q0_2), .second, .val (.long q0_3), .second, .val (.int p0_4), .val (.int 0), .val (.long (q0_2 ||| (1 : Int64))), .second, .val (.long (q0_3 ||| (1 : Int64))), .second, .val (.ref b81), .val (.ref bf0_88), .unset, .unset, .unset, .unset, .unset] [(.int 2), (.ref bf0_88), (.int 2), (.ref bf0_88)])) (fun _ k => XS.iconst X95.here hx rfl (hb hby at_93) k) ?_
   obtain ⟨cl97, Ar97, -, S97, -, H97, -⟩ := id f96
   have in97 := inb_of S97 (j := (2 : Int32)) ⟨by decide, by decide⟩
   refine own_s (g' := (mkF m 95 #[.val (.long q0_0), .second, .val (.long q0_1), .second, .val (.long q0_2), .second, .val (.long q0_3), .second, .val (.int p0_4), .val (.int 0), .val (.long (q0_2 ||| (1 : Int64))), .second, .val (.long (q0_3 ||| (1 : Int64))), .second, .val (.ref b81), .val (.ref bf0_88), .unset, .unset, .unset, .unset, .unset] [(.long (q0_2 ||| (1 : Int64))), (.int 2), (.ref bf0_88)])) (X95.laload hx (j := (2 : Int32)) (v := (.long (q0_2 ||| (1 : Int64)))) (by rw [e95]; exact Ar97.1) (State.isArrayOf_alike hZ.alike Ar97.2.1) Ar97.2.2 in97 (Has.at H97 in97 rfl) (g := (mkF m 94 #[.val (.long q0_0), .second, .val (.long q0_1), .second, .val (.long q0_2), .second, .val (.long q0_3), .second, .val (.int p0_4), .val (.int 0), .val (.long (q0_2 ||| (1 : Int64))), .second, .val (.long (q0_3 ||| (1 : Int64))), .second, .val (.ref b81), .val (.ref bf0_88), .unset, .unset, .unset, .unset, .unset] [(.int 2), (.ref bf0_88), (.int 2), (.ref bf0_88)])) rfl rfl (hb hby at_94)) ?_
   refine own_s (g' := (mkF m 98 #[.val (.long q0_0), .second, .val (.long q0_1), .second, .val (.long q0_2), .second, .val (.long q0_3), .second, .val (.int p0_4), .val (.int 0), .val (.long (q0_2 ||| (1 : Int64))), .second, .val (.long (q0_3 ||| (1 : Int64))), .second, .val (.ref b81), .val (.ref bf0_88), .unset, .unset, .unset, .unset, .unset] [(.long 2), (.long (q0_2 ||| (1 : Int64))), (.int 2), (.ref bf0_88)])) (X95.ldc2Long hx hown (mvT hZ ww38) (g := (mkF m 95 #[.val (.long q0_0), .second, .val (.long q0_1), .second, .val (.long q0_2), .second, .val (.long q0_3), .second, .val (.int p0_4), .val (.int 0), .val (.long (q0_2 ||| (1 : Int64))), .second, .val (.long (q0_3 ||| (1 : Int64))), .second, .val (.ref b81), .val (.ref bf0_88), .unset, .unset, .unset, .unset, .unset] [(.long (q0_2 ||| (1 : Int64))), (.int 2), (.ref bf0_88)])) rfl (hb hby at_95)) ?_
   refine own_s (g' := (mkF m 99 #[.val (.long q0_0), .second, .val (.long q0_1), .second, .val (.long q0_2), .second, .val (.long q0_3), .second, .val (.int p0_4), .val (.int 0), .val (.long (q0_2 ||| (1 : Int64))), .second, .val (.long (q0_3 ||| (1 : Int64))), .second, .val (.ref b81), .val (.ref bf0_88), .unset, .unset, .unset, .unset, .unset] [(.long ((q0_2 ||| (1 : Int64)) + (2 : Int64))), (.int 2), (.ref bf0_88)])) (fun _ k => XS.ladd X95.here hx rfl (hb hby at_98) rfl k) ?_
   obtain ⟨cl98, Ar98, q98, S98, M98, H98, G98⟩ := id f96
   obtain ⟨T98, h98, X98, e98, W98, st98⟩ := stJ X95 hx hZ e95 Ar98 (j := (2 : Int32)) (inb_of S98 ⟨by decide, by decide⟩) (g := (mkF m 99 #[.val (.long q0_0), .second, .val (.long q0_1), .second, .val (.long q0_2), .second, .val (.long q0_3), .second, .val (.int p0_4), .val (.int 0), .val (.long (q0_2 ||| (1 : Int64))), .second, .val (.long (q0_3 ||| (1 : Int64))), .second, .val (.ref b81), .val (.ref bf0_88), .unset, .unset, .unset, .unset, .unset] [(.long ((q0_2 ||| (1 : Int64)) + (2 : Int64))), (.int 2), (.ref bf0_88)])) rfl rfl (hb hby at_99)
   have f99 : Arv Z h98 bf0_88 kf0_88 .long (4 : Int32) [(.long (q0_0 ^^^ (-1 : Int64))), (.long (q0_1 ^^^ (-1 : Int64))), (.long ((q0_2 ||| (1 : Int64)) + (2 : Int64))), (.long (q0_3 ||| (1 : Int64)))] (.long 0) := Arv.set Ar98 q98 S98 M98 H98 G98 rfl W98 2 rfl (Nat.le_of_ble_eq_true rfl)
   have K98 := K95.wr W98 (Or.inr sz_bf0_88)
   have N98 := Fr.snoc X98 N95 g_bf0_88
   refine own_s (g' := (mkF m 100 #[.val (.long q0_0), .second, .val (.long q0_1), .second, .val (.long q0_2), .second, .val (.long q0_3), .second, .val (.int p0_4), .val (.int 0), .val (.long (q0_2 ||| (1 : Int64))), .second, .val (.long (q0_3 ||| (1 : Int64))), .second, .val (.ref b81), .val (.ref bf0_88), .unset, .unset, .unset, .unset, .unset] [])) st98 ?_
   refine own_s (g' := (mkF m 102 #[.val (.long q0_0), .second, .val (.long q0_1), .second, .val (.long q0_2), .second, .val (.long q0_3), .second, .val (.int p0_4), .val (.int 0), .val (.long (q0_2 ||| (1 : Int64))), .second, .val (.long (q0_3 ||| (1 : Int64))), .second, .val (.ref b81), .val (.ref bf0_88), .unset, .unset, .unset, .unset, .unset] [(.ref bf0_88)])) (fun _ k => XS.aload X98.here hx rfl (hb hby at_100) rfl rfl k) ?_
   refine own_s (g' := (mkF m 103 #[.val (.long q0_0), .second, .val (.long q0_1), .second, .val (.long q0_2), .second, .val (.long q0_3), .second, .val (.int p0_4), .val (.int 0), .val (.long (q0_2 ||| (1 : Int64))), .second, .val (.long (q0_3 ||| (1 : Int64))), .second, .val (.ref b81), .val (.ref bf0_88), .unset, .unset, .unset, .unset, .unset] [(.int 3), (.ref bf0_88)])) (fun _ k => XS.iconst X98.here hx rfl (hb hby at_102) k) ?_
   refine own_s (g' := (mkF m 105 #[.val (.long q0_0), .second, .val (.long q0_1), .second, .val (.long q0_2), .second, .val (.long q0_3), .second, .val (.int p0_4), .val (.int 0), .val (.long (q0_2 ||| (1 : Int64))), .second, .val (.long (q0_3 ||| (1 : Int64))), .second, .val (.ref b81), .val (.ref bf0_88), .unset, .unset, .unset, .unset, .unset] [(.ref bf0_88), (.int 3), (.ref bf0_88)])) (fun _ k => XS.aload X98.here hx rfl (hb hby at_103) rfl rfl k) ?_
   refine own_s (g' := (mkF m 106 #[.val (.long q0_0), .second, .val (.long q0_1), .second, .val (.long q0_2), .second, .val (.long q0_3), .second, .val (.int p0_4), .val (.int 0), .val (.long (q0_2 ||| (1 : Int64))), .second, .val (.long (q0_3 ||| (1 : Int64))), .second, .val (.ref b81), .val (.ref bf0_88), .unset, .unset, .unset, .unset, .unset] [(.int 3), (.ref bf0_88), (.int 3), (.ref bf0_88)])) (fun _ k => XS.iconst X98.here hx rfl (hb hby at_105) k) ?_
   obtain ⟨cl100, Ar100, -, S100, -, H100, -⟩ := id f99
   have in100 := inb_of S100 (j := (3 : Int32)) ⟨by decide, by decide⟩
   refine own_s (g' := (mkF m 107 #[.val (.long q0_0), .second, .val (.long q0_1), .second, .val (.long q0_2), .second, .val (.long q0_3), .second, .val (.int p0_4), .val (.int 0), .val (.long (q0_2 ||| (1 : Int64))), .second, .val (.long (q0_3 ||| (1 : Int64))), .second, .val (.ref b81), .val (.ref bf0_88), .unset, .unset, .unset, .unset, .unset] [(.long (q0_3 ||| (1 : Int64))), (.int 3), (.ref bf0_88)])) (X98.laload hx (j := (3 : Int32)) (v := (.long (q0_3 ||| (1 : Int64)))) (by rw [e98]; exact Ar100.1) (State.isArrayOf_alike hZ.alike Ar100.2.1) Ar100.2.2 in100 (Has.at H100 in100 rfl) (g := (mkF m 106 #[.val (.long q0_0), .second, .val (.long q0_1), .second, .val (.long q0_2), .second, .val (.long q0_3), .second, .val (.int p0_4), .val (.int 0), .val (.long (q0_2 ||| (1 : Int64))), .second, .val (.long (q0_3 ||| (1 : Int64))), .second, .val (.ref b81), .val (.ref bf0_88), .unset, .unset, .unset, .unset, .unset] [(.int 3), (.ref bf0_88), (.int 3), (.ref bf0_88)])) rfl rfl (hb hby at_106)) ?_
   refine own_s (g' := (mkF m 110 #[.val (.long q0_0), .second, .val (.long q0_1), .second, .val (.long q0_2), .second, .val (.long q0_3), .second, .val (.int p0_4), .val (.int 0), .val (.long (q0_2 ||| (1 : Int64))), .second, .val (.long (q0_3 ||| (1 : Int64))), .second, .val (.ref b81), .val (.ref bf0_88), .unset, .unset, .unset, .unset, .unset] [(.long 2), (.long (q0_3 ||| (1 : Int64))), (.int 3), (.ref bf0_88)])) (X98.ldc2Long hx hown (mvT hZ ww38) (g := (mkF m 107 #[.val (.long q0_0), .second, .val (.long q0_1), .second, .val (.long q0_2), .second, .val (.long q0_3), .second, .val (.int p0_4), .val (.int 0), .val (.long (q0_2 ||| (1 : Int64))), .second, .val (.long (q0_3 ||| (1 : Int64))), .second, .val (.ref b81), .val (.ref bf0_88), .unset, .unset, .unset, .unset, .unset] [(.long (q0_3 ||| (1 : Int64))), (.int 3), (.ref bf0_88)])) rfl (hb hby at_107)) ?_
   refine own_s (g' := (mkF m 111 #[.val (.long q0_0), .second, .val (.long q0_1), .second, .val (.long q0_2), .second, .val (.long q0_3), .second, .val (.int p0_4), .val (.int 0), .val (.long (q0_2 ||| (1 : Int64))), .second, .val (.long (q0_3 ||| (1 : Int64))), .second, .val (.ref b81), .val (.ref bf0_88), .unset, .unset, .unset, .unset, .unset] [(.long ((q0_3 ||| (1 : Int64)) + (2 : Int64))), (.int 3), (.ref bf0_88)])) (fun _ k => XS.ladd X98.here hx rfl (hb hby at_110) rfl k) ?_
   obtain ⟨cl101, Ar101, q101, S101, M101, H101, G101⟩ := id f99
   obtain ⟨T101, h101, X101, e101, W101, st101⟩ := stJ X98 hx hZ e98 Ar101 (j := (3 : Int32)) (inb_of S101 ⟨by decide, by decide⟩) (g := (mkF m 111 #[.val (.long q0_0), .second, .val (.long q0_1), .second, .val (.long q0_2), .second, .val (.long q0_3), .second, .val (.int p0_4), .val (.int 0), .val (.long (q0_2 ||| (1 : Int64))), .second, .val (.long (q0_3 ||| (1 : Int64))), .second, .val (.ref b81), .val (.ref bf0_88), .unset, .unset, .unset, .unset, .unset] [(.long ((q0_3 ||| (1 : Int64)) + (2 : Int64))), (.int 3), (.ref bf0_88)])) rfl rfl (hb hby at_111)
   have f102 : Arv Z h101 bf0_88 kf0_88 .long (4 : Int32) [(.long (q0_0 ^^^ (-1 : Int64))), (.long (q0_1 ^^^ (-1 : Int64))), (.long ((q0_2 ||| (1 : Int64)) + (2 : Int64))), (.long ((q0_3 ||| (1 : Int64)) + (2 : Int64)))] (.long 0) := Arv.set Ar101 q101 S101 M101 H101 G101 rfl W101 3 rfl (Nat.le_of_ble_eq_true rfl)
   have K101 := K98.wr W101 (Or.inr sz_bf0_88)
   have N101 := Fr.snoc X101 N98 g_bf0_88
   refine own_s (g' := (mkF m 112 #[.val (.long q0_0), .second, .val (.long q0_1), .second, .val (.long q0_2), .second, .val (.long q0_3), .second, .val (.int p0_4), .val (.int 0), .val (.long (q0_2 ||| (1 : Int64))), .second, .val (.long (q0_3 ||| (1 : Int64))), .second, .val (.ref b81), .val (.ref bf0_88), .unset, .unset, .unset, .unset, .unset] [])) st101 ?_
   refine own_s (g' := (mkF m 113 #[.val (.long q0_0), .second, .val (.long q0_1), .second, .val (.long q0_2), .second, .val (.long q0_3), .second, .val (.int p0_4), .val (.int 0), .val (.long (q0_2 ||| (1 : Int64))), .second, .val (.long (q0_3 ||| (1 : Int64))), .second, .val (.ref b81), .val (.ref bf0_88), .unset, .unset, .unset, .unset, .unset] [(.long q0_0)])) (fun _ k => XS.lloadN X101.here hx rfl (hb hby at_112) rfl k) ?_
   refine own_s (g' := (mkF m 115 #[.val (.long q0_0), .second, .val (.long q0_1), .second, .val (.long q0_2), .second, .val (.long q0_3), .second, .val (.int p0_4), .val (.int 0), .val (.long (q0_2 ||| (1 : Int64))), .second, .val (.long (q0_3 ||| (1 : Int64))), .second, .val (.ref b81), .val (.ref bf0_88), .val (.long q0_0), .second, .unset, .unset, .unset] [])) (fun _ k => XS.lstore X101.here hx rfl (hb hby at_113) rfl (l' := #[.val (.long q0_0), .second, .val (.long q0_1), .second, .val (.long q0_2), .second, .val (.long q0_3), .second, .val (.int p0_4), .val (.int 0), .val (.long (q0_2 ||| (1 : Int64))), .second, .val (.long (q0_3 ||| (1 : Int64))), .second, .val (.ref b81), .val (.ref bf0_88), .val (.long q0_0), .second, .unset, .unset, .unset]) rfl k) ?_
   refine own_s (g' := (mkF m 116 #[.val (.long q0_0), .second, .val (.long q0_1), .second, .val (.long q0_2), .second, .val (.long q0_3), .second, .val (.int p0_4), .val (.int 0), .val (.long (q0_2 ||| (1 : Int64))), .second, .val (.long (q0_3 ||| (1 : Int64))), .second, .val (.ref b81), .val (.ref bf0_88), .val (.long q0_0), .second, .unset, .unset, .unset] [(.long q0_1)])) (fun _ k => XS.lloadN X101.here hx rfl (hb hby at_115) rfl k) ?_
   refine own_s (g' := (mkF m 118 #[.val (.long q0_0), .second, .val (.long q0_1), .second, .val (.long q0_2), .second, .val (.long q0_3), .second, .val (.int p0_4), .val (.int 0), .val (.long (q0_2 ||| (1 : Int64))), .second, .val (.long (q0_3 ||| (1 : Int64))), .second, .val (.ref b81), .val (.ref bf0_88), .val (.long q0_0), .second, .val (.long q0_1), .second, .unset] [])) (fun _ k => XS.lstore X101.here hx rfl (hb hby at_116) rfl (l' := #[.val (.long q0_0), .second, .val (.long q0_1), .second, .val (.long q0_2), .second, .val (.long q0_3), .second, .val (.int p0_4), .val (.int 0), .val (.long (q0_2 ||| (1 : Int64))), .second, .val (.long (q0_3 ||| (1 : Int64))), .second, .val (.ref b81), .val (.ref bf0_88), .val (.long q0_0), .second, .val (.long q0_1), .second, .unset]) rfl k) ?_
   refine own_s (g' := (mkF m 120 #[.val (.long q0_0), .second, .val (.long q0_1), .second, .val (.long q0_2), .second, .val (.long q0_3), .second, .val (.int p0_4), .val (.int 0), .val (.long (q0_2 ||| (1 : Int64))), .second, .val (.long (q0_3 ||| (1 : Int64))), .second, .val (.ref b81), .val (.ref bf0_88), .val (.long q0_0), .second, .val (.long q0_1), .second, .unset] [(.int 0)])) (fun _ k => XS.iload X101.here hx rfl (hb hby at_118) rfl k) ?_
   refine own_s (g' := (mkF m 149 #[.val (.long q0_0), .second, .val (.long q0_1), .second, .val (.long q0_2), .second, .val (.long q0_3), .second, .val (.int p0_4), .val (.int 0), .val (.long (q0_2 ||| (1 : Int64))), .second, .val (.long (q0_3 ||| (1 : Int64))), .second, .val (.ref b81), .val (.ref bf0_88), .val (.long q0_0), .second, .val (.long q0_1), .second, .unset] [])) (fun _ k => XS.ifYes X101.here hx rfl (pc0 := 120) (pc' := 149) rfl (hb hby at_120) rfl ((if0 _ _).trans (teq ((by decide) : (0 : Int32) = (0 : Int32))).1) (by decide) (by decide) k) ?_
   refine own_s (g' := (mkF m 151 #[.val (.long q0_0), .second, .val (.long q0_1), .second, .val (.long q0_2), .second, .val (.long q0_3), .second, .val (.int p0_4), .val (.int 0), .val (.long (q0_2 ||| (1 : Int64))), .second, .val (.long (q0_3 ||| (1 : Int64))), .second, .val (.ref b81), .val (.ref bf0_88), .val (.long q0_0), .second, .val (.long q0_1), .second, .unset] [(.ref b81)])) (fun _ k => XS.aload X101.here hx rfl (hb hby at_149) rfl rfl k) ?_
   have ne104 : b81 ≠ bf0_88 := Nat.ne_of_lt (Nat.lt_of_lt_of_le f83.lt hs_bf0_88)
   have f105 := (((((f84.keep K88q nin0).other W92 (Or.inl ne104)).other W95 (Or.inl ne104)).other W98 (Or.inl ne104)).other W101 (Or.inl ne104))
   have f106 := (((((f85.keep K88q nin0).other W92 (Or.inl ne104)).other W95 (Or.inl ne104)).other W98 (Or.inl ne104)).other W101 (Or.inl ne104))
   have f107 := (((((f86.keep K88q nin0).other W92 (Or.inl ne104)).other W95 (Or.inl ne104)).other W98 (Or.inl ne104)).other W101 (Or.inl ne104))
   have f108 := (((((f87.keep K88q nin0).other W92 (Or.inl ne104)).other W95 (Or.inl ne104)).other W98 (Or.inl ne104)).other W101 (Or.inl ne104))
   have f109 := (((((f83.keep K88q).wr W92).wr W95).wr W98).wr W101)
   obtain ⟨cq103, kq103, q103a, q103b, q103c⟩ := isOf hZ e101 f109
   obtain ⟨_, _, ⟨T103, L103, k103, n103⟩, -, X103, ⟨Lc103, hQ103, l103, y103, z103⟩, st103⟩ := X101.virtualBack hx (y := (⟨"com/example/forkstream/forkstream/TwinLinear", "stateWords", "()[J"⟩ : MethodName)) (z := (⟨"com/example/forkstream/forkstream/TwinLinear", "stateWords", "()[J"⟩ : MethodName)) hown (mvT hZ ww27) (mvT hZ ww28) (notFace_of_selects (args := #[]) (mvT hZ ww30)) (mvT hZ ww30) (mvT hZ ww29) (by decide) (backOf (W := 0) (rm5 l Z a0 hw [] b81 q0_0 q0_1 (q0_2 ||| (1 : Int64)) (q0_3 ||| (1 : Int64)) h101 n0 (Nat.le_trans Z0 K101.1) f105 f106 f107 f108) hZ ww31 ww2 (by decide) (by decide)) q103a q103c (g := (mkF m 151 #[.val (.long q0_0), .second, .val (.long q0_1), .second, .val (.long q0_2), .second, .val (.long q0_3), .second, .val (.int p0_4), .val (.int 0), .val (.long (q0_2 ||| (1 : Int64))), .second, .val (.long (q0_3 ||| (1 : Int64))), .second, .val (.ref b81), .val (.ref bf0_88), .val (.long q0_0), .second, .val (.long q0_1), .second, .unset] [(.ref b81)])) rfl (by rw [hml]; rfl) (Steps.refl _) (argsL := []) (rest := []) (lenOf pd____J rfl) rfl (by show 2 * 0 + _ ≤ _; exact Nat.le_of_eq rfl) (hb hby at_151) (fun _ _ => ⟨rfl, e101, (by decide : 2 + 1 ≤ _), (by decide : 8 + 4 ≤ _)⟩)
   dsimp only [Pt.U, Pt.locs, Pt.cells, Pt.slots] at X103 l103 y103 z103 st103 hQ103
   subst l103 y103 z103
   obtain ⟨bf0_103, kf0_103, hs_bf0_103, rfl, N103q, K103q, f110⟩ := hQ103
   have g_bf0_103 := Nat.le_trans (Nat.le_trans Z0 K101.1) hs_bf0_103
   have sz_bf0_103 := Nat.le_trans K101.1 hs_bf0_103
   have K103 := K101.trans K103q all0
   have N103 := Fr.app N101 N103q
   refine own_trans (g' := (mkF m 154 #[.val (.long q0_0), .second, .val (.long q0_1), .second, .val (.long q0_2), .second, .val (.long q0_3), .second, .val (.int p0_4), .val (.int 0), .val (.long (q0_2 ||| (1 : Int64))), .second, .val (.long (q0_3 ||| (1 : Int64))), .second, .val (.ref b81), .val (.ref bf0_88), .val (.long q0_0), .second, .val (.long q0_1), .second, .unset] [(.ref bf0_103)])) st103 ?_
   refine own_s (g' := (mkF m 156 #[.val (.long q0_0), .second, .val (.long q0_1), .second, .val (.long q0_2), .second, .val (.long q0_3), .second, .val (.int p0_4), .val (.int 0), .val (.long (q0_2 ||| (1 : Int64))), .second, .val (.long (q0_3 ||| (1 : Int64))), .second, .val (.ref b81), .val (.ref bf0_88), .val (.long q0_0), .second, .val (.long q0_1), .second, .val (.ref bf0_103)] [])) (fun _ k => XS.astore X103.here hx rfl (hb hby at_154) rfl rfl (l' := #[.val (.long q0_0), .second, .val (.long q0_1), .second, .val (.long q0_2), .second, .val (.long q0_3), .second, .val (.int p0_4), .val (.int 0), .val (.long (q0_2 ||| (1 : Int64))), .second, .val (.long (q0_3 ||| (1 : Int64))), .second, .val (.ref b81), .val (.ref bf0_88), .val (.long q0_0), .second, .val (.long q0_1), .second, .val (.ref bf0_103)]) rfl k) ?_
   refine own_s (g' := (mkF m 158 #[.val (.long q0_0), .second, .val (.long q0_1), .second, .val (.long q0_2), .second, .val (.long q0_3), .second, .val (.int p0_4), .val (.int 0), .val (.long (q0_2 ||| (1 : Int64))), .second, .val (.long (q0_3 ||| (1 : Int64))), .second, .val (.ref b81), .val (.ref bf0_88), .val (.long q0_0), .second, .val (.long q0_1), .second, .val (.ref bf0_103)] [(.ref bf0_103)])) (fun _ k => XS.aload X103.here hx rfl (hb hby at_156) rfl rfl k) ?_
   refine own_s (g' := (mkF m 160 #[.val (.long q0_0), .second, .val (.long q0_1), .second, .val (.long q0_2), .second, .val (.long q0_3), .second, .val (.int p0_4), .val (.int 0), .val (.long (q0_2 ||| (1 : Int64))), .second, .val (.long (q0_3 ||| (1 : Int64))), .second, .val (.ref b81), .val (.ref bf0_88), .val (.long q0_0), .second, .val (.long q0_1), .second, .val (.ref bf0_103)] [(.long q0_0), (.ref bf0_103)])) (fun _ k => XS.lload X103.here hx rfl (hb hby at_158) rfl k) ?_
   refine own_s (g' := (mkF m 162 #[.val (.long q0_0), .second, .val (.long q0_1), .second, .val (.long q0_2), .second, .val (.long q0_3), .second, .val (.int p0_4), .val (.int 0), .val (.long (q0_2 ||| (1 : Int64))), .second, .val (.long (q0_3 ||| (1 : Int64))), .second, .val (.ref b81), .val (.ref bf0_88), .val (.long q0_0), .second, .val (.long q0_1), .second, .val (.ref bf0_103)] [(.long q0_1), (.long q0_0), (.ref bf0_103)])) (fun _ k => XS.lload X103.here hx rfl (hb hby at_160) rfl k) ?_
   refine own_s (g' := (mkF m 164 #[.val (.long q0_0), .second, .val (.long q0_1), .second, .val (.long q0_2), .second, .val (.long q0_3), .second, .val (.int p0_4), .val (.int 0), .val (.long (q0_2 ||| (1 : Int64))), .second, .val (.long (q0_3 ||| (1 : Int64))), .second, .val (.ref b81), .val (.ref bf0_88), .val (.long q0_0), .second, .val (.long q0_1), .second, .val (.ref bf0_103)] [(.long (q0_2 ||| (1 : Int64))), (.long q0_1), (.long q0_0), (.ref bf0_103)])) (fun _ k => XS.lload X103.here hx rfl (hb hby at_162) rfl k) ?_
   refine own_s (g' := (mkF m 166 #[.val (.long q0_0), .second, .val (.long q0_1), .second, .val (.long q0_2), .second, .val (.long q0_3), .second, .val (.int p0_4), .val (.int 0), .val (.long (q0_2 ||| (1 : Int64))), .second, .val (.long (q0_3 ||| (1 : Int64))), .second, .val (.ref b81), .val (.ref bf0_88), .val (.long q0_0), .second, .val (.long q0_1), .second, .val (.ref bf0_103)] [(.long (q0_3 ||| (1 : Int64))), (.long (q0_2 ||| (1 : Int64))), (.long q0_1), (.long q0_0), (.ref bf0_103)])) (fun _ k => XS.lload X103.here hx rfl (hb hby at_164) rfl k) ?_
   obtain ⟨_, _, ⟨T111, L111, k111, n111⟩, -, X111, ⟨Lc111, hQ111, l111, y111, z111⟩, st111⟩ := Jvm.LawKit.callS X103 hx (y := (⟨"com/example/forkstream/forkstream/TwinLinearStateWordsPinLaw", "words", "([JJJJJ)Z"⟩ : MethodName)) hown (mvT hZ ww33) (mvT hZ ww34) (mvT hZ ww35) (mvT hZ ww36) (by decide) (backOf (W := 0) (rm6 l Z a0 hw [] bf0_103 q0_0 q0_1 (q0_2 ||| (1 : Int64)) (q0_3 ||| (1 : Int64)) kf0_103 q0_0 q0_1 (q0_2 ||| (1 : Int64)) (q0_3 ||| (1 : Int64)) T103.heap n0 (Nat.le_trans Z0 K103.1) f110) hZ ww36 ww35 (by decide) (by decide)) (g := (mkF m 166 #[.val (.long q0_0), .second, .val (.long q0_1), .second, .val (.long q0_2), .second, .val (.long q0_3), .second, .val (.int p0_4), .val (.int 0), .val (.long (q0_2 ||| (1 : Int64))), .second, .val (.long (q0_3 ||| (1 : Int64))), .second, .val (.ref b81), .val (.ref bf0_88), .val (.long q0_0), .second, .val (.long q0_1), .second, .val (.ref bf0_103)] [(.long (q0_3 ||| (1 : Int64))), (.long (q0_2 ||| (1 : Int64))), (.long q0_1), (.long q0_0), (.ref bf0_103)])) rfl (by rw [hml]; rfl) (argsL := [(.ref bf0_103), (.long q0_0), (.long q0_1), (.long (q0_2 ||| (1 : Int64))), (.long (q0_3 ||| (1 : Int64)))]) (rest := []) (lenOf pd___JJJJJ_Z rfl) rfl (by show 2 * 0 + _ ≤ _; exact Nat.le_of_eq rfl) (hb hby at_166) (fun _ _ => ⟨rfl, rfl, (by decide : 3 + 0 ≤ _), (by decide : 12 + 0 ≤ _)⟩)
   dsimp only [Pt.U, Pt.locs, Pt.cells, Pt.slots] at X111 l111 y111 z111 st111 hQ111
   subst l111 y111 z111
   obtain ⟨rfl, N111q, eh111⟩ := hQ111
   have N111 := Fr.app N103 N111q
   refine own_s (g' := (mkF m 169 #[.val (.long q0_0), .second, .val (.long q0_1), .second, .val (.long q0_2), .second, .val (.long q0_3), .second, .val (.int p0_4), .val (.int 0), .val (.long (q0_2 ||| (1 : Int64))), .second, .val (.long (q0_3 ||| (1 : Int64))), .second, .val (.ref b81), .val (.ref bf0_88), .val (.long q0_0), .second, .val (.long q0_1), .second, .val (.ref bf0_103)] [(.int (r6 q0_0 q0_1 (q0_2 ||| (1 : Int64)) (q0_3 ||| (1 : Int64)) q0_0 q0_1 (q0_2 ||| (1 : Int64)) (q0_3 ||| (1 : Int64))))])) st111 ?_
   rw [show (r6 q0_0 q0_1 (q0_2 ||| (1 : Int64)) (q0_3 ||| (1 : Int64)) q0_0 q0_1 (q0_2 ||| (1 : Int64)) (q0_3 ||| (1 : Int64))) = (1 : Int32) from ((if_pos rfl).trans ((if_pos rfl).trans ((if_pos rfl).trans (if_pos rfl))))]
   refine own_retN X111 hx hlk (t := .boolean) hret (by simp) (hb hby at_169) (z' := (1 : Int32)) (by decide) (by decide) (by decide) ?_
   show Q0 Z q0_0 q0_1 q0_2 q0_3 p0_4 h0 n0 _ T111.heap _
   rw [eh111]
   exact ⟨rfl, N111⟩
  ·skip
   refine own_s (g' := (mkF m 7 #[.val (.long q0_0), .second, .val (.long q0_1), .second, .val (.long q0_2), .second, .val (.long q0_3), .second, .val (.int p0_4), .unset, .unset, .unset, .unset, .unset, .unset, .unset, .unset, .unset, .unset, .unset, .unset] [])) (fun _ k => XS.ifNo X0.here hx rfl (hb hby at_4) rfl ((if0 _ _).trans (feq c80).1) k) ?_
   refine own_s (g' := (mkF m 8 #[.val (.long q0_0), .second, .val (.long q0_1), .second, .val (.long q0_2), .second, .val (.long q0_3), .second, .val (.int p0_4), .unset, .unset, .unset, .unset, .unset, .unset, .unset, .unset, .unset, .unset, .unset, .unset] [(.int 1)])) (fun _ k => XS.iconst X0.here hx rfl (hb hby at_7) k) ?_
   refine own_s (g' := (mkF m 12 #[.val (.long q0_0), .second, .val (.long q0_1), .second, .val (.long q0_2), .second, .val (.long q0_3), .second, .val (.int p0_4), .unset, .unset, .unset, .unset, .unset, .unset, .unset, .unset, .unset, .unset, .unset, .unset] [(.int 1)])) (fun _ k => XS.goto X0.here hx rfl (pc0 := 8) (pc' := 12) rfl (hb hby at_8) (by decide) (by decide) k) ?_
   refine own_s (g' := (mkF m 14 #[.val (.long q0_0), .second, .val (.long q0_1), .second, .val (.long q0_2), .second, .val (.long q0_3), .second, .val (.int p0_4), .val (.int 1), .unset, .unset, .unset, .unset, .unset, .unset, .unset, .unset, .unset, .unset, .unset] [])) (fun _ k => XS.istore X0.here hx rfl (hb hby at_12) rfl (l' := #[.val (.long q0_0), .second, .val (.long q0_1), .second, .val (.long q0_2), .second, .val (.long q0_3), .second, .val (.int p0_4), .val (.int 1), .unset, .unset, .unset, .unset, .unset, .unset, .unset, .unset, .unset, .unset, .unset]) rfl k) ?_
   refine own_s (g' := (mkF m 16 #[.val (.long q0_0), .second, .val (.long q0_1), .second, .val (.long q0_2), .second, .val (.long q0_3), .second, .val (.int p0_4), .val (.int 1), .unset, .unset, .unset, .unset, .unset, .unset, .unset, .unset, .unset, .unset, .unset] [(.long q0_2)])) (fun _ k => XS.lload X0.here hx rfl (hb hby at_14) rfl k) ?_
   refine own_s (g' := (mkF m 17 #[.val (.long q0_0), .second, .val (.long q0_1), .second, .val (.long q0_2), .second, .val (.long q0_3), .second, .val (.int p0_4), .val (.int 1), .unset, .unset, .unset, .unset, .unset, .unset, .unset, .unset, .unset, .unset, .unset] [(.long 1), (.long q0_2)])) (fun _ k => XS.lconst X0.here hx rfl (hb hby at_16) k) ?_
   refine own_s (g' := (mkF m 18 #[.val (.long q0_0), .second, .val (.long q0_1), .second, .val (.long q0_2), .second, .val (.long q0_3), .second, .val (.int p0_4), .val (.int 1), .unset, .unset, .unset, .unset, .unset, .unset, .unset, .unset, .unset, .unset, .unset] [(.long (q0_2 ||| (1 : Int64)))])) (fun _ k => XS.lor X0.here hx rfl (hb hby at_17) rfl k) ?_
   refine own_s (g' := (mkF m 20 #[.val (.long q0_0), .second, .val (.long q0_1), .second, .val (.long q0_2), .second, .val (.long q0_3), .second, .val (.int p0_4), .val (.int 1), .val (.long (q0_2 ||| (1 : Int64))), .second, .unset, .unset, .unset, .unset, .unset, .unset, .unset, .unset, .unset] [])) (fun _ k => XS.lstore X0.here hx rfl (hb hby at_18) rfl (l' := #[.val (.long q0_0), .second, .val (.long q0_1), .second, .val (.long q0_2), .second, .val (.long q0_3), .second, .val (.int p0_4), .val (.int 1), .val (.long (q0_2 ||| (1 : Int64))), .second, .unset, .unset, .unset, .unset, .unset, .unset, .unset, .unset, .unset]) rfl k) ?_
   refine own_s (g' := (mkF m 22 #[.val (.long q0_0), .second, .val (.long q0_1), .second, .val (.long q0_2), .second, .val (.long q0_3), .second, .val (.int p0_4), .val (.int 1), .val (.long (q0_2 ||| (1 : Int64))), .second, .unset, .unset, .unset, .unset, .unset, .unset, .unset, .unset, .unset] [(.long q0_3)])) (fun _ k => XS.lload X0.here hx rfl (hb hby at_20) rfl k) ?_
   refine own_s (g' := (mkF m 23 #[.val (.long q0_0), .second, .val (.long q0_1), .second, .val (.long q0_2), .second, .val (.long q0_3), .second, .val (.int p0_4), .val (.int 1), .val (.long (q0_2 ||| (1 : Int64))), .second, .unset, .unset, .unset, .unset, .unset, .unset, .unset, .unset, .unset] [(.long 1), (.long q0_3)])) (fun _ k => XS.lconst X0.here hx rfl (hb hby at_22) k) ?_
   refine own_s (g' := (mkF m 24 #[.val (.long q0_0), .second, .val (.long q0_1), .second, .val (.long q0_2), .second, .val (.long q0_3), .second, .val (.int p0_4), .val (.int 1), .val (.long (q0_2 ||| (1 : Int64))), .second, .unset, .unset, .unset, .unset, .unset, .unset, .unset, .unset, .unset] [(.long (q0_3 ||| (1 : Int64)))])) (fun _ k => XS.lor X0.here hx rfl (hb hby at_23) rfl k) ?_
   refine own_s (g' := (mkF m 26 #[.val (.long q0_0), .second, .val (.long q0_1), .second, .val (.long q0_2), .second, .val (.long q0_3), .second, .val (.int p0_4), .val (.int 1), .val (.long (q0_2 ||| (1 : Int64))), .second, .val (.long (q0_3 ||| (1 : Int64))), .second, .unset, .unset, .unset, .unset, .unset, .unset, .unset] [])) (fun _ k => XS.lstore X0.here hx rfl (hb hby at_24) rfl (l' := #[.val (.long q0_0), .second, .val (.long q0_1), .second, .val (.long q0_2), .second, .val (.long q0_3), .second, .val (.int p0_4), .val (.int 1), .val (.long (q0_2 ||| (1 : Int64))), .second, .val (.long (q0_3 ||| (1 : Int64))), .second, .unset, .unset, .unset, .unset, .unset, .unset, .unset]) rfl k) ?_
   obtain ⟨T112, h112, X112, e112, E112, A112, D112, -, st112⟩ := newO X0 hx hZ hown ww0 ww1 ww2 e0 (g := (mkF m 26 #[.val (.long q0_0), .second, .val (.long q0_1), .second, .val (.long q0_2), .second, .val (.long q0_3), .second, .val (.int p0_4), .val (.int 1), .val (.long (q0_2 ||| (1 : Int64))), .second, .val (.long (q0_3 ||| (1 : Int64))), .second, .unset, .unset, .unset, .unset, .unset, .unset, .unset] [])) rfl (hb hby at_26) (by decide) (by decide)
   obtain ⟨b112, ga112⟩ : ∃ z, z = h0.size := ⟨_, rfl⟩
   rw [← ga112] at A112 D112 st112
   have g_b112 := Nat.le_trans Z0 (Nat.le_of_eq ga112.symm)
   have sz_b112 := Nat.le_trans K0.1 (Nat.le_of_eq ga112.symm)
   have f112_s1 : Fld Z h112 b112 "com/example/forkstream/forkstream/TwinLinear" "s1" "J" (.long 0) := D112 (Or.inl ww20) (ty := .long) (by decide +kernel)
   have f112_s2 : Fld Z h112 b112 "com/example/forkstream/forkstream/TwinLinear" "s2" "J" (.long 0) := D112 (Or.inl ww22) (ty := .long) (by decide +kernel)
   have f112_g1 : Fld Z h112 b112 "com/example/forkstream/forkstream/TwinLinear" "g1" "J" (.long 0) := D112 (Or.inr ww24) (ty := .long) (by decide +kernel)
   have f112_g2 : Fld Z h112 b112 "com/example/forkstream/forkstream/TwinLinear" "g2" "J" (.long 0) := D112 (Or.inr ww26) (ty := .long) (by decide +kernel)
   have K112 := K0.ext E112
   refine own_s (g' := (mkF m 29 #[.val (.long q0_0), .second, .val (.long q0_1), .second, .val (.long q0_2), .second, .val (.long q0_3), .second, .val (.int p0_4), .val (.int 1), .val (.long (q0_2 ||| (1 : Int64))), .second, .val (.long (q0_3 ||| (1 : Int64))), .second, .unset, .unset, .unset, .unset, .unset, .unset, .unset] [(.ref b112)])) st112 ?_
   refine own_s (g' := (mkF m 30 #[.val (.long q0_0), .second, .val (.long q0_1), .second, .val (.long q0_2), .second, .val (.long q0_3), .second, .val (.int p0_4), .val (.int 1), .val (.long (q0_2 ||| (1 : Int64))), .second, .val (.long (q0_3 ||| (1 : Int64))), .second, .unset, .unset, .unset, .unset, .unset, .unset, .unset] [(.ref b112), (.ref b112)])) (fun _ k => XS.dup X112.here hx rfl (hb hby at_29) rfl rfl k) ?_
   refine own_s (g' := (mkF m 31 #[.val (.long q0_0), .second, .val (.long q0_1), .second, .val (.long q0_2), .second, .val (.long q0_3), .second, .val (.int p0_4), .val (.int 1), .val (.long (q0_2 ||| (1 : Int64))), .second, .val (.long (q0_3 ||| (1 : Int64))), .second, .unset, .unset, .unset, .unset, .unset, .unset, .unset] [(.long q0_0), (.ref b112), (.ref b112)])) (fun _ k => XS.lloadN X112.here hx rfl (hb hby at_30) rfl k) ?_
   refine own_s (g' := (mkF m 32 #[.val (.long q0_0), .second, .val (.long q0_1), .second, .val (.long q0_2), .second, .val (.long q0_3), .second, .val (.int p0_4), .val (.int 1), .val (.long (q0_2 ||| (1 : Int64))), .second, .val (.long (q0_3 ||| (1 : Int64))), .second, .unset, .unset, .unset, .unset, .unset, .unset, .unset] [(.long q0_1), (.long q0_0), (.ref b112), (.ref b112)])) (fun _ k => XS.lloadN X112.here hx rfl (hb hby at_31) rfl k) ?_
   refine own_s (g' := (mkF m 34 #[.val (.long q0_0), .second, .val (.long q0_1), .second, .val (.long q0_2), .second, .val (.long q0_3), .second, .val (.int p0_4), .val (.int 1), .val (.long (q0_2 ||| (1 : Int64))), .second, .val (.long (q0_3 ||| (1 : Int64))), .second, .unset, .unset, .unset, .unset, .unset, .unset, .unset] [(.long q0_2), (.long q0_1), (.long q0_0), (.ref b112), (.ref b112)])) (fun _ k => XS.lload X112.here hx rfl (hb hby at_32) rfl k) ?_
   refine own_s (g' := (mkF m 36 #[.val (.long q0_0), .second, .val (.long q0_1), .second, .val (.long q0_2), .second, .val (.long q0_3), .second, .val (.int p0_4), .val (.int 1), .val (.long (q0_2 ||| (1 : Int64))), .second, .val (.long (q0_3 ||| (1 : Int64))), .second, .unset, .unset, .unset, .unset, .unset, .unset, .unset] [(.long q0_3), (.long q0_2), (.long q0_1), (.long q0_0), (.ref b112), (.ref b112)])) (fun _ k => XS.lload X112.here hx rfl (hb hby at_34) rfl k) ?_
   obtain ⟨_, _, ⟨T113, L113, k113, n113⟩, -, X113, ⟨Lc113, hQ113, l113, y113, z113⟩, st113⟩ := X112.specialBack hx (y := (⟨"com/example/forkstream/forkstream/TwinLinear", "<init>", "(JJJJ)V"⟩ : MethodName)) rfl hown (mvT hZ ww3) (mvT hZ ww4) (mvT hZ ww5) (by decide) (backOf (W := 1) (rm1 l Z a0 hw [] b112 q0_0 q0_1 q0_2 q0_3 (0 : Int64) (0 : Int64) (0 : Int64) (0 : Int64) h112 n0 (Nat.le_trans Z0 K112.1) f112_s1 f112_s2 f112_g1 f112_g2 A112 g_b112) hZ ww5 ww2 (by decide) (by decide)) (g := (mkF m 36 #[.val (.long q0_0), .second, .val (.long q0_1), .second, .val (.long q0_2), .second, .val (.long q0_3), .second, .val (.int p0_4), .val (.int 1), .val (.long (q0_2 ||| (1 : Int64))), .second, .val (.long (q0_3 ||| (1 : Int64))), .second, .unset, .unset, .unset, .unset, .unset, .unset, .unset] [(.long q0_3), (.long q0_2), (.long q0_1), (.long q0_0), (.ref b112), (.ref b112)])) rfl (by rw [hml]; rfl) (Steps.refl _) (a := b112) (argsL := [(.long q0_0), (.long q0_1), (.long q0_2), (.long q0_3)]) (rest := [(.ref b112)]) (lenOf pd__JJJJ_V rfl) rfl (by show 2 * 0 + _ ≤ _; exact Nat.le_of_eq rfl) (hb hby at_36) (fun _ _ => ⟨rfl, e112, (by decide : 1 + 0 ≤ _), (by decide : 4 + 0 ≤ _)⟩)
   dsimp only [Pt.U, Pt.locs, Pt.cells, Pt.slots] at X113 l113 y113 z113 st113 hQ113
   subst l113 y113 z113
   obtain ⟨rfl, N113q, K113q, f114, f115, f116, f117, f118⟩ := hQ113
   have K113 := K112.trans K113q (allS (Or.inr sz_b112) all0)
   have N113 := Fr.app N0 N113q
   refine own_trans (g' := (mkF m 39 #[.val (.long q0_0), .second, .val (.long q0_1), .second, .val (.long q0_2), .second, .val (.long q0_3), .second, .val (.int p0_4), .val (.int 1), .val (.long (q0_2 ||| (1 : Int64))), .second, .val (.long (q0_3 ||| (1 : Int64))), .second, .unset, .unset, .unset, .unset, .unset, .unset, .unset] [(.ref b112)])) st113 ?_
   refine own_s (g' := (mkF m 41 #[.val (.long q0_0), .second, .val (.long q0_1), .second, .val (.long q0_2), .second, .val (.long q0_3), .second, .val (.int p0_4), .val (.int 1), .val (.long (q0_2 ||| (1 : Int64))), .second, .val (.long (q0_3 ||| (1 : Int64))), .second, .val (.ref b112), .unset, .unset, .unset, .unset, .unset, .unset] [])) (fun _ k => XS.astore X113.here hx rfl (hb hby at_39) rfl rfl (l' := #[.val (.long q0_0), .second, .val (.long q0_1), .second, .val (.long q0_2), .second, .val (.long q0_3), .second, .val (.int p0_4), .val (.int 1), .val (.long (q0_2 ||| (1 : Int64))), .second, .val (.long (q0_3 ||| (1 : Int64))), .second, .val (.ref b112), .unset, .unset, .unset, .unset, .unset, .unset]) rfl k) ?_
   refine own_s (g' := (mkF m 43 #[.val (.long q0_0), .second, .val (.long q0_1), .second, .val (.long q0_2), .second, .val (.long q0_3), .second, .val (.int p0_4), .val (.int 1), .val (.long (q0_2 ||| (1 : Int64))), .second, .val (.long (q0_3 ||| (1 : Int64))), .second, .val (.ref b112), .unset, .unset, .unset, .unset, .unset, .unset] [(.ref b112)])) (fun _ k => XS.aload X113.here hx rfl (hb hby at_41) rfl rfl k) ?_
   obtain ⟨cq119, kq119, q119a, q119b, q119c⟩ := isOf hZ rfl f114
   obtain ⟨_, _, ⟨T119, L119, k119, n119⟩, -, X119, ⟨Lc119, hQ119, l119, y119, z119⟩, st119⟩ := X113.virtualBack hx (y := (⟨"com/example/forkstream/forkstream/TwinLinear", "stateWords", "()[J"⟩ : MethodName)) (z := (⟨"com/example/forkstream/forkstream/TwinLinear", "stateWords", "()[J"⟩ : MethodName)) hown (mvT hZ ww27) (mvT hZ ww28) (notFace_of_selects (args := #[]) (mvT hZ ww30)) (mvT hZ ww30) (mvT hZ ww29) (by decide) (backOf (W := 0) (rm5 l Z a0 hw [] b112 q0_0 q0_1 (q0_2 ||| (1 : Int64)) (q0_3 ||| (1 : Int64)) T113.heap n0 (Nat.le_trans Z0 K113.1) f115 f116 f117 f118) hZ ww31 ww2 (by decide) (by decide)) q119a q119c (g := (mkF m 43 #[.val (.long q0_0), .second, .val (.long q0_1), .second, .val (.long q0_2), .second, .val (.long q0_3), .second, .val (.int p0_4), .val (.int 1), .val (.long (q0_2 ||| (1 : Int64))), .second, .val (.long (q0_3 ||| (1 : Int64))), .second, .val (.ref b112), .unset, .unset, .unset, .unset, .unset, .unset] [(.ref b112)])) rfl (by rw [hml]; rfl) (Steps.refl _) (argsL := []) (rest := []) (lenOf pd____J rfl) rfl (by show 2 * 0 + _ ≤ _; exact Nat.le_of_eq rfl) (hb hby at_43) (fun _ _ => ⟨rfl, rfl, (by decide : 1 + 1 ≤ _), (by decide : 4 + 4 ≤ _)⟩)
   dsimp only [Pt.U, Pt.locs, Pt.cells, Pt.slots] at X119 l119 y119 z119 st119 hQ119
   subst l119 y119 z119
   obtain ⟨bf0_119, kf0_119, hs_bf0_119, rfl, N119q, K119q, f120⟩ := hQ119
   have g_bf0_119 := Nat.le_trans (Nat.le_trans Z0 K113.1) hs_bf0_119
   have sz_bf0_119 := Nat.le_trans K113.1 hs_bf0_119
   have K119 := K113.trans K119q all0
   have N119 := Fr.app N113 N119q
   refine own_trans (g' := (mkF m 46 #[.val (.long q0_0), .second, .val (.long q0_1), .second, .val (.long q0_2), .second, .val (.long q0_3), .second, .val (.int p0_4), .val (.int 1), .val (.long (q0_2 ||| (1 : Int64))), .second, .val (.long (q0_3 ||| (1 : Int64))), .second, .val (.ref b112), .unset, .unset, .unset, .unset, .unset, .unset] [(.ref bf0_119)])) st119 ?_
   refine own_s (g' := (mkF m 48 #[.val (.long q0_0), .second, .val (.long q0_1), .second, .val (.long q0_2), .second, .val (.long q0_3), .second, .val (.int p0_4), .val (.int 1), .val (.long (q0_2 ||| (1 : Int64))), .second, .val (.long (q0_3 ||| (1 : Int64))), .second, .val (.ref b112), .val (.ref bf0_119), .unset, .unset, .unset, .unset, .unset] [])) (fun _ k => XS.astore X119.here hx rfl (hb hby at_46) rfl rfl (l' := #[.val (.long q0_0), .second, .val (.long q0_1), .second, .val (.long q0_2), .second, .val (.long q0_3), .second, .val (.int p0_4), .val (.int 1), .val (.long (q0_2 ||| (1 : Int64))), .second, .val (.long (q0_3 ||| (1 : Int64))), .second, .val (.ref b112), .val (.ref bf0_119), .unset, .unset, .unset, .unset, .unset]) rfl k) ?_
   refine own_s (g' := (mkF m 50 #[.val (.long q0_0), .second, .val (.long q0_1), .second, .val (.long q0_2), .second, .val (.long q0_3), .second, .val (.int p0_4), .val (.int 1), .val (.long (q0_2 ||| (1 : Int64))), .second, .val (.long (q0_3 ||| (1 : Int64))), .second, .val (.ref b112), .val (.ref bf0_119), .unset, .unset, .unset, .unset, .unset] [(.ref bf0_119)])) (fun _ k => XS.aload X119.here hx rfl (hb hby at_48) rfl rfl k) ?_
   refine own_s (g' := (mkF m 51 #[.val (.long q0_0), .second, .val (.long q0_1), .second, .val (.long q0_2), .second, .val (.long q0_3), .second, .val (.int p0_4), .val (.int 1), .val (.long (q0_2 ||| (1 : Int64))), .second, .val (.long (q0_3 ||| (1 : Int64))), .second, .val (.ref b112), .val (.ref bf0_119), .unset, .unset, .unset, .unset, .unset] [(.long q0_0), (.ref bf0_119)])) (fun _ k => XS.lloadN X119.here hx rfl (hb hby at_50) rfl k) ?_
   refine own_s (g' := (mkF m 52 #[.val (.long q0_0), .second, .val (.long q0_1), .second, .val (.long q0_2), .second, .val (.long q0_3), .second, .val (.int p0_4), .val (.int 1), .val (.long (q0_2 ||| (1 : Int64))), .second, .val (.long (q0_3 ||| (1 : Int64))), .second, .val (.ref b112), .val (.ref bf0_119), .unset, .unset, .unset, .unset, .unset] [(.long q0_1), (.long q0_0), (.ref bf0_119)])) (fun _ k => XS.lloadN X119.here hx rfl (hb hby at_51) rfl k) ?_
   refine own_s (g' := (mkF m 54 #[.val (.long q0_0), .second, .val (.long q0_1), .second, .val (.long q0_2), .second, .val (.long q0_3), .second, .val (.int p0_4), .val (.int 1), .val (.long (q0_2 ||| (1 : Int64))), .second, .val (.long (q0_3 ||| (1 : Int64))), .second, .val (.ref b112), .val (.ref bf0_119), .unset, .unset, .unset, .unset, .unset] [(.long (q0_2 ||| (1 : Int64))), (.long q0_1), (.long q0_0), (.ref bf0_119)])) (fun _ k => XS.lload X119.here hx rfl (hb hby at_52) rfl k) ?_
   refine own_s (g' := (mkF m 56 #[.val (.long q0_0), .second, .val (.long q0_1), .second, .val (.long q0_2), .second, .val (.long q0_3), .second, .val (.int p0_4), .val (.int 1), .val (.long (q0_2 ||| (1 : Int64))), .second, .val (.long (q0_3 ||| (1 : Int64))), .second, .val (.ref b112), .val (.ref bf0_119), .unset, .unset, .unset, .unset, .unset] [(.long (q0_3 ||| (1 : Int64))), (.long (q0_2 ||| (1 : Int64))), (.long q0_1), (.long q0_0), (.ref bf0_119)])) (fun _ k => XS.lload X119.here hx rfl (hb hby at_54) rfl k) ?_
   obtain ⟨_, _, ⟨T121, L121, k121, n121⟩, -, X121, ⟨Lc121, hQ121, l121, y121, z121⟩, st121⟩ := Jvm.LawKit.callS X119 hx (y := (⟨"com/example/forkstream/forkstream/TwinLinearStateWordsPinLaw", "words", "([JJJJJ)Z"⟩ : MethodName)) hown (mvT hZ ww33) (mvT hZ ww34) (mvT hZ ww35) (mvT hZ ww36) (by decide) (backOf (W := 0) (rm6 l Z a0 hw [] bf0_119 q0_0 q0_1 (q0_2 ||| (1 : Int64)) (q0_3 ||| (1 : Int64)) kf0_119 q0_0 q0_1 (q0_2 ||| (1 : Int64)) (q0_3 ||| (1 : Int64)) T119.heap n0 (Nat.le_trans Z0 K119.1) f120) hZ ww36 ww35 (by decide) (by decide)) (g := (mkF m 56 #[.val (.long q0_0), .second, .val (.long q0_1), .second, .val (.long q0_2), .second, .val (.long q0_3), .second, .val (.int p0_4), .val (.int 1), .val (.long (q0_2 ||| (1 : Int64))), .second, .val (.long (q0_3 ||| (1 : Int64))), .second, .val (.ref b112), .val (.ref bf0_119), .unset, .unset, .unset, .unset, .unset] [(.long (q0_3 ||| (1 : Int64))), (.long (q0_2 ||| (1 : Int64))), (.long q0_1), (.long q0_0), (.ref bf0_119)])) rfl (by rw [hml]; rfl) (argsL := [(.ref bf0_119), (.long q0_0), (.long q0_1), (.long (q0_2 ||| (1 : Int64))), (.long (q0_3 ||| (1 : Int64)))]) (rest := []) (lenOf pd___JJJJJ_Z rfl) rfl (by show 2 * 0 + _ ≤ _; exact Nat.le_of_eq rfl) (hb hby at_56) (fun _ _ => ⟨rfl, rfl, (by decide : 2 + 0 ≤ _), (by decide : 8 + 0 ≤ _)⟩)
   dsimp only [Pt.U, Pt.locs, Pt.cells, Pt.slots] at X121 l121 y121 z121 st121 hQ121
   subst l121 y121 z121
   obtain ⟨rfl, N121q, eh121⟩ := hQ121
   have N121 := Fr.app N119 N121q
   refine own_s (g' := (mkF m 59 #[.val (.long q0_0), .second, .val (.long q0_1), .second, .val (.long q0_2), .second, .val (.long q0_3), .second, .val (.int p0_4), .val (.int 1), .val (.long (q0_2 ||| (1 : Int64))), .second, .val (.long (q0_3 ||| (1 : Int64))), .second, .val (.ref b112), .val (.ref bf0_119), .unset, .unset, .unset, .unset, .unset] [(.int (r6 q0_0 q0_1 (q0_2 ||| (1 : Int64)) (q0_3 ||| (1 : Int64)) q0_0 q0_1 (q0_2 ||| (1 : Int64)) (q0_3 ||| (1 : Int64))))])) st121 ?_
   rw [show (r6 q0_0 q0_1 (q0_2 ||| (1 : Int64)) (q0_3 ||| (1 : Int64)) q0_0 q0_1 (q0_2 ||| (1 : Int64)) (q0_3 ||| (1 : Int64))) = (1 : Int32) from ((if_pos rfl).trans ((if_pos rfl).trans ((if_pos rfl).trans (if_pos rfl))))]
   refine own_s (g' := (mkF m 64 #[.val (.long q0_0), .second, .val (.long q0_1), .second, .val (.long q0_2), .second, .val (.long q0_3), .second, .val (.int p0_4), .val (.int 1), .val (.long (q0_2 ||| (1 : Int64))), .second, .val (.long (q0_3 ||| (1 : Int64))), .second, .val (.ref b112), .val (.ref bf0_119), .unset, .unset, .unset, .unset, .unset] [])) (fun _ k => XS.ifYes X121.here hx rfl (pc0 := 59) (pc' := 64) rfl (hb hby at_59) rfl ((if0 _ _).trans (feq ((by decide) : ¬ (1 : Int32) = (0 : Int32))).2) (by decide) (by decide) k) ?_
   refine own_s (g' := (mkF m 66 #[.val (.long q0_0), .second, .val (.long q0_1), .second, .val (.long q0_2), .second, .val (.long q0_3), .second, .val (.int p0_4), .val (.int 1), .val (.long (q0_2 ||| (1 : Int64))), .second, .val (.long (q0_3 ||| (1 : Int64))), .second, .val (.ref b112), .val (.ref bf0_119), .unset, .unset, .unset, .unset, .unset] [(.ref bf0_119)])) (fun _ k => XS.aload X121.here hx rfl (hb hby at_64) rfl rfl k) ?_
   refine own_s (g' := (mkF m 67 #[.val (.long q0_0), .second, .val (.long q0_1), .second, .val (.long q0_2), .second, .val (.long q0_3), .second, .val (.int p0_4), .val (.int 1), .val (.long (q0_2 ||| (1 : Int64))), .second, .val (.long (q0_3 ||| (1 : Int64))), .second, .val (.ref b112), .val (.ref bf0_119), .unset, .unset, .unset, .unset, .unset] [(.int 0), (.ref bf0_119)])) (fun _ k => XS.iconst X121.here hx rfl (hb hby at_66) k) ?_
   refine own_s (g' := (mkF m 69 #[.val (.long q0_0), .second, .val (.long q0_1), .second, .val (.long q0_2), .second, .val (.long q0_3), .second, .val (.int p0_4), .val (.int 1), .val (.long (q0_2 ||| (1 : Int64))), .second, .val (.long (q0_3 ||| (1 : Int64))), .second, .val (.ref b112), .val (.ref bf0_119), .unset, .unset, .unset, .unset, .unset] [(.ref bf0_119), (.int 0), (.ref bf0_119)])) (fun _ k => XS.aload X121.here hx rfl (hb hby at_67) rfl rfl k) ?_
   refine own_s (g' := (mkF m 70 #[.val (.long q0_0), .second, .val (.long q0_1), .second, .val (.long q0_2), .second, .val (.long q0_3), .second, .val (.int p0_4), .val (.int 1), .val (.long (q0_2 ||| (1 : Int64))), .second, .val (.long (q0_3 ||| (1 : Int64))), .second, .val (.ref b112), .val (.ref bf0_119), .unset, .unset, .unset, .unset, .unset] [(.int 0), (.ref bf0_119), (.int 0), (.ref bf0_119)])) (fun _ k => XS.iconst X121.here hx rfl (hb hby at_69) k) ?_
   obtain ⟨cl122, Ar122, -, S122, -, H122, -⟩ := id f120
   have in122 := inb_of S122 (j := (0 : Int32)) ⟨by decide, by decide⟩
   refine own_s (g' := (mkF m 71 #[.val (.long q0_0), .second, .val (.long q0_1), .second, .val (.long q0_2), .second, .val (.long q0_3), .second, .val (.int p0_4), .val (.int 1), .val (.long (q0_2 ||| (1 : Int64))), .second, .val (.long (q0_3 ||| (1 : Int64))), .second, .val (.ref b112), .val (.ref bf0_119), .unset, .unset, .unset, .unset, .unset] [(.long q0_0), (.int 0), (.ref bf0_119)])) (X121.laload hx (j := (0 : Int32)) (v := (.long q0_0)) (by rw [eh121]; exact Ar122.1) (State.isArrayOf_alike hZ.alike Ar122.2.1) Ar122.2.2 in122 (Has.at H122 in122 rfl) (g := (mkF m 70 #[.val (.long q0_0), .second, .val (.long q0_1), .second, .val (.long q0_2), .second, .val (.long q0_3), .second, .val (.int p0_4), .val (.int 1), .val (.long (q0_2 ||| (1 : Int64))), .second, .val (.long (q0_3 ||| (1 : Int64))), .second, .val (.ref b112), .val (.ref bf0_119), .unset, .unset, .unset, .unset, .unset] [(.int 0), (.ref bf0_119), (.int 0), (.ref bf0_119)])) rfl rfl (hb hby at_70)) ?_
   refine own_s (g' := (mkF m 74 #[.val (.long q0_0), .second, .val (.long q0_1), .second, .val (.long q0_2), .second, .val (.long q0_3), .second, .val (.int p0_4), .val (.int 1), .val (.long (q0_2 ||| (1 : Int64))), .second, .val (.long (q0_3 ||| (1 : Int64))), .second, .val (.ref b112), .val (.ref bf0_119), .unset, .unset, .unset, .unset, .unset] [(.long (-1)), (.long q0_0), (.int 0), (.ref bf0_119)])) (X121.ldc2Long hx hown (mvT hZ ww37) (g := (mkF m 71 #[.val (.long q0_0), .second, .val (.long q0_1), .second, .val (.long q0_2), .second, .val (.long q0_3), .second, .val (.int p0_4), .val (.int 1), .val (.long (q0_2 ||| (1 : Int64))), .second, .val (.long (q0_3 ||| (1 : Int64))), .second, .val (.ref b112), .val (.ref bf0_119), .unset, .unset, .unset, .unset, .unset] [(.long q0_0), (.int 0), (.ref bf0_119)])) rfl (hb hby at_71)) ?_
   refine own_s (g' := (mkF m 75 #[.val (.long q0_0), .second, .val (.long q0_1), .second, .val (.long q0_2), .second, .val (.long q0_3), .second, .val (.int p0_4), .val (.int 1), .val (.long (q0_2 ||| (1 : Int64))), .second, .val (.long (q0_3 ||| (1 : Int64))), .second, .val (.ref b112), .val (.ref bf0_119), .unset, .unset, .unset, .unset, .unset] [(.long (q0_0 ^^^ (-1 : Int64))), (.int 0), (.ref bf0_119)])) (fun _ k => XS.lxor X121.here hx rfl (hb hby at_74) rfl k) ?_
   obtain ⟨cl123, Ar123, q123, S123, M123, H123, G123⟩ := id f120
   obtain ⟨T123, h123, X123, e123, W123, st123⟩ := stJ X121 hx hZ eh121 Ar123 (j := (0 : Int32)) (inb_of S123 ⟨by decide, by decide⟩) (g := (mkF m 75 #[.val (.long q0_0), .second, .val (.long q0_1), .second, .val (.long q0_2), .second, .val (.long q0_3), .second, .val (.int p0_4), .val (.int 1), .val (.long (q0_2 ||| (1 : Int64))), .second, .val (.long (q0_3 ||| (1 : Int64))), .second, .val (.ref b112), .val (.ref bf0_119), .unset, .unset, .unset, .unset, .unset] [(.long (q0_0 ^^^ (-1 : Int64))), (.int 0), (.ref bf0_119)])) rfl rfl (hb hby at_75)
   have f124 : Arv Z h123 bf0_119 kf0_119 .long (4 : Int32) [(.long (q0_0 ^^^ (-1 : Int64))), (.long q0_1), (.long (q0_2 ||| (1 : Int64))), (.long (q0_3 ||| (1 : Int64)))] (.long 0) := Arv.set Ar123 q123 S123 M123 H123 G123 rfl W123 0 rfl (Nat.le_of_ble_eq_true rfl)
   have K123 := K119.wr W123 (Or.inr sz_bf0_119)
   have N123 := Fr.snoc X123 N121 g_bf0_119
   refine own_s (g' := (mkF m 76 #[.val (.long q0_0), .second, .val (.long q0_1), .second, .val (.long q0_2), .second, .val (.long q0_3), .second, .val (.int p0_4), .val (.int 1), .val (.long (q0_2 ||| (1 : Int64))), .second, .val (.long (q0_3 ||| (1 : Int64))), .second, .val (.ref b112), .val (.ref bf0_119), .unset, .unset, .unset, .unset, .unset] [])) st123 ?_
   refine own_s (g' := (mkF m 78 #[.val (.long q0_0), .second, .val (.long q0_1), .second, .val (.long q0_2), .second, .val (.long q0_3), .second, .val (.int p0_4), .val (.int 1), .val (.long (q0_2 ||| (1 : Int64))), .second, .val (.long (q0_3 ||| (1 : Int64))), .second, .val (.ref b112), .val (.ref bf0_119), .unset, .unset, .unset, .unset, .unset] [(.ref bf0_119)])) (fun _ k => XS.aload X123.here hx rfl (hb hby at_76) rfl rfl k) ?_
   refine own_s (g' := (mkF m 79 #[.val (.long q0_0), .second, .val (.long q0_1), .second, .val (.long q0_2), .second, .val (.long q0_3), .second, .val (.int p0_4), .val (.int 1), .val (.long (q0_2 ||| (1 : Int64))), .second, .val (.long (q0_3 ||| (1 : Int64))), .second, .val (.ref b112), .val (.ref bf0_119), .unset, .unset, .unset, .unset, .unset] [(.int 1), (.ref bf0_119)])) (fun _ k => XS.iconst X123.here hx rfl (hb hby at_78) k) ?_
   refine own_s (g' := (mkF m 81 #[.val (.long q0_0), .second, .val (.long q0_1), .second, .val (.long q0_2), .second, .val (.long q0_3), .second, .val (.int p0_4), .val (.int 1), .val (.long (q0_2 ||| (1 : Int64))), .second, .val (.long (q0_3 ||| (1 : Int64))), .second, .val (.ref b112), .val (.ref bf0_119), .unset, .unset, .unset, .unset, .unset] [(.ref bf0_119), (.int 1), (.ref bf0_119)])) (fun _ k => XS.aload X123.here hx rfl (hb hby at_79) rfl rfl k) ?_
   refine own_s (g' := (mkF m 82 #[.val (.long q0_0), .second, .val (.long q0_1), .second, .val (.long q0_2), .second, .val (.long q0_3), .second, .val (.int p0_4), .val (.int 1), .val (.long (q0_2 ||| (1 : Int64))), .second, .val (.long (q0_3 ||| (1 : Int64))), .second, .val (.ref b112), .val (.ref bf0_119), .unset, .unset, .unset, .unset, .unset] [(.int 1), (.ref bf0_119), (.int 1), (.ref bf0_119)])) (fun _ k => XS.iconst X123.here hx rfl (hb hby at_81) k) ?_
   obtain ⟨cl125, Ar125, -, S125, -, H125, -⟩ := id f124
   have in125 := inb_of S125 (j := (1 : Int32)) ⟨by decide, by decide⟩
   refine own_s (g' := (mkF m 83 #[.val (.long q0_0), .second, .val (.long q0_1), .second, .val (.long q0_2), .second, .val (.long q0_3), .second, .val (.int p0_4), .val (.int 1), .val (.long (q0_2 ||| (1 : Int64))), .second, .val (.long (q0_3 ||| (1 : Int64))), .second, .val (.ref b112), .val (.ref bf0_119), .unset, .unset, .unset, .unset, .unset] [(.long q0_1), (.int 1), (.ref bf0_119)])) (X123.laload hx (j := (1 : Int32)) (v := (.long q0_1)) (by rw [e123]; exact Ar125.1) (State.isArrayOf_alike hZ.alike Ar125.2.1) Ar125.2.2 in125 (Has.at H125 in125 rfl) (g := (mkF m 82 #[.val (.long q0_0), .second, .val (.long q0_1), .second, .val (.long q0_2), .second, .val (.long q0_3), .second, .val (.int p0_4), .val (.int 1), .val (.long (q0_2 ||| (1 : Int64))), .second, .val (.long (q0_3 ||| (1 : Int64))), .second, .val (.ref b112), .val (.ref bf0_119), .unset, .unset, .unset, .unset, .unset] [(.int 1), (.ref bf0_119), (.int 1), (.ref bf0_119)])) rfl rfl (hb hby at_82)) ?_
   refine own_s (g' := (mkF m 86 #[.val (.long q0_0), .second, .val (.long q0_1), .second, .val (.long q0_2), .second, .val (.long q0_3), .second, .val (.int p0_4), .val (.int 1), .val (.long (q0_2 ||| (1 : Int64))), .second, .val (.long (q0_3 ||| (1 : Int64))), .second, .val (.ref b112), .val (.ref bf0_119), .unset, .unset, .unset, .unset, .unset] [(.long (-1)), (.long q0_1), (.int 1), (.ref bf0_119)])) (X123.ldc2Long hx hown (mvT hZ ww37) (g := (mkF m 83 #[.val (.long q0_0), .second, .val (.long q0_1), .second, .val (.long q0_2), .second, .val (.long q0_3), .second, .val (.int p0_4), .val (.int 1), .val (.long (q0_2 ||| (1 : Int64))), .second, .val (.long (q0_3 ||| (1 : Int64))), .second, .val (.ref b112), .val (.ref bf0_119), .unset, .unset, .unset, .unset, .unset] [(.long q0_1), (.int 1), (.ref bf0_119)])) rfl (hb hby at_83)) ?_
   refine own_s (g' := (mkF m 87 #[.val (.long q0_0), .second, .val (.long q0_1), .second, .val (.long q0_2), .second, .val (.long q0_3), .second, .val (.int p0_4), .val (.int 1), .val (.long (q0_2 ||| (1 : Int64))), .second, .val (.long (q0_3 ||| (1 : Int64))), .second, .val (.ref b112), .val (.ref bf0_119), .unset, .unset, .unset, .unset, .unset] [(.long (q0_1 ^^^ (-1 : Int64))), (.int 1), (.ref bf0_119)])) (fun _ k => XS.lxor X123.here hx rfl (hb hby at_86) rfl k) ?_
   obtain ⟨cl126, Ar126, q126, S126, M126, H126, G126⟩ := id f124
   obtain ⟨T126, h126, X126, e126, W126, st126⟩ := stJ X123 hx hZ e123 Ar126 (j := (1 : Int32)) (inb_of S126 ⟨by decide, by decide⟩) (g := (mkF m 87 #[.val (.long q0_0), .second, .val (.long q0_1), .second, .val (.long q0_2), .second, .val (.long q0_3), .second, .val (.int p0_4), .val (.int 1), .val (.long (q0_2 ||| (1 : Int64))), .second, .val (.long (q0_3 ||| (1 : Int64))), .second, .val (.ref b112), .val (.ref bf0_119), .unset, .unset, .unset, .unset, .unset] [(.long (q0_1 ^^^ (-1 : Int64))), (.int 1), (.ref bf0_119)])) rfl rfl (hb hby at_87)
   have f127 : Arv Z h126 bf0_119 kf0_119 .long (4 : Int32) [(.long (q0_0 ^^^ (-1 : Int64))), (.long (q0_1 ^^^ (-1 : Int64))), (.long (q0_2 ||| (1 : Int64))), (.long (q0_3 ||| (1 : Int64)))] (.long 0) := Arv.set Ar126 q126 S126 M126 H126 G126 rfl W126 1 rfl (Nat.le_of_ble_eq_true rfl)
   have K126 := K123.wr W126 (Or.inr sz_bf0_119)
   have N126 := Fr.snoc X126 N123 g_bf0_119
   refine own_s (g' := (mkF m 88 #[.val (.long q0_0), .second, .val (.long q0_1), .second, .val (.long q0_2), .second, .val (.long q0_3), .second, .val (.int p0_4), .val (.int 1), .val (.long (q0_2 ||| (1 : Int64))), .second, .val (.long (q0_3 ||| (1 : Int64))), .second, .val (.ref b112), .val (.ref bf0_119), .unset, .unset, .unset, .unset, .unset] [])) st126 ?_
   refine own_s (g' := (mkF m 90 #[.val (.long q0_0), .second, .val (.long q0_1), .second, .val (.long q0_2), .second, .val (.long q0_3), .second, .val (.int p0_4), .val (.int 1), .val (.long (q0_2 ||| (1 : Int64))), .second, .val (.long (q0_3 ||| (1 : Int64))), .second, .val (.ref b112), .val (.ref bf0_119), .unset, .unset, .unset, .unset, .unset] [(.ref bf0_119)])) (fun _ k => XS.aload X126.here hx rfl (hb hby at_88) rfl rfl k) ?_
   refine own_s (g' := (mkF m 91 #[.val (.long q0_0), .second, .val (.long q0_1), .second, .val (.long q0_2), .second, .val (.long q0_3), .second, .val (.int p0_4), .val (.int 1), .val (.long (q0_2 ||| (1 : Int64))), .second, .val (.long (q0_3 ||| (1 : Int64))), .second, .val (.ref b112), .val (.ref bf0_119), .unset, .unset, .unset, .unset, .unset] [(.int 2), (.ref bf0_119)])) (fun _ k => XS.iconst X126.here hx rfl (hb hby at_90) k) ?_
   refine own_s (g' := (mkF m 93 #[.val (.long q0_0), .second, .val (.long q0_1), .second, .val (.long q0_2), .second, .val (.long q0_3), .second, .val (.int p0_4), .val (.int 1), .val (.long (q0_2 ||| (1 : Int64))), .second, .val (.long (q0_3 ||| (1 : Int64))), .second, .val (.ref b112), .val (.ref bf0_119), .unset, .unset, .unset, .unset, .unset] [(.ref bf0_119), (.int 2), (.ref bf0_119)])) (fun _ k => XS.aload X126.here hx rfl (hb hby at_91) rfl rfl k) ?_
   refine own_s (g' := (mkF m 94 #[.val (.long q0_0), .second, .val (.long q0_1), .second, .val (.long q0_2), .second, .val (.long q0_3), .second, .val (.int p0_4), .val (.int 1), .val (.long (q0_2 ||| (1 : Int64))), .second, .val (.long (q0_3 ||| (1 : Int64))), .second, .val (.ref b112), .val (.ref bf0_119), .unset, .unset, .unset, .unset, .unset] [(.int 2), (.ref bf0_119), (.int 2), (.ref bf0_119)])) (fun _ k => XS.iconst X126.here hx rfl (hb hby at_93) k) ?_
   obtain ⟨cl128, Ar128, -, S128, -, H128, -⟩ := id f127
   have in128 := inb_of S128 (j := (2 : Int32)) ⟨by decide, by decide⟩
   refine own_s (g' := (mkF m 95 #[.val (.long q0_0), .second, .val (.long q0_1), .second, .val (.long q0_2), .second, .val (.long q0_3), .second, .val (.int p0_4), .val (.int 1), .val (.long (q0_2 ||| (1 : Int64))), .second, .val (.long (q0_3 ||| (1 : Int64))), .second, .val (.ref b112), .val (.ref bf0_119), .unset, .unset, .unset, .unset, .unset] [(.long (q0_2 ||| (1 : Int64))), (.int 2), (.ref bf0_119)])) (X126.laload hx (j := (2 : Int32)) (v := (.long (q0_2 ||| (1 : Int64)))) (by rw [e126]; exact Ar128.1) (State.isArrayOf_alike hZ.alike Ar128.2.1) Ar128.2.2 in128 (Has.at H128 in128 rfl) (g := (mkF m 94 #[.val (.long q0_0), .second, .val (.long q0_1), .second, .val (.long q0_2), .second, .val (.long q0_3), .second, .val (.int p0_4), .val (.int 1), .val (.long (q0_2 ||| (1 : Int64))), .second, .val (.long (q0_3 ||| (1 : Int64))), .second, .val (.ref b112), .val (.ref bf0_119), .unset, .unset, .unset, .unset, .unset] [(.int 2), (.ref bf0_119), (.int 2), (.ref bf0_119)])) rfl rfl (hb hby at_94)) ?_
   refine own_s (g' := (mkF m 98 #[.val (.long q0_0), .second, .val (.long q0_1), .second, .val (.long q0_2), .second, .val (.long q0_3), .second, .val (.int p0_4), .val (.int 1), .val (.long (q0_2 ||| (1 : Int64))), .second, .val (.long (q0_3 ||| (1 : Int64))), .second, .val (.ref b112), .val (.ref bf0_119), .unset, .unset, .unset, .unset, .unset] [(.long 2), (.long (q0_2 ||| (1 : Int64))), (.int 2), (.ref bf0_119)])) (X126.ldc2Long hx hown (mvT hZ ww38) (g := (mkF m 95 #[.val (.long q0_0), .second, .val (.long q0_1), .second, .val (.long q0_2), .second, .val (.long q0_3), .second, .val (.int p0_4), .val (.int 1), .val (.long (q0_2 ||| (1 : Int64))), .second, .val (.long (q0_3 ||| (1 : Int64))), .second, .val (.ref b112), .val (.ref bf0_119), .unset, .unset, .unset, .unset, .unset] [(.long (q0_2 ||| (1 : Int64))), (.int 2), (.ref bf0_119)])) rfl (hb hby at_95)) ?_
   refine own_s (g' := (mkF m 99 #[.val (.long q0_0), .second, .val (.long q0_1), .second, .val (.long q0_2), .second, .val (.long q0_3), .second, .val (.int p0_4), .val (.int 1), .val (.long (q0_2 ||| (1 : Int64))), .second, .val (.long (q0_3 ||| (1 : Int64))), .second, .val (.ref b112), .val (.ref bf0_119), .unset, .unset, .unset, .unset, .unset] [(.long ((q0_2 ||| (1 : Int64)) + (2 : Int64))), (.int 2), (.ref bf0_119)])) (fun _ k => XS.ladd X126.here hx rfl (hb hby at_98) rfl k) ?_
   obtain ⟨cl129, Ar129, q129, S129, M129, H129, G129⟩ := id f127
   obtain ⟨T129, h129, X129, e129, W129, st129⟩ := stJ X126 hx hZ e126 Ar129 (j := (2 : Int32)) (inb_of S129 ⟨by decide, by decide⟩) (g := (mkF m 99 #[.val (.long q0_0), .second, .val (.long q0_1), .second, .val (.long q0_2), .second, .val (.long q0_3), .second, .val (.int p0_4), .val (.int 1), .val (.long (q0_2 ||| (1 : Int64))), .second, .val (.long (q0_3 ||| (1 : Int64))), .second, .val (.ref b112), .val (.ref bf0_119), .unset, .unset, .unset, .unset, .unset] [(.long ((q0_2 ||| (1 : Int64)) + (2 : Int64))), (.int 2), (.ref bf0_119)])) rfl rfl (hb hby at_99)
   have f130 : Arv Z h129 bf0_119 kf0_119 .long (4 : Int32) [(.long (q0_0 ^^^ (-1 : Int64))), (.long (q0_1 ^^^ (-1 : Int64))), (.long ((q0_2 ||| (1 : Int64)) + (2 : Int64))), (.long (q0_3 ||| (1 : Int64)))] (.long 0) := Arv.set Ar129 q129 S129 M129 H129 G129 rfl W129 2 rfl (Nat.le_of_ble_eq_true rfl)
   have K129 := K126.wr W129 (Or.inr sz_bf0_119)
   have N129 := Fr.snoc X129 N126 g_bf0_119
   refine own_s (g' := (mkF m 100 #[.val (.long q0_0), .second, .val (.long q0_1), .second, .val (.long q0_2), .second, .val (.long q0_3), .second, .val (.int p0_4), .val (.int 1), .val (.long (q0_2 ||| (1 : Int64))), .second, .val (.long (q0_3 ||| (1 : Int64))), .second, .val (.ref b112), .val (.ref bf0_119), .unset, .unset, .unset, .unset, .unset] [])) st129 ?_
   refine own_s (g' := (mkF m 102 #[.val (.long q0_0), .second, .val (.long q0_1), .second, .val (.long q0_2), .second, .val (.long q0_3), .second, .val (.int p0_4), .val (.int 1), .val (.long (q0_2 ||| (1 : Int64))), .second, .val (.long (q0_3 ||| (1 : Int64))), .second, .val (.ref b112), .val (.ref bf0_119), .unset, .unset, .unset, .unset, .unset] [(.ref bf0_119)])) (fun _ k => XS.aload X129.here hx rfl (hb hby at_100) rfl rfl k) ?_
   refine own_s (g' := (mkF m 103 #[.val (.long q0_0), .second, .val (.long q0_1), .second, .val (.long q0_2), .second, .val (.long q0_3), .second, .val (.int p0_4), .val (.int 1), .val (.long (q0_2 ||| (1 : Int64))), .second, .val (.long (q0_3 ||| (1 : Int64))), .second, .val (.ref b112), .val (.ref bf0_119), .unset, .unset, .unset, .unset, .unset] [(.int 3), (.ref bf0_119)])) (fun _ k => XS.iconst X129.here hx rfl (hb hby at_102) k) ?_
   refine own_s (g' := (mkF m 105 #[.val (.long q0_0), .second, .val (.long q0_1), .second, .val (.long q0_2), .second, .val (.long q0_3), .second, .val (.int p0_4), .val (.int 1), .val (.long (q0_2 ||| (1 : Int64))), .second, .val (.long (q0_3 ||| (1 : Int64))), .second, .val (.ref b112), .val (.ref bf0_119), .unset, .unset, .unset, .unset, .unset] [(.ref bf0_119), (.int 3), (.ref bf0_119)])) (fun _ k => XS.aload X129.here hx rfl (hb hby at_103) rfl rfl k) ?_
   refine own_s (g' := (mkF m 106 #[.val (.long q0_0), .second, .val (.long q0_1), .second, .val (.long q0_2), .second, .val (.long q0_3), .second, .val (.int p0_4), .val (.int 1), .val (.long (q0_2 ||| (1 : Int64))), .second, .val (.long (q0_3 ||| (1 : Int64))), .second, .val (.ref b112), .val (.ref bf0_119), .unset, .unset, .unset, .unset, .unset] [(.int 3), (.ref bf0_119), (.int 3), (.ref bf0_119)])) (fun _ k => XS.iconst X129.here hx rfl (hb hby at_105) k) ?_
   obtain ⟨cl131, Ar131, -, S131, -, H131, -⟩ := id f130
   have in131 := inb_of S131 (j := (3 : Int32)) ⟨by decide, by decide⟩
   refine own_s (g' := (mkF m 107 #[.val (.long q0_0), .second, .val (.long q0_1), .second, .val (.long q0_2), .second, .val (.long q0_3), .second, .val (.int p0_4), .val (.int 1), .val (.long (q0_2 ||| (1 : Int64))), .second, .val (.long (q0_3 ||| (1 : Int64))), .second, .val (.ref b112), .val (.ref bf0_119), .unset, .unset, .unset, .unset, .unset] [(.long (q0_3 ||| (1 : Int64))), (.int 3), (.ref bf0_119)])) (X129.laload hx (j := (3 : Int32)) (v := (.long (q0_3 ||| (1 : Int64)))) (by rw [e129]; exact Ar131.1) (State.isArrayOf_alike hZ.alike Ar131.2.1) Ar131.2.2 in131 (Has.at H131 in131 rfl) (g := (mkF m 106 #[.val (.long q0_0), .second, .val (.long q0_1), .second, .val (.long q0_2), .second, .val (.long q0_3), .second, .val (.int p0_4), .val (.int 1), .val (.long (q0_2 ||| (1 : Int64))), .second, .val (.long (q0_3 ||| (1 : Int64))), .second, .val (.ref b112), .val (.ref bf0_119), .unset, .unset, .unset, .unset, .unset] [(.int 3), (.ref bf0_119), (.int 3), (.ref bf0_119)])) rfl rfl (hb hby at_106)) ?_
   refine own_s (g' := (mkF m 110 #[.val (.long q0_0), .second, .val (.long q0_1), .second, .val (.long q0_2), .second, .val (.long q0_3), .second, .val (.int p0_4), .val (.int 1), .val (.long (q0_2 ||| (1 : Int64))), .second, .val (.long (q0_3 ||| (1 : Int64))), .second, .val (.ref b112), .val (.ref bf0_119), .unset, .unset, .unset, .unset, .unset] [(.long 2), (.long (q0_3 ||| (1 : Int64))), (.int 3), (.ref bf0_119)])) (X129.ldc2Long hx hown (mvT hZ ww38) (g := (mkF m 107 #[.val (.long q0_0), .second, .val (.long q0_1), .second, .val (.long q0_2), .second, .val (.long q0_3), .second, .val (.int p0_4), .val (.int 1), .val (.long (q0_2 ||| (1 : Int64))), .second, .val (.long (q0_3 ||| (1 : Int64))), .second, .val (.ref b112), .val (.ref bf0_119), .unset, .unset, .unset, .unset, .unset] [(.long (q0_3 ||| (1 : Int64))), (.int 3), (.ref bf0_119)])) rfl (hb hby at_107)) ?_
   refine own_s (g' := (mkF m 111 #[.val (.long q0_0), .second, .val (.long q0_1), .second, .val (.long q0_2), .second, .val (.long q0_3), .second, .val (.int p0_4), .val (.int 1), .val (.long (q0_2 ||| (1 : Int64))), .second, .val (.long (q0_3 ||| (1 : Int64))), .second, .val (.ref b112), .val (.ref bf0_119), .unset, .unset, .unset, .unset, .unset] [(.long ((q0_3 ||| (1 : Int64)) + (2 : Int64))), (.int 3), (.ref bf0_119)])) (fun _ k => XS.ladd X129.here hx rfl (hb hby at_110) rfl k) ?_
   obtain ⟨cl132, Ar132, q132, S132, M132, H132, G132⟩ := id f130
   obtain ⟨T132, h132, X132, e132, W132, st132⟩ := stJ X129 hx hZ e129 Ar132 (j := (3 : Int32)) (inb_of S132 ⟨by decide, by decide⟩) (g := (mkF m 111 #[.val (.long q0_0), .second, .val (.long q0_1), .second, .val (.long q0_2), .second, .val (.long q0_3), .second, .val (.int p0_4), .val (.int 1), .val (.long (q0_2 ||| (1 : Int64))), .second, .val (.long (q0_3 ||| (1 : Int64))), .second, .val (.ref b112), .val (.ref bf0_119), .unset, .unset, .unset, .unset, .unset] [(.long ((q0_3 ||| (1 : Int64)) + (2 : Int64))), (.int 3), (.ref bf0_119)])) rfl rfl (hb hby at_111)
   have f133 : Arv Z h132 bf0_119 kf0_119 .long (4 : Int32) [(.long (q0_0 ^^^ (-1 : Int64))), (.long (q0_1 ^^^ (-1 : Int64))), (.long ((q0_2 ||| (1 : Int64)) + (2 : Int64))), (.long ((q0_3 ||| (1 : Int64)) + (2 : Int64)))] (.long 0) := Arv.set Ar132 q132 S132 M132 H132 G132 rfl W132 3 rfl (Nat.le_of_ble_eq_true rfl)
   have K132 := K129.wr W132 (Or.inr sz_bf0_119)
   have N132 := Fr.snoc X132 N129 g_bf0_119
   refine own_s (g' := (mkF m 112 #[.val (.long q0_0), .second, .val (.long q0_1), .second, .val (.long q0_2), .second, .val (.long q0_3), .second, .val (.int p0_4), .val (.int 1), .val (.long (q0_2 ||| (1 : Int64))), .second, .val (.long (q0_3 ||| (1 : Int64))), .second, .val (.ref b112), .val (.ref bf0_119), .unset, .unset, .unset, .unset, .unset] [])) st132 ?_
   refine own_s (g' := (mkF m 113 #[.val (.long q0_0), .second, .val (.long q0_1), .second, .val (.long q0_2), .second, .val (.long q0_3), .second, .val (.int p0_4), .val (.int 1), .val (.long (q0_2 ||| (1 : Int64))), .second, .val (.long (q0_3 ||| (1 : Int64))), .second, .val (.ref b112), .val (.ref bf0_119), .unset, .unset, .unset, .unset, .unset] [(.long q0_0)])) (fun _ k => XS.lloadN X132.here hx rfl (hb hby at_112) rfl k) ?_
   refine own_s (g' := (mkF m 115 #[.val (.long q0_0), .second, .val (.long q0_1), .second, .val (.long q0_2), .second, .val (.long q0_3), .second, .val (.int p0_4), .val (.int 1), .val (.long (q0_2 ||| (1 : Int64))), .second, .val (.long (q0_3 ||| (1 : Int64))), .second, .val (.ref b112), .val (.ref bf0_119), .val (.long q0_0), .second, .unset, .unset, .unset] [])) (fun _ k => XS.lstore X132.here hx rfl (hb hby at_113) rfl (l' := #[.val (.long q0_0), .second, .val (.long q0_1), .second, .val (.long q0_2), .second, .val (.long q0_3), .second, .val (.int p0_4), .val (.int 1), .val (.long (q0_2 ||| (1 : Int64))), .second, .val (.long (q0_3 ||| (1 : Int64))), .second, .val (.ref b112), .val (.ref bf0_119), .val (.long q0_0), .second, .unset, .unset, .unset]) rfl k) ?_
   refine own_s (g' := (mkF m 116 #[.val (.long q0_0), .second, .val (.long q0_1), .second, .val (.long q0_2), .second, .val (.long q0_3), .second, .val (.int p0_4), .val (.int 1), .val (.long (q0_2 ||| (1 : Int64))), .second, .val (.long (q0_3 ||| (1 : Int64))), .second, .val (.ref b112), .val (.ref bf0_119), .val (.long q0_0), .second, .unset, .unset, .unset] [(.long q0_1)])) (fun _ k => XS.lloadN X132.here hx rfl (hb hby at_115) rfl k) ?_
   refine own_s (g' := (mkF m 118 #[.val (.long q0_0), .second, .val (.long q0_1), .second, .val (.long q0_2), .second, .val (.long q0_3), .second, .val (.int p0_4), .val (.int 1), .val (.long (q0_2 ||| (1 : Int64))), .second, .val (.long (q0_3 ||| (1 : Int64))), .second, .val (.ref b112), .val (.ref bf0_119), .val (.long q0_0), .second, .val (.long q0_1), .second, .unset] [])) (fun _ k => XS.lstore X132.here hx rfl (hb hby at_116) rfl (l' := #[.val (.long q0_0), .second, .val (.long q0_1), .second, .val (.long q0_2), .second, .val (.long q0_3), .second, .val (.int p0_4), .val (.int 1), .val (.long (q0_2 ||| (1 : Int64))), .second, .val (.long (q0_3 ||| (1 : Int64))), .second, .val (.ref b112), .val (.ref bf0_119), .val (.long q0_0), .second, .val (.long q0_1), .second, .unset]) rfl k) ?_
   refine own_s (g' := (mkF m 120 #[.val (.long q0_0), .second, .val (.long q0_1), .second, .val (.long q0_2), .second, .val (.long q0_3), .second, .val (.int p0_4), .val (.int 1), .val (.long (q0_2 ||| (1 : Int64))), .second, .val (.long (q0_3 ||| (1 : Int64))), .second, .val (.ref b112), .val (.ref bf0_119), .val (.long q0_0), .second, .val (.long q0_1), .second, .unset] [(.int 1)])) (fun _ k => XS.iload X132.here hx rfl (hb hby at_118) rfl k) ?_
   refine own_s (g' := (mkF m 123 #[.val (.long q0_0), .second, .val (.long q0_1), .second, .val (.long q0_2), .second, .val (.long q0_3), .second, .val (.int p0_4), .val (.int 1), .val (.long (q0_2 ||| (1 : Int64))), .second, .val (.long (q0_3 ||| (1 : Int64))), .second, .val (.ref b112), .val (.ref bf0_119), .val (.long q0_0), .second, .val (.long q0_1), .second, .unset] [])) (fun _ k => XS.ifNo X132.here hx rfl (hb hby at_120) rfl ((if0 _ _).trans (feq ((by decide) : ¬ (1 : Int32) = (0 : Int32))).1) k) ?_
   refine own_s (g' := (mkF m 125 #[.val (.long q0_0), .second, .val (.long q0_1), .second, .val (.long q0_2), .second, .val (.long q0_3), .second, .val (.int p0_4), .val (.int 1), .val (.long (q0_2 ||| (1 : Int64))), .second, .val (.long (q0_3 ||| (1 : Int64))), .second, .val (.ref b112), .val (.ref bf0_119), .val (.long q0_0), .second, .val (.long q0_1), .second, .unset] [(.ref b112)])) (fun _ k => XS.aload X132.here hx rfl (hb hby at_123) rfl rfl k) ?_
   have ne135 : b112 ≠ bf0_119 := Nat.ne_of_lt (Nat.lt_of_lt_of_le f114.lt hs_bf0_119)
   have f136 := (((((f115.keep K119q nin0).other W123 (Or.inl ne135)).other W126 (Or.inl ne135)).other W129 (Or.inl ne135)).other W132 (Or.inl ne135))
   have f137 := (((((f116.keep K119q nin0).other W123 (Or.inl ne135)).other W126 (Or.inl ne135)).other W129 (Or.inl ne135)).other W132 (Or.inl ne135))
   have f138 := (((((f117.keep K119q nin0).other W123 (Or.inl ne135)).other W126 (Or.inl ne135)).other W129 (Or.inl ne135)).other W132 (Or.inl ne135))
   have f139 := (((((f118.keep K119q nin0).other W123 (Or.inl ne135)).other W126 (Or.inl ne135)).other W129 (Or.inl ne135)).other W132 (Or.inl ne135))
   have f140 := (((((f114.keep K119q).wr W123).wr W126).wr W129).wr W132)
   obtain ⟨cq134, kq134, q134a, q134b, q134c⟩ := isOf hZ e132 f140
   obtain ⟨_, _, ⟨T134, L134, k134, n134⟩, -, X134, ⟨Lc134, hQ134, l134, y134, z134⟩, st134⟩ := X132.virtualBack hx (y := (⟨"com/example/forkstream/forkstream/TwinLinear", "nextLong", "()J"⟩ : MethodName)) (z := (⟨"com/example/forkstream/forkstream/TwinLinear", "nextLong", "()J"⟩ : MethodName)) hown (mvT hZ ww39) (mvT hZ ww40) (notFace_of_selects (args := #[]) (mvT hZ ww42)) (mvT hZ ww42) (mvT hZ ww41) (by decide) (backOf (W := 0) (rm7 l Z a0 hw [] b112 q0_0 q0_1 (q0_2 ||| (1 : Int64)) (q0_3 ||| (1 : Int64)) h132 n0 (Nat.le_trans Z0 K132.1) f136 f137 f138 f139 f140 g_b112) hZ ww43 ww2 (by decide) (by decide)) q134a q134c (g := (mkF m 125 #[.val (.long q0_0), .second, .val (.long q0_1), .second, .val (.long q0_2), .second, .val (.long q0_3), .second, .val (.int p0_4), .val (.int 1), .val (.long (q0_2 ||| (1 : Int64))), .second, .val (.long (q0_3 ||| (1 : Int64))), .second, .val (.ref b112), .val (.ref bf0_119), .val (.long q0_0), .second, .val (.long q0_1), .second, .unset] [(.ref b112)])) rfl (by rw [hml]; rfl) (Steps.refl _) (argsL := []) (rest := []) (lenOf pd___J rfl) rfl (by show 2 * 0 + _ ≤ _; exact Nat.le_of_eq rfl) (hb hby at_125) (fun _ _ => ⟨rfl, e132, (by decide : 2 + 0 ≤ _), (by decide : 8 + 0 ≤ _)⟩)
   dsimp only [Pt.U, Pt.locs, Pt.cells, Pt.slots] at X134 l134 y134 z134 st134 hQ134
   subst l134 y134 z134
   obtain ⟨rfl, N134q, K134q, f141, f142, f143, f144, f145⟩ := hQ134
   have K134 := K132.trans K134q (allS (Or.inr sz_b112) all0)
   have N134 := Fr.app N132 N134q
   refine own_trans (g' := (mkF m 128 #[.val (.long q0_0), .second, .val (.long q0_1), .second, .val (.long q0_2), .second, .val (.long q0_3), .second, .val (.int p0_4), .val (.int 1), .val (.long (q0_2 ||| (1 : Int64))), .second, .val (.long (q0_3 ||| (1 : Int64))), .second, .val (.ref b112), .val (.ref bf0_119), .val (.long q0_0), .second, .val (.long q0_1), .second, .unset] [(.long (r7 q0_0 q0_1))])) st134 ?_
   refine own_s (T' := T134) (g' := (mkF m 129 #[.val (.long q0_0), .second, .val (.long q0_1), .second, .val (.long q0_2), .second, .val (.long q0_3), .second, .val (.int p0_4), .val (.int 1), .val (.long (q0_2 ||| (1 : Int64))), .second, .val (.long (q0_3 ||| (1 : Int64))), .second, .val (.ref b112), .val (.ref bf0_119), .val (.long q0_0), .second, .val (.long q0_1), .second, .unset] [])) (fun t k => ?_) ?_
   · show Steps p.tables e below (T134.setTop (mkF m 128 #[.val (.long q0_0), .second, .val (.long q0_1), .second, .val (.long q0_2), .second, .val (.long q0_3), .second, .val (.int p0_4), .val (.int 1), .val (.long (q0_2 ||| (1 : Int64))), .second, .val (.long (q0_3 ||| (1 : Int64))), .second, .val (.ref b112), .val (.ref bf0_119), .val (.long q0_0), .second, .val (.long q0_1), .second, .unset] [(.long (r7 q0_0 q0_1))])) t
     jvm_step X134.here [X134.here.top, hx, (hb hby at_128), Value.category]
     exact k
   refine own_s (g' := (mkF m 132 #[.val (.long q0_0), .second, .val (.long q0_1), .second, .val (.long q0_2), .second, .val (.long q0_3), .second, .val (.int p0_4), .val (.int 1), .val (.long (q0_2 ||| (1 : Int64))), .second, .val (.long (q0_3 ||| (1 : Int64))), .second, .val (.ref b112), .val (.ref bf0_119), .val (.long q0_0), .second, .val (.long q0_1), .second, .unset] [(.long 3202034522624059733)])) (X134.ldc2Long hx hown (mvT hZ ww70) (g := (mkF m 129 #[.val (.long q0_0), .second, .val (.long q0_1), .second, .val (.long q0_2), .second, .val (.long q0_3), .second, .val (.int p0_4), .val (.int 1), .val (.long (q0_2 ||| (1 : Int64))), .second, .val (.long (q0_3 ||| (1 : Int64))), .second, .val (.ref b112), .val (.ref bf0_119), .val (.long q0_0), .second, .val (.long q0_1), .second, .unset] [])) rfl (hb hby at_129)) ?_
   refine own_s (g' := (mkF m 133 #[.val (.long q0_0), .second, .val (.long q0_1), .second, .val (.long q0_2), .second, .val (.long q0_3), .second, .val (.int p0_4), .val (.int 1), .val (.long (q0_2 ||| (1 : Int64))), .second, .val (.long (q0_3 ||| (1 : Int64))), .second, .val (.ref b112), .val (.ref bf0_119), .val (.long q0_0), .second, .val (.long q0_1), .second, .unset] [(.long q0_0), (.long 3202034522624059733)])) (fun _ k => XS.lloadN X134.here hx rfl (hb hby at_132) rfl k) ?_
   refine own_s (g' := (mkF m 134 #[.val (.long q0_0), .second, .val (.long q0_1), .second, .val (.long q0_2), .second, .val (.long q0_3), .second, .val (.int p0_4), .val (.int 1), .val (.long (q0_2 ||| (1 : Int64))), .second, .val (.long (q0_3 ||| (1 : Int64))), .second, .val (.ref b112), .val (.ref bf0_119), .val (.long q0_0), .second, .val (.long q0_1), .second, .unset] [(.long ((3202034522624059733 : Int64) * q0_0))])) (fun _ k => XS.lmul X134.here hx rfl (hb hby at_133) rfl k) ?_
   refine own_s (g' := (mkF m 136 #[.val (.long q0_0), .second, .val (.long q0_1), .second, .val (.long q0_2), .second, .val (.long q0_3), .second, .val (.int p0_4), .val (.int 1), .val (.long (q0_2 ||| (1 : Int64))), .second, .val (.long (q0_3 ||| (1 : Int64))), .second, .val (.ref b112), .val (.ref bf0_119), .val (.long q0_0), .second, .val (.long q0_1), .second, .unset] [(.long (q0_2 ||| (1 : Int64))), (.long ((3202034522624059733 : Int64) * q0_0))])) (fun _ k => XS.lload X134.here hx rfl (hb hby at_134) rfl k) ?_
   refine own_s (g' := (mkF m 137 #[.val (.long q0_0), .second, .val (.long q0_1), .second, .val (.long q0_2), .second, .val (.long q0_3), .second, .val (.int p0_4), .val (.int 1), .val (.long (q0_2 ||| (1 : Int64))), .second, .val (.long (q0_3 ||| (1 : Int64))), .second, .val (.ref b112), .val (.ref bf0_119), .val (.long q0_0), .second, .val (.long q0_1), .second, .unset] [(.long (((3202034522624059733 : Int64) * q0_0) + (q0_2 ||| (1 : Int64))))])) (fun _ k => XS.ladd X134.here hx rfl (hb hby at_136) rfl k) ?_
   refine own_s (g' := (mkF m 139 #[.val (.long q0_0), .second, .val (.long q0_1), .second, .val (.long q0_2), .second, .val (.long q0_3), .second, .val (.int p0_4), .val (.int 1), .val (.long (q0_2 ||| (1 : Int64))), .second, .val (.long (q0_3 ||| (1 : Int64))), .second, .val (.ref b112), .val (.ref bf0_119), .val (.long (((3202034522624059733 : Int64) * q0_0) + (q0_2 ||| (1 : Int64)))), .second, .val (.long q0_1), .second, .unset] [])) (fun _ k => XS.lstore X134.here hx rfl (hb hby at_137) rfl (l' := #[.val (.long q0_0), .second, .val (.long q0_1), .second, .val (.long q0_2), .second, .val (.long q0_3), .second, .val (.int p0_4), .val (.int 1), .val (.long (q0_2 ||| (1 : Int64))), .second, .val (.long (q0_3 ||| (1 : Int64))), .second, .val (.ref b112), .val (.ref bf0_119), .val (.long (((3202034522624059733 : Int64) * q0_0) + (q0_2 ||| (1 : Int64)))), .second, .val (.long q0_1), .second, .unset]) rfl k) ?_
   refine own_s (g' := (mkF m 142 #[.val (.long q0_0), .second, .val (.long q0_1), .second, .val (.long q0_2), .second, .val (.long q0_3), .second, .val (.int p0_4), .val (.int 1), .val (.long (q0_2 ||| (1 : Int64))), .second, .val (.long (q0_3 ||| (1 : Int64))), .second, .val (.ref b112), .val (.ref bf0_119), .val (.long (((3202034522624059733 : Int64) * q0_0) + (q0_2 ||| (1 : Int64)))), .second, .val (.long q0_1), .second, .unset] [(.long 3935559000370003845)])) (X134.ldc2Long hx hown (mvT hZ ww71) (g := (mkF m 139 #[.val (.long q0_0), .second, .val (.long q0_1), .second, .val (.long q0_2), .second, .val (.long q0_3), .second, .val (.int p0_4), .val (.int 1), .val (.long (q0_2 ||| (1 : Int64))), .second, .val (.long (q0_3 ||| (1 : Int64))), .second, .val (.ref b112), .val (.ref bf0_119), .val (.long (((3202034522624059733 : Int64) * q0_0) + (q0_2 ||| (1 : Int64)))), .second, .val (.long q0_1), .second, .unset] [])) rfl (hb hby at_139)) ?_
   refine own_s (g' := (mkF m 143 #[.val (.long q0_0), .second, .val (.long q0_1), .second, .val (.long q0_2), .second, .val (.long q0_3), .second, .val (.int p0_4), .val (.int 1), .val (.long (q0_2 ||| (1 : Int64))), .second, .val (.long (q0_3 ||| (1 : Int64))), .second, .val (.ref b112), .val (.ref bf0_119), .val (.long (((3202034522624059733 : Int64) * q0_0) + (q0_2 ||| (1 : Int64)))), .second, .val (.long q0_1), .second, .unset] [(.long q0_1), (.long 3935559000370003845)])) (fun _ k => XS.lloadN X134.here hx rfl (hb hby at_142) rfl k) ?_
   refine own_s (g' := (mkF m 144 #[.val (.long q0_0), .second, .val (.long q0_1), .second, .val (.long q0_2), .second, .val (.long q0_3), .second, .val (.int p0_4), .val (.int 1), .val (.long (q0_2 ||| (1 : Int64))), .second, .val (.long (q0_3 ||| (1 : Int64))), .second, .val (.ref b112), .val (.ref bf0_119), .val (.long (((3202034522624059733 : Int64) * q0_0) + (q0_2 ||| (1 : Int64)))), .second, .val (.long q0_1), .second, .unset] [(.long ((3935559000370003845 : Int64) * q0_1))])) (fun _ k => XS.lmul X134.here hx rfl (hb hby at_143) rfl k) ?_
   refine own_s (g' := (mkF m 146 #[.val (.long q0_0), .second, .val (.long q0_1), .second, .val (.long q0_2), .second, .val (.long q0_3), .second, .val (.int p0_4), .val (.int 1), .val (.long (q0_2 ||| (1 : Int64))), .second, .val (.long (q0_3 ||| (1 : Int64))), .second, .val (.ref b112), .val (.ref bf0_119), .val (.long (((3202034522624059733 : Int64) * q0_0) + (q0_2 ||| (1 : Int64)))), .second, .val (.long q0_1), .second, .unset] [(.long (q0_3 ||| (1 : Int64))), (.long ((3935559000370003845 : Int64) * q0_1))])) (fun _ k => XS.lload X134.here hx rfl (hb hby at_144) rfl k) ?_
   refine own_s (g' := (mkF m 147 #[.val (.long q0_0), .second, .val (.long q0_1), .second, .val (.long q0_2), .second, .val (.long q0_3), .second, .val (.int p0_4), .val (.int 1), .val (.long (q0_2 ||| (1 : Int64))), .second, .val (.long (q0_3 ||| (1 : Int64))), .second, .val (.ref b112), .val (.ref bf0_119), .val (.long (((3202034522624059733 : Int64) * q0_0) + (q0_2 ||| (1 : Int64)))), .second, .val (.long q0_1), .second, .unset] [(.long (((3935559000370003845 : Int64) * q0_1) + (q0_3 ||| (1 : Int64))))])) (fun _ k => XS.ladd X134.here hx rfl (hb hby at_146) rfl k) ?_
   refine own_s (g' := (mkF m 149 #[.val (.long q0_0), .second, .val (.long q0_1), .second, .val (.long q0_2), .second, .val (.long q0_3), .second, .val (.int p0_4), .val (.int 1), .val (.long (q0_2 ||| (1 : Int64))), .second, .val (.long (q0_3 ||| (1 : Int64))), .second, .val (.ref b112), .val (.ref bf0_119), .val (.long (((3202034522624059733 : Int64) * q0_0) + (q0_2 ||| (1 : Int64)))), .second, .val (.long (((3935559000370003845 : Int64) * q0_1) + (q0_3 ||| (1 : Int64)))), .second, .unset] [])) (fun _ k => XS.lstore X134.here hx rfl (hb hby at_147) rfl (l' := #[.val (.long q0_0), .second, .val (.long q0_1), .second, .val (.long q0_2), .second, .val (.long q0_3), .second, .val (.int p0_4), .val (.int 1), .val (.long (q0_2 ||| (1 : Int64))), .second, .val (.long (q0_3 ||| (1 : Int64))), .second, .val (.ref b112), .val (.ref bf0_119), .val (.long (((3202034522624059733 : Int64) * q0_0) + (q0_2 ||| (1 : Int64)))), .second, .val (.long (((3935559000370003845 : Int64) * q0_1) + (q0_3 ||| (1 : Int64)))), .second, .unset]) rfl k) ?_
   refine own_s (g' := (mkF m 151 #[.val (.long q0_0), .second, .val (.long q0_1), .second, .val (.long q0_2), .second, .val (.long q0_3), .second, .val (.int p0_4), .val (.int 1), .val (.long (q0_2 ||| (1 : Int64))), .second, .val (.long (q0_3 ||| (1 : Int64))), .second, .val (.ref b112), .val (.ref bf0_119), .val (.long (((3202034522624059733 : Int64) * q0_0) + (q0_2 ||| (1 : Int64)))), .second, .val (.long (((3935559000370003845 : Int64) * q0_1) + (q0_3 ||| (1 : Int64)))), .second, .unset] [(.ref b112)])) (fun _ k => XS.aload X134.here hx rfl (hb hby at_149) rfl rfl k) ?_
   obtain ⟨cq146, kq146, q146a, q146b, q146c⟩ := isOf hZ rfl f141
   obtain ⟨_, _, ⟨T146, L146, k146, n146⟩, -, X146, ⟨Lc146, hQ146, l146, y146, z146⟩, st146⟩ := X134.virtualBack hx (y := (⟨"com/example/forkstream/forkstream/TwinLinear", "stateWords", "()[J"⟩ : MethodName)) (z := (⟨"com/example/forkstream/forkstream/TwinLinear", "stateWords", "()[J"⟩ : MethodName)) hown (mvT hZ ww27) (mvT hZ ww28) (notFace_of_selects (args := #[]) (mvT hZ ww30)) (mvT hZ ww30) (mvT hZ ww29) (by decide) (backOf (W := 0) (rm5 l Z a0 hw [] b112 (((3202034522624059733 : Int64) * q0_0) + (q0_2 ||| (1 : Int64))) (((3935559000370003845 : Int64) * q0_1) + (q0_3 ||| (1 : Int64))) (q0_2 ||| (1 : Int64)) (q0_3 ||| (1 : Int64)) T134.heap n0 (Nat.le_trans Z0 K134.1) f144 f145 f142 f143) hZ ww31 ww2 (by decide) (by decide)) q146a q146c (g := (mkF m 151 #[.val (.long q0_0), .second, .val (.long q0_1), .second, .val (.long q0_2), .second, .val (.long q0_3), .second, .val (.int p0_4), .val (.int 1), .val (.long (q0_2 ||| (1 : Int64))), .second, .val (.long (q0_3 ||| (1 : Int64))), .second, .val (.ref b112), .val (.ref bf0_119), .val (.long (((3202034522624059733 : Int64) * q0_0) + (q0_2 ||| (1 : Int64)))), .second, .val (.long (((3935559000370003845 : Int64) * q0_1) + (q0_3 ||| (1 : Int64)))), .second, .unset] [(.ref b112)])) rfl (by rw [hml]; rfl) (Steps.refl _) (argsL := []) (rest := []) (lenOf pd____J rfl) rfl (by show 2 * 0 + _ ≤ _; exact Nat.le_of_eq rfl) (hb hby at_151) (fun _ _ => ⟨rfl, rfl, (by decide : 2 + 1 ≤ _), (by decide : 8 + 4 ≤ _)⟩)
   dsimp only [Pt.U, Pt.locs, Pt.cells, Pt.slots] at X146 l146 y146 z146 st146 hQ146
   subst l146 y146 z146
   obtain ⟨bf0_146, kf0_146, hs_bf0_146, rfl, N146q, K146q, f147⟩ := hQ146
   have g_bf0_146 := Nat.le_trans (Nat.le_trans Z0 K134.1) hs_bf0_146
   have sz_bf0_146 := Nat.le_trans K134.1 hs_bf0_146
   have K146 := K134.trans K146q all0
   have N146 := Fr.app N134 N146q
   refine own_trans (g' := (mkF m 154 #[.val (.long q0_0), .second, .val (.long q0_1), .second, .val (.long q0_2), .second, .val (.long q0_3), .second, .val (.int p0_4), .val (.int 1), .val (.long (q0_2 ||| (1 : Int64))), .second, .val (.long (q0_3 ||| (1 : Int64))), .second, .val (.ref b112), .val (.ref bf0_119), .val (.long (((3202034522624059733 : Int64) * q0_0) + (q0_2 ||| (1 : Int64)))), .second, .val (.long (((3935559000370003845 : Int64) * q0_1) + (q0_3 ||| (1 : Int64)))), .second, .unset] [(.ref bf0_146)])) st146 ?_
   refine own_s (g' := (mkF m 156 #[.val (.long q0_0), .second, .val (.long q0_1), .second, .val (.long q0_2), .second, .val (.long q0_3), .second, .val (.int p0_4), .val (.int 1), .val (.long (q0_2 ||| (1 : Int64))), .second, .val (.long (q0_3 ||| (1 : Int64))), .second, .val (.ref b112), .val (.ref bf0_119), .val (.long (((3202034522624059733 : Int64) * q0_0) + (q0_2 ||| (1 : Int64)))), .second, .val (.long (((3935559000370003845 : Int64) * q0_1) + (q0_3 ||| (1 : Int64)))), .second, .val (.ref bf0_146)] [])) (fun _ k => XS.astore X146.here hx rfl (hb hby at_154) rfl rfl (l' := #[.val (.long q0_0), .second, .val (.long q0_1), .second, .val (.long q0_2), .second, .val (.long q0_3), .second, .val (.int p0_4), .val (.int 1), .val (.long (q0_2 ||| (1 : Int64))), .second, .val (.long (q0_3 ||| (1 : Int64))), .second, .val (.ref b112), .val (.ref bf0_119), .val (.long (((3202034522624059733 : Int64) * q0_0) + (q0_2 ||| (1 : Int64)))), .second, .val (.long (((3935559000370003845 : Int64) * q0_1) + (q0_3 ||| (1 : Int64)))), .second, .val (.ref bf0_146)]) rfl k) ?_
   refine own_s (g' := (mkF m 158 #[.val (.long q0_0), .second, .val (.long q0_1), .second, .val (.long q0_2), .second, .val (.long q0_3), .second, .val (.int p0_4), .val (.int 1), .val (.long (q0_2 ||| (1 : Int64))), .second, .val (.long (q0_3 ||| (1 : Int64))), .second, .val (.ref b112), .val (.ref bf0_119), .val (.long (((3202034522624059733 : Int64) * q0_0) + (q0_2 ||| (1 : Int64)))), .second, .val (.long (((3935559000370003845 : Int64) * q0_1) + (q0_3 ||| (1 : Int64)))), .second, .val (.ref bf0_146)] [(.ref bf0_146)])) (fun _ k => XS.aload X146.here hx rfl (hb hby at_156) rfl rfl k) ?_
   refine own_s (g' := (mkF m 160 #[.val (.long q0_0), .second, .val (.long q0_1), .second, .val (.long q0_2), .second, .val (.long q0_3), .second, .val (.int p0_4), .val (.int 1), .val (.long (q0_2 ||| (1 : Int64))), .second, .val (.long (q0_3 ||| (1 : Int64))), .second, .val (.ref b112), .val (.ref bf0_119), .val (.long (((3202034522624059733 : Int64) * q0_0) + (q0_2 ||| (1 : Int64)))), .second, .val (.long (((3935559000370003845 : Int64) * q0_1) + (q0_3 ||| (1 : Int64)))), .second, .val (.ref bf0_146)] [(.long (((3202034522624059733 : Int64) * q0_0) + (q0_2 ||| (1 : Int64)))), (.ref bf0_146)])) (fun _ k => XS.lload X146.here hx rfl (hb hby at_158) rfl k) ?_
   refine own_s (g' := (mkF m 162 #[.val (.long q0_0), .second, .val (.long q0_1), .second, .val (.long q0_2), .second, .val (.long q0_3), .second, .val (.int p0_4), .val (.int 1), .val (.long (q0_2 ||| (1 : Int64))), .second, .val (.long (q0_3 ||| (1 : Int64))), .second, .val (.ref b112), .val (.ref bf0_119), .val (.long (((3202034522624059733 : Int64) * q0_0) + (q0_2 ||| (1 : Int64)))), .second, .val (.long (((3935559000370003845 : Int64) * q0_1) + (q0_3 ||| (1 : Int64)))), .second, .val (.ref bf0_146)] [(.long (((3935559000370003845 : Int64) * q0_1) + (q0_3 ||| (1 : Int64)))), (.long (((3202034522624059733 : Int64) * q0_0) + (q0_2 ||| (1 : Int64)))), (.ref bf0_146)])) (fun _ k => XS.lload X146.here hx rfl (hb hby at_160) rfl k) ?_
   refine own_s (g' := (mkF m 164 #[.val (.long q0_0), .second, .val (.long q0_1), .second, .val (.long q0_2), .second, .val (.long q0_3), .second, .val (.int p0_4), .val (.int 1), .val (.long (q0_2 ||| (1 : Int64))), .second, .val (.long (q0_3 ||| (1 : Int64))), .second, .val (.ref b112), .val (.ref bf0_119), .val (.long (((3202034522624059733 : Int64) * q0_0) + (q0_2 ||| (1 : Int64)))), .second, .val (.long (((3935559000370003845 : Int64) * q0_1) + (q0_3 ||| (1 : Int64)))), .second, .val (.ref bf0_146)] [(.long (q0_2 ||| (1 : Int64))), (.long (((3935559000370003845 : Int64) * q0_1) + (q0_3 ||| (1 : Int64)))), (.long (((3202034522624059733 : Int64) * q0_0) + (q0_2 ||| (1 : Int64)))), (.ref bf0_146)])) (fun _ k => XS.lload X146.here hx rfl (hb hby at_162) rfl k) ?_
   refine own_s (g' := (mkF m 166 #[.val (.long q0_0), .second, .val (.long q0_1), .second, .val (.long q0_2), .second, .val (.long q0_3), .second, .val (.int p0_4), .val (.int 1), .val (.long (q0_2 ||| (1 : Int64))), .second, .val (.long (q0_3 ||| (1 : Int64))), .second, .val (.ref b112), .val (.ref bf0_119), .val (.long (((3202034522624059733 : Int64) * q0_0) + (q0_2 ||| (1 : Int64)))), .second, .val (.long (((3935559000370003845 : Int64) * q0_1) + (q0_3 ||| (1 : Int64)))), .second, .val (.ref bf0_146)] [(.long (q0_3 ||| (1 : Int64))), (.long (q0_2 ||| (1 : Int64))), (.long (((3935559000370003845 : Int64) * q0_1) + (q0_3 ||| (1 : Int64)))), (.long (((3202034522624059733 : Int64) * q0_0) + (q0_2 ||| (1 : Int64)))), (.ref bf0_146)])) (fun _ k => XS.lload X146.here hx rfl (hb hby at_164) rfl k) ?_
   obtain ⟨_, _, ⟨T148, L148, k148, n148⟩, -, X148, ⟨Lc148, hQ148, l148, y148, z148⟩, st148⟩ := Jvm.LawKit.callS X146 hx (y := (⟨"com/example/forkstream/forkstream/TwinLinearStateWordsPinLaw", "words", "([JJJJJ)Z"⟩ : MethodName)) hown (mvT hZ ww33) (mvT hZ ww34) (mvT hZ ww35) (mvT hZ ww36) (by decide) (backOf (W := 0) (rm6 l Z a0 hw [] bf0_146 (((3202034522624059733 : Int64) * q0_0) + (q0_2 ||| (1 : Int64))) (((3935559000370003845 : Int64) * q0_1) + (q0_3 ||| (1 : Int64))) (q0_2 ||| (1 : Int64)) (q0_3 ||| (1 : Int64)) kf0_146 (((3202034522624059733 : Int64) * q0_0) + (q0_2 ||| (1 : Int64))) (((3935559000370003845 : Int64) * q0_1) + (q0_3 ||| (1 : Int64))) (q0_2 ||| (1 : Int64)) (q0_3 ||| (1 : Int64)) T146.heap n0 (Nat.le_trans Z0 K146.1) f147) hZ ww36 ww35 (by decide) (by decide)) (g := (mkF m 166 #[.val (.long q0_0), .second, .val (.long q0_1), .second, .val (.long q0_2), .second, .val (.long q0_3), .second, .val (.int p0_4), .val (.int 1), .val (.long (q0_2 ||| (1 : Int64))), .second, .val (.long (q0_3 ||| (1 : Int64))), .second, .val (.ref b112), .val (.ref bf0_119), .val (.long (((3202034522624059733 : Int64) * q0_0) + (q0_2 ||| (1 : Int64)))), .second, .val (.long (((3935559000370003845 : Int64) * q0_1) + (q0_3 ||| (1 : Int64)))), .second, .val (.ref bf0_146)] [(.long (q0_3 ||| (1 : Int64))), (.long (q0_2 ||| (1 : Int64))), (.long (((3935559000370003845 : Int64) * q0_1) + (q0_3 ||| (1 : Int64)))), (.long (((3202034522624059733 : Int64) * q0_0) + (q0_2 ||| (1 : Int64)))), (.ref bf0_146)])) rfl (by rw [hml]; rfl) (argsL := [(.ref bf0_146), (.long (((3202034522624059733 : Int64) * q0_0) + (q0_2 ||| (1 : Int64)))), (.long (((3935559000370003845 : Int64) * q0_1) + (q0_3 ||| (1 : Int64)))), (.long (q0_2 ||| (1 : Int64))), (.long (q0_3 ||| (1 : Int64)))]) (rest := []) (lenOf pd___JJJJJ_Z rfl) rfl (by show 2 * 0 + _ ≤ _; exact Nat.le_of_eq rfl) (hb hby at_166) (fun _ _ => ⟨rfl, rfl, (by decide : 3 + 0 ≤ _), (by decide : 12 + 0 ≤ _)⟩)
   dsimp only [Pt.U, Pt.locs, Pt.cells, Pt.slots] at X148 l148 y148 z148 st148 hQ148
   subst l148 y148 z148
   obtain ⟨rfl, N148q, eh148⟩ := hQ148
   have N148 := Fr.app N146 N148q
   refine own_s (g' := (mkF m 169 #[.val (.long q0_0), .second, .val (.long q0_1), .second, .val (.long q0_2), .second, .val (.long q0_3), .second, .val (.int p0_4), .val (.int 1), .val (.long (q0_2 ||| (1 : Int64))), .second, .val (.long (q0_3 ||| (1 : Int64))), .second, .val (.ref b112), .val (.ref bf0_119), .val (.long (((3202034522624059733 : Int64) * q0_0) + (q0_2 ||| (1 : Int64)))), .second, .val (.long (((3935559000370003845 : Int64) * q0_1) + (q0_3 ||| (1 : Int64)))), .second, .val (.ref bf0_146)] [(.int (r6 (((3202034522624059733 : Int64) * q0_0) + (q0_2 ||| (1 : Int64))) (((3935559000370003845 : Int64) * q0_1) + (q0_3 ||| (1 : Int64))) (q0_2 ||| (1 : Int64)) (q0_3 ||| (1 : Int64)) (((3202034522624059733 : Int64) * q0_0) + (q0_2 ||| (1 : Int64))) (((3935559000370003845 : Int64) * q0_1) + (q0_3 ||| (1 : Int64))) (q0_2 ||| (1 : Int64)) (q0_3 ||| (1 : Int64))))])) st148 ?_
   rw [show (r6 (((3202034522624059733 : Int64) * q0_0) + (q0_2 ||| (1 : Int64))) (((3935559000370003845 : Int64) * q0_1) + (q0_3 ||| (1 : Int64))) (q0_2 ||| (1 : Int64)) (q0_3 ||| (1 : Int64)) (((3202034522624059733 : Int64) * q0_0) + (q0_2 ||| (1 : Int64))) (((3935559000370003845 : Int64) * q0_1) + (q0_3 ||| (1 : Int64))) (q0_2 ||| (1 : Int64)) (q0_3 ||| (1 : Int64))) = (1 : Int32) from ((if_pos rfl).trans ((if_pos rfl).trans ((if_pos rfl).trans (if_pos rfl))))]
   refine own_retN X148 hx hlk (t := .boolean) hret (by simp) (hb hby at_169) (z' := (1 : Int32)) (by decide) (by decide) (by decide) ?_
   show Q0 Z q0_0 q0_1 q0_2 q0_3 p0_4 h0 n0 _ T148.heap _
   rw [eh148]
   exact ⟨rfl, N148⟩
set_option maxRecDepth 65536 in
set_option maxHeartbeats 40000000 in
theorem comes_1 {Post : Tables → Env → Array Value → State → Outcome → State → Prop} (hpost : ∀ tb e args s v u, (limb_1_1.after args s (.returned v) u = true ∧ limb_1_2.after args s (.returned v) u = true ∧ True) → FrameEnd s (.returned v) u (Jvm.fieldLocs frame_1_writes args s ++ Jvm.arrayLocs frame_1_arrays args s ++ Jvm.staticLocs frame_1_statics s) 16 128 → Post tb e args s (.returned v) u) :
    ArmFor flags0 classFile x code maxLocals ret World_1 tables_1 room_1 Calls_1 rest_1 Pre_1 Post := by
  intro l hfl _ _ p e ha hc hk s m args below hf hA hF happ hP
  obtain ⟨hcalls, hrest, hpre⟩ := hP
  obtain ⟨-, -, -, hnamed, -, -, -, hat⟩ := (Spec.applies_iff hf).mp happ
  obtain ⟨hg, hn⟩ := and_e (Cond.before_iff.mp (show (Jvm.Cond.and given_1 narrow_1).before args s = true from hpre))
  obtain ⟨gc, hg⟩ := and_e hg
  obtain ⟨gi0, hg⟩ := and_e hg
  obtain ⟨gi1, hg⟩ := and_e hg
  obtain ⟨gi2, hg⟩ := and_e hg
  obtain ⟨gi3, hg⟩ := and_e hg
  obtain ⟨w0, w1, w2, w3, w4, rfl⟩ : ∃ w0 w1 w2 w3 w4 : Value, args = #[w0, w1, w2, w3, w4] := by
    have hs : args.size = 5 := by simpa [Cond.value, given_1] using gc
    obtain ⟨L⟩ := args
    match L, hs with
    | [w0, w1, w2, w3, w4], _ => exact ⟨w0, w1, w2, w3, w4, rfl⟩
  have hw := fun d (hd : d ∈ tables_1) => atoms_spec (ws := Jvm.Cond.code x code maxLocals ret :: tables_1) hat d (List.mem_cons_of_mem _ hd)
  obtain ⟨i0, ei0⟩ := isL_v gi0
  obtain rfl : w0 = (.long i0) := Option.some.inj ei0
  obtain ⟨i1, ei1⟩ := isL_v gi1
  obtain rfl : w1 = (.long i1) := Option.some.inj ei1
  obtain ⟨i2, ei2⟩ := isL_v gi2
  obtain rfl : w2 = (.long i2) := Option.some.inj ei2
  obtain ⟨i3, ei3⟩ := isL_v gi3
  obtain rfl : w3 = (.long i3) := Option.some.inj ei3
  obtain ⟨i4, ei4⟩ := is_v hg
  obtain rfl : w4 = (.int i4) := Option.some.inj ei4
  obtain ⟨n, o, h1, h2, h3, _, L, rfl, ⟨rfl, N⟩, hq⟩ := rm0 l s _ hw tables_1 i0 i1 i2 i3 i4 s.heap s.heap.size (Nat.le_refl _)  p e ha hc hk s m _ below hf ((Spec.applies_iff_loose hf).mp happ).1 ⟨rfl, State.Warmed39.refl s, rfl⟩ trivial
  refine ⟨n, _, h1, h2, h3, hpost _ _ _ _ _ _ ⟨Cond.after_iff.mpr rfl, Cond.after_iff.mpr (eq_i res_at (Term.int_eval (1)) rfl), trivial⟩ ⟨hq.1, hq.2.1, (hq.2.2.sift fun y hy => Or.inr (N y hy)).mono (by decide) (by decide)⟩⟩
theorem main_1_1 : Claimed_1_1 := comes_1 fun _ _ _ _ _ _ h hF => ⟨h.1, hF⟩
theorem main_1_2 : Claimed_1_2 := comes_1 fun _ _ _ _ _ _ h hF => ⟨h.2.1, hF⟩
end Jvm.Pilot.@@N@@
namespace Jvm.Pilot.@@N@@
open Jvm Jvm.ClassFile Sem Op Lib Jvm.Free Jvm.Stand Jvm.Pilot.@@N@@.Jvm.D
/-! MADE BY PROGRAM (witnessworld.py) out of the Statement's table words and the real class files: 21 classes; the members and pool entries that the words name. The judged class is class 1, her method 2. -/
namespace start1
open Jvm.ClassFile
def u (s : String) : CpInfo := .utf8 (stringToUtf16 s)
/-- a pool by its gaps: so many unusable entries, then the entry; so many at the end -/
def gap : Nat → List CpInfo → List CpInfo
  | 0, r => r
  | n + 1, r => .unusable :: gap n r
def poolList (es : List (Nat × CpInfo)) (last : Nat) : List CpInfo := es.foldr (fun e r => gap e.1 (e.2 :: r)) (gap last [])
def pool (es : List (Nat × CpInfo)) (last : Nat) : Array CpInfo := ⟨poolList es last⟩
def fileOf (pool : Array CpInfo) (this : Nat) (attrs : Array Attribute := #[]) (ms : Array MethodInfo := #[]) (fl : Nat := 33) (sup : Nat := 0) (ifs : Array Nat := #[]) (fds : Array FieldInfo := #[]) : ClassFile where
  minorVersion := 0
  majorVersion := 65
  constantPool := pool
  accessFlags := fl
  thisClass := this
  superClass := sup
  interfaces := ifs
  fields := fds
  methods := ms
  attributes := attrs
def plain (name : String) (sup : Option ClassId) : Class where
  name := name
  kind := .ordinary
  loader := none
  accessFlags := 33
  super := sup
  interfaces := #[]
  cf := none
  fields := #[]
  methods := #[]
  instanceTypes := #[]
  staticTypes := #[]
  resolved := #[]
  callSites := []
  init := .initialized
  statics := none
  mirror := none

def pool0 : Array CpInfo := pool [(5, u "<init>"), (0, u "()V"), (1, .class_ 10), (1, u "java/lang/Object")] 113

def k0c0 : Code := { maxStack := 0, maxLocals := 1, code := object_method_1_code, exceptionTable := #[], attributes := #[] }
def k0m0 : Method := { name := "<init>", desc := "()V", sig := { parameters := [], returnType := none }, accessFlags := 1, code := some k0c0 }
/-- java/lang/Object -/
def k0 : Class := { plain "java/lang/Object" none with
  accessFlags := 33
  interfaces := #[]
  cf := some (fileOf pool0 8 #[] #[{ accessFlags := 1, nameIndex := 5, descriptorIndex := 6, attributes := #[] }] 33 0 #[] #[])
  fields := #[]
  methods := #[k0m0]
  instanceTypes := #[]
  staticTypes := #[]
  resolved := Array.replicate 124 none
  statics := none }

def pool1 : Array CpInfo := pool [(2, .class_ 4), (1, u "java/lang/Object"), (0, u "<init>"), (0, u "()V"), (0, .class_ 8), (0, u "com/example/forkstream/forkstream/TwinLinear"), (0, .methodref 7 10), (0, .nameAndType 5 11), (0, u "(JJJJ)V"), (0, .methodref 7 13), (0, .nameAndType 14 15), (0, u "stateWords"), (0, u "()[J"), (0, .methodref 17 18), (0, .class_ 19), (0, .nameAndType 20 21), (0, u "com/example/forkstream/forkstream/TwinLinearStateWordsPinLaw"), (0, u "words"), (0, u "([JJJJJ)Z"), (0, .long 18446744073709551615), (1, .long 2), (1, .methodref 7 27), (0, .nameAndType 28 29), (0, u "nextLong"), (0, u "()J"), (0, .long 3202034522624059733), (1, .long 3935559000370003845), (4, u "law"), (0, u "(JJJJI)Z")] 4

def k1m0 : Method := { name := "<init>", desc := "()V", sig := { parameters := [], returnType := none }, accessFlags := 2, code := none }
def k1c1 : Code := { maxStack := 4, maxLocals := 9, code := method_2_code, exceptionTable := #[], attributes := #[] }
def k1m1 : Method := { name := "words", desc := "([JJJJJ)Z", sig := { parameters := [(.array .long), .long, .long, .long, .long], returnType := some .boolean }, accessFlags := 10, code := some k1c1 }
def k1c2 : Code := { maxStack := 10, maxLocals := 21, code := code, exceptionTable := #[], attributes := #[] }
def k1m2 : Method := { name := "law", desc := "(JJJJI)Z", sig := { parameters := [.long, .long, .long, .long, .int], returnType := some .boolean }, accessFlags := 9, code := some k1c2 }
/-- com/example/forkstream/forkstream/TwinLinearStateWordsPinLaw -/
def k1 : Class := { plain "com/example/forkstream/forkstream/TwinLinearStateWordsPinLaw" (some 0) with
  accessFlags := 49
  interfaces := #[]
  cf := some (fileOf pool1 17 #[] #[{ accessFlags := 2, nameIndex := 5, descriptorIndex := 6, attributes := #[] }, { accessFlags := 10, nameIndex := 20, descriptorIndex := 21, attributes := #[] }, { accessFlags := 9, nameIndex := 37, descriptorIndex := 38, attributes := #[] }] 49 2 #[] #[])
  fields := #[]
  methods := #[k1m0, k1m1, k1m2]
  instanceTypes := #[]
  staticTypes := #[]
  resolved := Array.replicate 43 none
  statics := none }

def pool2 : Array CpInfo := pool [(7, .class_ 8), (0, u "java/util/random/RandomGenerator"), (199, .class_ 209), (0, u "java/lang/Object"), (52, .class_ 263), (0, u "java/util/random/RandomGenerator$ArbitrarilyJumpableGenerator"), (0, .class_ 265), (0, u "java/util/random/RandomGenerator$LeapableGenerator"), (0, .class_ 267), (0, u "java/util/random/RandomGenerator$JumpableGenerator"), (0, .class_ 269), (0, u "java/util/random/RandomGenerator$SplittableGenerator"), (0, .class_ 271), (0, u "java/util/random/RandomGenerator$StreamableGenerator")] 36

/-- java/util/random/RandomGenerator -/
def k2 : Class := { plain "java/util/random/RandomGenerator" (some 0) with
  accessFlags := 1537
  interfaces := #[]
  cf := some (fileOf pool2 7 #[.nestMembers #[262, 264, 266, 268, 270]] #[] 1537 208 #[] #[])
  fields := #[]
  methods := #[]
  instanceTypes := #[]
  staticTypes := #[]
  resolved := Array.replicate 308 none
  statics := none }

def pool3 : Array CpInfo := pool [(1, .class_ 2), (0, u "java/io/Serializable"), (0, .class_ 4), (0, u "java/lang/Object")] 2

/-- java/io/Serializable -/
def k3 : Class := { plain "java/io/Serializable" (some 0) with
  accessFlags := 1537
  interfaces := #[]
  cf := some (fileOf pool3 1 #[] #[] 1537 3 #[] #[])
  fields := #[]
  methods := #[]
  instanceTypes := #[]
  staticTypes := #[]
  resolved := Array.replicate 7 none
  statics := none }

def pool4 : Array CpInfo := pool [(3, .methodref 4 5), (0, .class_ 6), (0, .nameAndType 7 8), (0, u "java/lang/Object"), (0, u "<init>"), (0, u "()V"), (1, .class_ 12), (1, u "com/example/forkstream/forkstream/WordGenerator"), (209, .class_ 223), (0, u "com/example/forkstream/forkstream/WordGenerator$SerialForm"), (25, .class_ 250), (0, u "java/util/random/RandomGenerator"), (0, .class_ 252), (0, u "java/io/Serializable"), (0, u "serialVersionUID"), (0, u "J"), (3, u "ENDLESS"), (0, u "REJECTED"), (0, u "FIELDS_REFUSED"), (0, u "Ljava/lang/String;")] 87

def k4c0 : Code := { maxStack := 1, maxLocals := 1, code := prog_62_method_1_code, exceptionTable := #[], attributes := #[] }
def k4m0 : Method := { name := "<init>", desc := "()V", sig := { parameters := [], returnType := none }, accessFlags := 0, code := some k4c0 }
/-- com/example/forkstream/forkstream/WordGenerator -/
def k4 : Class := { plain "com/example/forkstream/forkstream/WordGenerator" (some 0) with
  accessFlags := 1057
  interfaces := #[2, 3]
  cf := some (fileOf pool4 10 #[.nestMembers #[222]] #[{ accessFlags := 0, nameIndex := 7, descriptorIndex := 8, attributes := #[] }] 1057 4 #[249, 251] #[{ accessFlags := 26, nameIndex := 253, descriptorIndex := 254, attributes := #[] }, { accessFlags := 24, nameIndex := 258, descriptorIndex := 254, attributes := #[] }, { accessFlags := 24, nameIndex := 259, descriptorIndex := 254, attributes := #[] }, { accessFlags := 26, nameIndex := 260, descriptorIndex := 261, attributes := #[] }])
  fields := #[{ name := "serialVersionUID", type := .long, accessFlags := 26, slot := 0, constantValue := 0 }, { name := "ENDLESS", type := .long, accessFlags := 24, slot := 1, constantValue := 0 }, { name := "REJECTED", type := .long, accessFlags := 24, slot := 2, constantValue := 0 }, { name := "FIELDS_REFUSED", type := (.object "java/lang/String"), accessFlags := 26, slot := 3, constantValue := 0 }]
  methods := #[k4m0]
  instanceTypes := #[]
  staticTypes := #[.long, .long, .long, (.object "java/lang/String")]
  resolved := Array.replicate 349 none
  statics := none }

def pool5 : Array CpInfo := pool [(7, .class_ 8), (0, u "java/util/random/RandomGenerator$StreamableGenerator"), (22, .class_ 32), (0, u "java/lang/Object"), (0, .class_ 34), (0, u "java/util/random/RandomGenerator")] 18

/-- java/util/random/RandomGenerator$StreamableGenerator -/
def k5 : Class := { plain "java/util/random/RandomGenerator$StreamableGenerator" (some 0) with
  accessFlags := 1537
  interfaces := #[2]
  cf := some (fileOf pool5 7 #[.nestHost 33] #[] 1537 31 #[33] #[])
  fields := #[]
  methods := #[]
  instanceTypes := #[]
  staticTypes := #[]
  resolved := Array.replicate 53 none
  statics := none }

def pool6 : Array CpInfo := pool [(7, .class_ 8), (0, u "java/util/random/RandomGenerator$SplittableGenerator"), (27, .class_ 37), (0, u "java/lang/Object"), (0, .class_ 39), (0, u "java/util/random/RandomGenerator$StreamableGenerator"), (29, .class_ 70), (0, u "java/util/random/RandomGenerator")] 24

/-- java/util/random/RandomGenerator$SplittableGenerator -/
def k6 : Class := { plain "java/util/random/RandomGenerator$SplittableGenerator" (some 0) with
  accessFlags := 1537
  interfaces := #[5]
  cf := some (fileOf pool6 7 #[.nestHost 69] #[] 1537 36 #[38] #[])
  fields := #[]
  methods := #[]
  instanceTypes := #[]
  staticTypes := #[]
  resolved := Array.replicate 95 none
  statics := none }

def pool7 : Array CpInfo := pool [(1, .methodref 2 3), (0, .class_ 4), (0, .nameAndType 5 6), (0, u "com/example/forkstream/forkstream/WordGenerator"), (0, u "<init>"), (0, u "()V"), (3, .class_ 12), (1, u "com/example/forkstream/forkstream/SplittableWordGenerator"), (14, .class_ 28), (0, u "java/util/random/RandomGenerator$SplittableGenerator"), (16, u "serialVersionUID"), (0, u "J")] 28

def k7c0 : Code := { maxStack := 1, maxLocals := 1, code := prog_40_method_1_code, exceptionTable := #[], attributes := #[] }
def k7m0 : Method := { name := "<init>", desc := "()V", sig := { parameters := [], returnType := none }, accessFlags := 0, code := some k7c0 }
/-- com/example/forkstream/forkstream/SplittableWordGenerator -/
def k7 : Class := { plain "com/example/forkstream/forkstream/SplittableWordGenerator" (some 4) with
  accessFlags := 1057
  interfaces := #[6]
  cf := some (fileOf pool7 10 #[] #[{ accessFlags := 0, nameIndex := 5, descriptorIndex := 6, attributes := #[] }] 1057 2 #[27] #[{ accessFlags := 26, nameIndex := 45, descriptorIndex := 46, attributes := #[] }])
  fields := #[{ name := "serialVersionUID", type := .long, accessFlags := 26, slot := 0, constantValue := 0 }]
  methods := #[k7m0]
  instanceTypes := #[]
  staticTypes := #[.long]
  resolved := Array.replicate 75 none
  statics := none }

def pool8 : Array CpInfo := pool [(1, .methodref 2 3), (0, .class_ 4), (0, .nameAndType 5 6), (0, u "com/example/forkstream/forkstream/SplittableWordGenerator"), (0, u "<init>"), (0, u "()V"), (0, .fieldref 8 9), (0, .class_ 10), (0, .nameAndType 11 12), (0, u "com/example/forkstream/forkstream/TwinLinear"), (0, u "s1"), (0, u "J"), (0, .fieldref 8 14), (0, .nameAndType 15 12), (0, u "s2"), (0, .fieldref 8 17), (0, .nameAndType 18 12), (0, u "g1"), (0, .fieldref 8 20), (0, .nameAndType 21 12), (0, u "g2"), (18, u "nextLong"), (0, u "()J"), (2, u "(JJJJ)V"), (12, .long 2685821657736338717), (1, .methodref 8 60), (0, .nameAndType 61 62), (0, u "mix"), (0, u "(JJJ)J"), (0, .methodref 8 64), (0, .nameAndType 65 6), (0, u "step"), (0, .methodref 8 67), (0, .nameAndType 68 69), (0, u "fold"), (0, u "(JJ)J"), (0, .methodref 8 71), (0, .nameAndType 72 73), (0, u "turn"), (0, u "(J)J"), (0, .methodref 8 75), (0, .nameAndType 76 62), (0, u "turned"), (0, .methodref 78 79), (0, .class_ 80), (0, .nameAndType 81 82), (0, u "java/lang/Long"), (0, u "rotateLeft"), (0, u "(JI)J"), (0, .long 3202034522624059733), (1, .methodref 8 86), (0, .nameAndType 87 62), (0, u "stepped"), (0, .long 3935559000370003845), (1, .class_ 91), (0, u "com/example/forkstream/forkstream/TwinLinear$Block"), (21, u "LOOP_MULTIPLIERS"), (0, u "[J"), (71, u "serialVersionUID"), (3, u "MULTIPLIER1"), (0, u "MULTIPLIER2"), (0, u "MIX_MULTIPLIER"), (5, u "stateWords"), (0, u "()[J")] 30

def k8c0 : Code := { maxStack := 5, maxLocals := 9, code := prog_50_method_1_code, exceptionTable := #[], attributes := #[] }
def k8m0 : Method := { name := "<init>", desc := "(JJJJ)V", sig := { parameters := [.long, .long, .long, .long], returnType := none }, accessFlags := 1, code := some k8c0 }
def k8m1 : Method := { name := "<init>", desc := "()V", sig := { parameters := [], returnType := none }, accessFlags := 1, code := none }
def k8c2 : Code := { maxStack := 5, maxLocals := 1, code := prog_50_method_7_code, exceptionTable := #[], attributes := #[] }
def k8m2 : Method := { name := "stateWords", desc := "()[J", sig := { parameters := [], returnType := some (.array .long) }, accessFlags := 0, code := some k8c2 }
def k8c3 : Code := { maxStack := 6, maxLocals := 3, code := prog_50_method_8_code, exceptionTable := #[], attributes := #[] }
def k8m3 : Method := { name := "nextLong", desc := "()J", sig := { parameters := [], returnType := some .long }, accessFlags := 1, code := some k8c3 }
def k8c4 : Code := { maxStack := 6, maxLocals := 6, code := prog_50_method_10_code, exceptionTable := #[], attributes := #[] }
def k8m4 : Method := { name := "mix", desc := "(JJJ)J", sig := { parameters := [.long, .long, .long], returnType := some .long }, accessFlags := 10, code := some k8c4 }
def k8c5 : Code := { maxStack := 4, maxLocals := 4, code := prog_50_method_11_code, exceptionTable := #[], attributes := #[] }
def k8m5 : Method := { name := "fold", desc := "(JJ)J", sig := { parameters := [.long, .long], returnType := some .long }, accessFlags := 10, code := some k8c5 }
def k8c6 : Code := { maxStack := 3, maxLocals := 2, code := prog_50_method_12_code, exceptionTable := #[], attributes := #[] }
def k8m6 : Method := { name := "turn", desc := "(J)J", sig := { parameters := [.long], returnType := some .long }, accessFlags := 10, code := some k8c6 }
def k8c7 : Code := { maxStack := 4, maxLocals := 6, code := prog_50_method_13_code, exceptionTable := #[], attributes := #[] }
def k8m7 : Method := { name := "turned", desc := "(JJJ)J", sig := { parameters := [.long, .long, .long], returnType := some .long }, accessFlags := 10, code := some k8c7 }
def k8c8 : Code := { maxStack := 7, maxLocals := 1, code := prog_50_method_14_code, exceptionTable := #[], attributes := #[] }
def k8m8 : Method := { name := "step", desc := "()V", sig := { parameters := [], returnType := none }, accessFlags := 2, code := some k8c8 }
def k8c9 : Code := { maxStack := 4, maxLocals := 6, code := prog_50_method_15_code, exceptionTable := #[], attributes := #[] }
def k8m9 : Method := { name := "stepped", desc := "(JJJ)J", sig := { parameters := [.long, .long, .long], returnType := some .long }, accessFlags := 10, code := some k8c9 }
/-- com/example/forkstream/forkstream/TwinLinear -/
def k8 : Class := { plain "com/example/forkstream/forkstream/TwinLinear" (some 7) with
  accessFlags := 49
  interfaces := #[]
  cf := some (fileOf pool8 8 #[.nestMembers #[90]] #[{ accessFlags := 1, nameIndex := 5, descriptorIndex := 44, attributes := #[] }, { accessFlags := 1, nameIndex := 5, descriptorIndex := 6, attributes := #[] }, { accessFlags := 0, nameIndex := 198, descriptorIndex := 199, attributes := #[] }, { accessFlags := 1, nameIndex := 40, descriptorIndex := 41, attributes := #[] }, { accessFlags := 10, nameIndex := 61, descriptorIndex := 62, attributes := #[] }, { accessFlags := 10, nameIndex := 68, descriptorIndex := 69, attributes := #[] }, { accessFlags := 10, nameIndex := 72, descriptorIndex := 73, attributes := #[] }, { accessFlags := 10, nameIndex := 76, descriptorIndex := 62, attributes := #[] }, { accessFlags := 2, nameIndex := 65, descriptorIndex := 6, attributes := #[] }, { accessFlags := 10, nameIndex := 87, descriptorIndex := 62, attributes := #[] }] 49 2 #[] #[{ accessFlags := 26, nameIndex := 186, descriptorIndex := 12, attributes := #[] }, { accessFlags := 26, nameIndex := 190, descriptorIndex := 12, attributes := #[] }, { accessFlags := 26, nameIndex := 191, descriptorIndex := 12, attributes := #[] }, { accessFlags := 26, nameIndex := 192, descriptorIndex := 12, attributes := #[] }, { accessFlags := 26, nameIndex := 113, descriptorIndex := 114, attributes := #[] }, { accessFlags := 2, nameIndex := 11, descriptorIndex := 12, attributes := #[] }, { accessFlags := 2, nameIndex := 15, descriptorIndex := 12, attributes := #[] }, { accessFlags := 18, nameIndex := 18, descriptorIndex := 12, attributes := #[] }, { accessFlags := 18, nameIndex := 21, descriptorIndex := 12, attributes := #[] }])
  fields := #[{ name := "serialVersionUID", type := .long, accessFlags := 26, slot := 0, constantValue := 0 }, { name := "MULTIPLIER1", type := .long, accessFlags := 26, slot := 1, constantValue := 0 }, { name := "MULTIPLIER2", type := .long, accessFlags := 26, slot := 2, constantValue := 0 }, { name := "MIX_MULTIPLIER", type := .long, accessFlags := 26, slot := 3, constantValue := 0 }, { name := "LOOP_MULTIPLIERS", type := (.array .long), accessFlags := 26, slot := 4, constantValue := 0 }, { name := "s1", type := .long, accessFlags := 2, slot := 0, constantValue := 0 }, { name := "s2", type := .long, accessFlags := 2, slot := 1, constantValue := 0 }, { name := "g1", type := .long, accessFlags := 18, slot := 2, constantValue := 0 }, { name := "g2", type := .long, accessFlags := 18, slot := 3, constantValue := 0 }]
  methods := #[k8m0, k8m1, k8m2, k8m3, k8m4, k8m5, k8m6, k8m7, k8m8, k8m9]
  instanceTypes := #[.long, .long, .long, .long]
  staticTypes := #[.long, .long, .long, .long, (.array .long)]
  resolved := Array.replicate 230 none
  statics := none }

def pool9 : Array CpInfo := pool [(2, .class_ 4), (1, u "java/lang/Object"), (0, u "<init>"), (0, u "()V"), (1, .class_ 10), (1, u "java/lang/Number"), (2, .class_ 14), (0, u "java/io/Serializable"), (0, u "serialVersionUID"), (0, u "J")] 20

def k9m0 : Method := { name := "<init>", desc := "()V", sig := { parameters := [], returnType := none }, accessFlags := 1, code := none }
/-- java/lang/Number -/
def k9 : Class := { plain "java/lang/Number" (some 0) with
  accessFlags := 1057
  interfaces := #[3]
  cf := some (fileOf pool9 8 #[] #[{ accessFlags := 1, nameIndex := 5, descriptorIndex := 6, attributes := #[] }] 1057 2 #[13] #[{ accessFlags := 26, nameIndex := 15, descriptorIndex := 16, attributes := #[] }])
  fields := #[{ name := "serialVersionUID", type := .long, accessFlags := 26, slot := 0, constantValue := 0 }]
  methods := #[k9m0]
  instanceTypes := #[]
  staticTypes := #[.long]
  resolved := Array.replicate 37 none
  statics := none }

def pool10 : Array CpInfo := pool [(1, .class_ 2), (0, u "java/lang/Comparable"), (0, .class_ 4), (0, u "java/lang/Object")] 7

/-- java/lang/Comparable -/
def k10 : Class := { plain "java/lang/Comparable" (some 0) with
  accessFlags := 1537
  interfaces := #[]
  cf := some (fileOf pool10 1 #[] #[] 1537 3 #[] #[])
  fields := #[]
  methods := #[]
  instanceTypes := #[]
  staticTypes := #[]
  resolved := Array.replicate 12 none
  statics := none }

def pool11 : Array CpInfo := pool [(1, .class_ 2), (0, u "java/lang/constant/Constable"), (0, .class_ 4), (0, u "java/lang/Object")] 6

/-- java/lang/constant/Constable -/
def k11 : Class := { plain "java/lang/constant/Constable" (some 0) with
  accessFlags := 1537
  interfaces := #[]
  cf := some (fileOf pool11 1 #[] #[] 1537 3 #[] #[])
  fields := #[]
  methods := #[]
  instanceTypes := #[]
  staticTypes := #[]
  resolved := Array.replicate 11 none
  statics := none }

def pool12 : Array CpInfo := pool [(1, .class_ 2), (0, u "java/lang/constant/ConstantDesc"), (0, .class_ 4), (0, u "java/lang/Object")] 32

/-- java/lang/constant/ConstantDesc -/
def k12 : Class := { plain "java/lang/constant/ConstantDesc" (some 0) with
  accessFlags := 1537
  interfaces := #[]
  cf := some (fileOf pool12 1 #[] #[] 1537 3 #[] #[])
  fields := #[]
  methods := #[]
  instanceTypes := #[]
  staticTypes := #[]
  resolved := Array.replicate 37 none
  statics := none }

def pool13 : Array CpInfo := pool [(1, .class_ 2), (0, u "java/lang/Long"), (232, .class_ 237), (1, u "java/lang/Long$LongCache"), (33, .class_ 272), (0, u "java/lang/Number"), (2, u "value"), (0, u "J"), (84, u "TYPE"), (0, u "Ljava/lang/Class;"), (0, .class_ 364), (0, u "java/lang/Comparable"), (0, .class_ 366), (0, u "java/lang/constant/Constable"), (0, .class_ 368), (0, u "java/lang/constant/ConstantDesc"), (0, u "MIN_VALUE"), (1, u "MAX_VALUE"), (4, u "SIZE"), (0, u "I"), (1, u "BYTES"), (1, u "serialVersionUID"), (95, u "rotateLeft"), (0, u "(JI)J")] 45

def k13c0 : Code := { maxStack := 5, maxLocals := 3, code := jdk_35_method_51_code, exceptionTable := #[], attributes := #[] }
def k13m0 : Method := { name := "rotateLeft", desc := "(JI)J", sig := { parameters := [.long, .int], returnType := some .long }, accessFlags := 9, code := some k13c0 }
/-- java/lang/Long -/
def k13 : Class := { plain "java/lang/Long" (some 9) with
  accessFlags := 49
  interfaces := #[10, 11, 12]
  cf := some (fileOf pool13 1 #[.nestMembers #[235]] #[{ accessFlags := 9, nameIndex := 477, descriptorIndex := 478, attributes := #[] }] 49 271 #[363, 365, 367] #[{ accessFlags := 25, nameIndex := 369, descriptorIndex := 276, attributes := #[] }, { accessFlags := 25, nameIndex := 371, descriptorIndex := 276, attributes := #[] }, { accessFlags := 25, nameIndex := 361, descriptorIndex := 362, attributes := #[] }, { accessFlags := 18, nameIndex := 275, descriptorIndex := 276, attributes := #[] }, { accessFlags := 25, nameIndex := 376, descriptorIndex := 377, attributes := #[] }, { accessFlags := 25, nameIndex := 379, descriptorIndex := 377, attributes := #[] }, { accessFlags := 26, nameIndex := 381, descriptorIndex := 276, attributes := #[] }])
  fields := #[{ name := "MIN_VALUE", type := .long, accessFlags := 25, slot := 0, constantValue := 0 }, { name := "MAX_VALUE", type := .long, accessFlags := 25, slot := 1, constantValue := 0 }, { name := "TYPE", type := (.object "java/lang/Class"), accessFlags := 25, slot := 2, constantValue := 0 }, { name := "value", type := .long, accessFlags := 18, slot := 0, constantValue := 0 }, { name := "SIZE", type := .int, accessFlags := 25, slot := 3, constantValue := 0 }, { name := "BYTES", type := .int, accessFlags := 25, slot := 4, constantValue := 0 }, { name := "serialVersionUID", type := .long, accessFlags := 26, slot := 5, constantValue := 0 }]
  methods := #[k13m0]
  instanceTypes := #[.long]
  staticTypes := #[.long, .long, (.object "java/lang/Class"), .int, .int, .long]
  resolved := Array.replicate 524 none
  statics := none }

def pool14 : Array CpInfo := pool [(1, u "java/lang/Cloneable"), (0, .class_ 1), (0, u "java/lang/Object"), (0, .class_ 3)] 3

/-- java/lang/Cloneable -/
def k14 : Class := { plain "java/lang/Cloneable" (some 0) with
  accessFlags := 1537
  interfaces := #[]
  cf := some (fileOf pool14 2 #[] #[] 1537 4 #[] #[])
  fields := #[]
  methods := #[]
  instanceTypes := #[]
  staticTypes := #[]
  resolved := Array.replicate 8 none
  statics := none }

/-- the primitive byte -/
def k15 : Class := { plain "byte" none with kind := .primitive 'B', accessFlags := 0x411 }
/-- [B -/
def k16 : Class := { plain "[B" (some 0) with kind := .array 15 .byte, interfaces := #[14, 3], accessFlags := 1041 }

/-- the primitive int -/
def k17 : Class := { plain "int" none with kind := .primitive 'I', accessFlags := 0x411 }
/-- [I -/
def k18 : Class := { plain "[I" (some 0) with kind := .array 17 .int, interfaces := #[14, 3], accessFlags := 1041 }

/-- the primitive long -/
def k19 : Class := { plain "long" none with kind := .primitive 'J', accessFlags := 0x411 }
/-- [J -/
def k20 : Class := { plain "[J" (some 0) with kind := .array 19 .long, interfaces := #[14, 3], accessFlags := 1041 }

def heap : Heap := #[]
def classes : Array Class := #[k0, k1, k2, k3, k4, k5, k6, k7, k8, k9, k10, k11, k12, k13, k14, k15, k16, k17, k18, k19, k20]
def interned : List (Array UInt16 × Addr) := []
def slotsUsed : Nat := 0
def theMethod : MethodId := ⟨1, 2⟩
def args0 : Array Value := #[.long 7, .long 7, .long 7, .long 7, .int 5]
def aboutOver (below : List Frame) : State where
  vm := { classes := classes, interned := interned.toArray }
  heap := heap
  slotsUsed := slotsUsed
  threads := #[{ frames := .invoking theMethod args0 :: below }]
def below0 : List Frame := [.native { method := ⟨0, 0⟩, args := #[] }]
def about1 : State := aboutOver below0
def p0 : Program := .bare "" "" ""
def e0 : Env := launch0.env 0 0 0
theorem w_frames : about1.frames = Frame.invoking theMethod args0 :: below0 := rfl
set_option maxRecDepth 65536 in
theorem w_args : argsFit about1.vm theMethod args0 = true := by decide +kernel
set_option maxRecDepth 65536 in
theorem w_heap : heapFits about1 = true := by decide +kernel
set_option maxRecDepth 65536 in
theorem w_runnable : about1.curStatus? = some .runnable := by decide +kernel
set_option maxRecDepth 65536 in
theorem w_alone : about1.alone = true := by decide +kernel
set_option maxRecDepth 65536 in
theorem w_named : about1.methodNamed? x = some theMethod := by decide +kernel
set_option maxRecDepth 65536 in
theorem w_hears : about1.hears theMethod below0 = true := by decide +kernel
set_option maxRecDepth 65536 in
theorem w_ripe : about1.ripe theMethod args0 below0 = true := by decide +kernel
theorem w_running : about1.status = .running := rfl
set_option maxRecDepth 65536 in
theorem w_room : about1.hasRoom e0.platform room_1 = true :=
  launch0.hasRoom_least _ room_1 (by decide +kernel) (by decide +kernel) (by decide +kernel) (by decide +kernel) (by decide +kernel) (by decide +kernel)
theorem allAtoms_all (ts : List Jvm.Cond) (a : Array Jvm.Value) (st : Jvm.State) : (allAtoms ts).before a st = ts.all (fun c => c.before a st) := by
  induction ts with
  | nil => rfl
  | cons c t ih =>
    show (Jvm.Cond.and c (allAtoms t)).before a st = _
    rw [Jvm.Cond.before_and, ih, List.all_cons]
def words1 : List Jvm.Cond := Jvm.Cond.code x code maxLocals ret :: tables_1
/-- a 'code' word, met by the world's own term for the bytes: nothing is compared byte by byte -/
theorem code_word {y : MethodName} {bytes : ByteArray} {mx : Nat} {rt : Option FieldType} {a : Array Value} {s : State} {m : MethodId} {meth : Method} {c : Code} (h1 : s.methodNamed? y = some m) (h2 : s.vm.method? m = some meth) (h3 : meth.code = some c) (h4 : c.code = bytes)
    (h5 : (c.maxLocals == mx && c.exceptionTable.isEmpty && decide (c.maxStack ≤ mostOperands) && decide (meth.sig.returnType = rt) && !meth.locks && decide (parseMethodDescriptor y.desc = some meth.sig)) = true) : (Jvm.Cond.code y bytes mx rt).before a s = true := by
  simp only [Bool.and_eq_true, beq_iff_eq, Bool.not_eq_true', decide_eq_true_eq] at h5
  obtain ⟨⟨⟨⟨⟨g1, g2⟩, g3⟩, g4⟩, g5⟩, g6⟩ := h5
  simp [Cond.before, Cond.holds, Cond.value, h1, h2, h3, h4, g1, g2, g3, g4, g5, g6]
def isCode : Jvm.Cond → Bool
  | .code _ _ _ _ => true
  | _ => false
theorem all_split {L : List Jvm.Cond} {P : Jvm.Cond → Bool} (h1 : L.all (fun c => isCode c || P c) = true) (h2 : ∀ c ∈ L.filter isCode, P c = true) : L.all P = true := by
  refine List.all_eq_true.mpr fun c hc => ?_
  have h := List.all_eq_true.mp h1 c hc
  rcases Bool.eq_false_or_eq_true (isCode c) with hi | hi
  · exact h2 c (List.mem_filter.mpr ⟨hc, hi⟩)
  · simpa [hi] using h
set_option maxRecDepth 65536 in
theorem w_c0 : (Jvm.Cond.code x code maxLocals ret).before args0 about1 = true := code_word (m := ⟨1, 2⟩) (meth := k1m2) (c := k1c2) (by decide +kernel) rfl rfl rfl (by decide +kernel)
set_option maxRecDepth 65536 in
theorem w_c1 : (Jvm.Cond.code ({ cls := "com/example/forkstream/forkstream/TwinLinear", name := "<init>", desc := "(JJJJ)V" } : Jvm.MethodName) prog_50_method_1_code (9 : Nat) (Option.none : Option Jvm.ClassFile.FieldType)).before args0 about1 = true := code_word (m := ⟨8, 0⟩) (meth := k8m0) (c := k8c0) (by decide +kernel) rfl rfl rfl (by decide +kernel)
set_option maxRecDepth 65536 in
theorem w_c2 : (Jvm.Cond.code ({ cls := "com/example/forkstream/forkstream/SplittableWordGenerator", name := "<init>", desc := "()V" } : Jvm.MethodName) prog_40_method_1_code (1 : Nat) (Option.none : Option Jvm.ClassFile.FieldType)).before args0 about1 = true := code_word (m := ⟨7, 0⟩) (meth := k7m0) (c := k7c0) (by decide +kernel) rfl rfl rfl (by decide +kernel)
set_option maxRecDepth 65536 in
theorem w_c3 : (Jvm.Cond.code ({ cls := "com/example/forkstream/forkstream/WordGenerator", name := "<init>", desc := "()V" } : Jvm.MethodName) prog_62_method_1_code (1 : Nat) (Option.none : Option Jvm.ClassFile.FieldType)).before args0 about1 = true := code_word (m := ⟨4, 0⟩) (meth := k4m0) (c := k4c0) (by decide +kernel) rfl rfl rfl (by decide +kernel)
set_option maxRecDepth 65536 in
theorem w_c4 : (Jvm.Cond.code ({ cls := "java/lang/Object", name := "<init>", desc := "()V" } : Jvm.MethodName) object_method_1_code (1 : Nat) (Option.none : Option Jvm.ClassFile.FieldType)).before args0 about1 = true := code_word (m := ⟨0, 0⟩) (meth := k0m0) (c := k0c0) (by decide +kernel) rfl rfl rfl (by decide +kernel)
set_option maxRecDepth 65536 in
theorem w_c5 : (Jvm.Cond.code ({ cls := "com/example/forkstream/forkstream/TwinLinear", name := "stateWords", desc := "()[J" } : Jvm.MethodName) prog_50_method_7_code (1 : Nat) (Option.some (Jvm.ClassFile.FieldType.array Jvm.ClassFile.FieldType.long))).before args0 about1 = true := code_word (m := ⟨8, 2⟩) (meth := k8m2) (c := k8c2) (by decide +kernel) rfl rfl rfl (by decide +kernel)
set_option maxRecDepth 65536 in
theorem w_c6 : (Jvm.Cond.code ({ cls := "com/example/forkstream/forkstream/TwinLinearStateWordsPinLaw", name := "words", desc := "([JJJJJ)Z" } : Jvm.MethodName) method_2_code (9 : Nat) (Option.some Jvm.ClassFile.FieldType.boolean)).before args0 about1 = true := code_word (m := ⟨1, 1⟩) (meth := k1m1) (c := k1c1) (by decide +kernel) rfl rfl rfl (by decide +kernel)
set_option maxRecDepth 65536 in
theorem w_c7 : (Jvm.Cond.code ({ cls := "com/example/forkstream/forkstream/TwinLinear", name := "nextLong", desc := "()J" } : Jvm.MethodName) prog_50_method_8_code (3 : Nat) (Option.some Jvm.ClassFile.FieldType.long)).before args0 about1 = true := code_word (m := ⟨8, 3⟩) (meth := k8m3) (c := k8c3) (by decide +kernel) rfl rfl rfl (by decide +kernel)
set_option maxRecDepth 65536 in
theorem w_c8 : (Jvm.Cond.code ({ cls := "com/example/forkstream/forkstream/TwinLinear", name := "mix", desc := "(JJJ)J" } : Jvm.MethodName) prog_50_method_10_code (6 : Nat) (Option.some Jvm.ClassFile.FieldType.long)).before args0 about1 = true := code_word (m := ⟨8, 4⟩) (meth := k8m4) (c := k8c4) (by decide +kernel) rfl rfl rfl (by decide +kernel)
set_option maxRecDepth 65536 in
theorem w_c9 : (Jvm.Cond.code ({ cls := "com/example/forkstream/forkstream/TwinLinear", name := "fold", desc := "(JJ)J" } : Jvm.MethodName) prog_50_method_11_code (4 : Nat) (Option.some Jvm.ClassFile.FieldType.long)).before args0 about1 = true := code_word (m := ⟨8, 5⟩) (meth := k8m5) (c := k8c5) (by decide +kernel) rfl rfl rfl (by decide +kernel)
set_option maxRecDepth 65536 in
theorem w_c10 : (Jvm.Cond.code ({ cls := "java/lang/Long", name := "rotateLeft", desc := "(JI)J" } : Jvm.MethodName) jdk_35_method_51_code (3 : Nat) (Option.some Jvm.ClassFile.FieldType.long)).before args0 about1 = true := code_word (m := ⟨13, 0⟩) (meth := k13m0) (c := k13c0) (by decide +kernel) rfl rfl rfl (by decide +kernel)
set_option maxRecDepth 65536 in
theorem w_c11 : (Jvm.Cond.code ({ cls := "com/example/forkstream/forkstream/TwinLinear", name := "turn", desc := "(J)J" } : Jvm.MethodName) prog_50_method_12_code (2 : Nat) (Option.some Jvm.ClassFile.FieldType.long)).before args0 about1 = true := code_word (m := ⟨8, 6⟩) (meth := k8m6) (c := k8c6) (by decide +kernel) rfl rfl rfl (by decide +kernel)
set_option maxRecDepth 65536 in
theorem w_c12 : (Jvm.Cond.code ({ cls := "com/example/forkstream/forkstream/TwinLinear", name := "turned", desc := "(JJJ)J" } : Jvm.MethodName) prog_50_method_13_code (6 : Nat) (Option.some Jvm.ClassFile.FieldType.long)).before args0 about1 = true := code_word (m := ⟨8, 7⟩) (meth := k8m7) (c := k8c7) (by decide +kernel) rfl rfl rfl (by decide +kernel)
set_option maxRecDepth 65536 in
theorem w_c13 : (Jvm.Cond.code ({ cls := "com/example/forkstream/forkstream/TwinLinear", name := "step", desc := "()V" } : Jvm.MethodName) prog_50_method_14_code (1 : Nat) (Option.none : Option Jvm.ClassFile.FieldType)).before args0 about1 = true := code_word (m := ⟨8, 8⟩) (meth := k8m8) (c := k8c8) (by decide +kernel) rfl rfl rfl (by decide +kernel)
set_option maxRecDepth 65536 in
theorem w_c14 : (Jvm.Cond.code ({ cls := "com/example/forkstream/forkstream/TwinLinear", name := "stepped", desc := "(JJJ)J" } : Jvm.MethodName) prog_50_method_15_code (6 : Nat) (Option.some Jvm.ClassFile.FieldType.long)).before args0 about1 = true := code_word (m := ⟨8, 9⟩) (meth := k8m9) (c := k8c9) (by decide +kernel) rfl rfl rfl (by decide +kernel)
def codes1 : List Jvm.Cond := [Jvm.Cond.code x code maxLocals ret, Jvm.Cond.code ({ cls := "com/example/forkstream/forkstream/TwinLinear", name := "<init>", desc := "(JJJJ)V" } : Jvm.MethodName) prog_50_method_1_code (9 : Nat) (Option.none : Option Jvm.ClassFile.FieldType), Jvm.Cond.code ({ cls := "com/example/forkstream/forkstream/SplittableWordGenerator", name := "<init>", desc := "()V" } : Jvm.MethodName) prog_40_method_1_code (1 : Nat) (Option.none : Option Jvm.ClassFile.FieldType), Jvm.Cond.code ({ cls := "com/example/forkstream/forkstream/WordGenerator", name := "<init>", desc := "()V" } : Jvm.MethodName) prog_62_method_1_code (1 : Nat) (Option.none : Option Jvm.ClassFile.FieldType), Jvm.Cond.code ({ cls := "java/lang/Object", name := "<init>", desc := "()V" } : Jvm.MethodName) object_method_1_code (1 : Nat) (Option.none : Option Jvm.ClassFile.FieldType), Jvm.Cond.code ({ cls := "com/example/forkstream/forkstream/TwinLinear", name := "stateWords", desc := "()[J" } : Jvm.MethodName) prog_50_method_7_code (1 : Nat) (Option.some (Jvm.ClassFile.FieldType.array Jvm.ClassFile.FieldType.long)), Jvm.Cond.code ({ cls := "com/example/forkstream/forkstream/TwinLinearStateWordsPinLaw", name := "words", desc := "([JJJJJ)Z" } : Jvm.MethodName) method_2_code (9 : Nat) (Option.some Jvm.ClassFile.FieldType.boolean), Jvm.Cond.code ({ cls := "com/example/forkstream/forkstream/TwinLinear", name := "nextLong", desc := "()J" } : Jvm.MethodName) prog_50_method_8_code (3 : Nat) (Option.some Jvm.ClassFile.FieldType.long), Jvm.Cond.code ({ cls := "com/example/forkstream/forkstream/TwinLinear", name := "mix", desc := "(JJJ)J" } : Jvm.MethodName) prog_50_method_10_code (6 : Nat) (Option.some Jvm.ClassFile.FieldType.long), Jvm.Cond.code ({ cls := "com/example/forkstream/forkstream/TwinLinear", name := "fold", desc := "(JJ)J" } : Jvm.MethodName) prog_50_method_11_code (4 : Nat) (Option.some Jvm.ClassFile.FieldType.long), Jvm.Cond.code ({ cls := "java/lang/Long", name := "rotateLeft", desc := "(JI)J" } : Jvm.MethodName) jdk_35_method_51_code (3 : Nat) (Option.some Jvm.ClassFile.FieldType.long), Jvm.Cond.code ({ cls := "com/example/forkstream/forkstream/TwinLinear", name := "turn", desc := "(J)J" } : Jvm.MethodName) prog_50_method_12_code (2 : Nat) (Option.some Jvm.ClassFile.FieldType.long), Jvm.Cond.code ({ cls := "com/example/forkstream/forkstream/TwinLinear", name := "turned", desc := "(JJJ)J" } : Jvm.MethodName) prog_50_method_13_code (6 : Nat) (Option.some Jvm.ClassFile.FieldType.long), Jvm.Cond.code ({ cls := "com/example/forkstream/forkstream/TwinLinear", name := "step", desc := "()V" } : Jvm.MethodName) prog_50_method_14_code (1 : Nat) (Option.none : Option Jvm.ClassFile.FieldType), Jvm.Cond.code ({ cls := "com/example/forkstream/forkstream/TwinLinear", name := "stepped", desc := "(JJJ)J" } : Jvm.MethodName) prog_50_method_15_code (6 : Nat) (Option.some Jvm.ClassFile.FieldType.long)]
set_option maxRecDepth 65536 in
theorem codes_eq : words1.filter isCode = codes1 := rfl
theorem w_codes : ∀ c ∈ words1.filter isCode, c.before args0 about1 = true := by
  rw [codes_eq]
  intro c hc
  simp only [codes1, List.mem_cons, List.not_mem_nil, or_false] at hc
  rcases hc with rfl | rfl | rfl | rfl | rfl | rfl | rfl | rfl | rfl | rfl | rfl | rfl | rfl | rfl | rfl
  · exact w_c0
  · exact w_c1
  · exact w_c2
  · exact w_c3
  · exact w_c4
  · exact w_c5
  · exact w_c6
  · exact w_c7
  · exact w_c8
  · exact w_c9
  · exact w_c10
  · exact w_c11
  · exact w_c12
  · exact w_c13
  · exact w_c14
set_option maxRecDepth 65536 in
theorem w_t1 : (words1.take 24).all (fun c => isCode c || c.before args0 about1) = true := by decide +kernel
set_option maxRecDepth 65536 in
theorem w_t2 : ((words1.drop 24).take 24).all (fun c => isCode c || c.before args0 about1) = true := by decide +kernel
set_option maxRecDepth 65536 in
theorem w_t3 : (((words1.drop 24).drop 24).take 24).all (fun c => isCode c || c.before args0 about1) = true := by decide +kernel
set_option maxRecDepth 65536 in
theorem w_t4 : (((words1.drop 24).drop 24).drop 24).all (fun c => isCode c || c.before args0 about1) = true := by decide +kernel
theorem w_tables : (allAtoms (Jvm.Cond.code x code maxLocals ret :: tables_1)).before args0 about1 = true := by
  rw [allAtoms_all]
  show words1.all (fun c => c.before args0 about1) = true
  refine all_split ?_ w_codes
  rw [← List.take_append_drop 24 words1, List.all_append, w_t1, ← List.take_append_drop 24 (words1.drop 24), List.all_append, w_t2, ← List.take_append_drop 24 ((words1.drop 24).drop 24), List.all_append, w_t3, w_t4]
  rfl
set_option maxRecDepth 65536 in
theorem w_case : (Jvm.Cond.and given_1 narrow_1).before args0 about1 = true := by decide +kernel
theorem w_applies : (headSpec (Jvm.Cond.code x code maxLocals ret :: tables_1) room_1).applies x e0.platform about1 = true :=
  (Spec.applies_iff w_frames).mpr ⟨w_running, w_runnable, w_alone, w_named, w_hears, w_ripe, w_room, w_tables⟩
theorem atStart : AtStart classFile x code maxLocals ret World_1 tables_1 room_1 Calls_1 rest_1 Pre_1 launch0 p0 e0 about1 theMethod args0 below0 :=
  ⟨lists_1, trivial, launch0.admits_env _ _ _, launch0.least_env, fairChoices_fair.cas, fairChoices_fair.clock, w_frames, w_args, w_heap, w_applies, trivial, trivial, w_case⟩
end start1
theorem witness_1 : WitnessClaimed_1 := ⟨start1.p0, start1.e0, start1.about1, start1.theMethod, start1.args0, start1.below0, start1.atStart⟩
end Jvm.Pilot.@@N@@
