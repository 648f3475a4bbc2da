import JvmDerived
import JvmDerived.Pilot.@@N@@Statement
import JvmDerived.Pilot.@@N@@Code
set_option linter.unusedVariables false
set_option linter.unusedSimpArgs false
namespace Jvm.Pilot.@@N@@
open Jvm Jvm.ClassFile Sem Op Lib Jvm.Free Jvm.Stand Jvm.LawKit Jvm.RoadKit Bundle Jvm.Pilot.@@N@@.Jvm.D
/-- what is left of a walk: from the frame g on, the run ends as K says -/
def own_G (p : Program) (e : Env) (below : List Frame) (s : State) (K : Option Value → Heap → List Loc → Prop) (nc ns : Nat) (T : State) (g : JFrame) : Prop :=
  ∃ s₂ o, Steps p.tables e below (T.setTop g) s₂ ∧ s₂.status = .running ∧ Ended s₂ below o ∧ ∃ v L, o = .returned v ∧ K v s₂.heap L ∧ FrameEnd s o s₂ L nc ns
section Own
variable {p : Program} {l : Launch} {e : Env} {R : Room} {s : State} {m : MethodId} {args : Array Value} {below : List Frame} {meth : Method} {c : Code} {T T' : State} {locs : List Loc} {cells slots : Nat} {K : Option Value → Heap → List Loc → Prop} {nc ns : Nat} {g g' : JFrame}
theorem own_s (h : ∀ t, Steps p.tables e below (T'.setTop g') t → Steps p.tables e below (T.setTop g) t) (k : own_G p e below s K nc ns T' g') : own_G p e below s K nc ns T g := by
  obtain ⟨s₂, o, h1, r⟩ := k
  exact ⟨s₂, o, h _ h1, r⟩
theorem own_trans (h : Steps p.tables e below (T.setTop g) (T'.setTop g')) (k : own_G p e below s K nc ns T' g') : own_G p e below s K nc ns T g := by
  obtain ⟨s₂, o, h1, r⟩ := k
  exact ⟨s₂, o, h.trans h1, r⟩
theorem own_cast (q : g = g') (k : own_G p e below s K nc ns T g') : own_G p e below s K nc ns T g := q ▸ k
theorem own_leave (X : Stand p l e R s m args below meth c T locs cells slots) {v : Option Value} (hlk : meth.locks = false) (hv : meth.sig.returnType = none → v = none) (hc : cells ≤ nc) (hn : slots ≤ ns) (hq : K v T.heap locs)
    (st : ∀ fs, (∀ (f : JFrame) (acts : List Action), f.method = m → f.locked = none → f.entered = [] → (doReturn e (T.setTop f) acts v).1 = T.setFrames fs) → Steps p.tables e below (T.setTop g) (T.setFrames fs)) : own_G p e below s K nc ns T g := by
  obtain ⟨fs, hr, hrun, hended, hW, hsame⟩ := X.leave (v := v) hv hlk
  exact ⟨_, _, st fs hr, hrun, hended, _, _, rfl, hq, ⟨_, rfl⟩, hW, hsame.mono hc hn⟩
theorem own_retN (X : Stand p l e R s m args below meth c T locs cells slots) (hx : p.tables.exec = Jvm.exec) (hlk : meth.locks = false) {pc : Nat} {Ls : Array Slot} {z z' : Int32} {t : FieldType} {rest : List Value} (hret : meth.sig.returnType = some t) (ht : t = .boolean ∨ t = .byte ∨ t = .char ∨ t = .short)
    (hd : decode c.code pc = .ok (.ireturn, 1)) (hz : nar t z = z') (hc : cells ≤ nc) (hn : slots ≤ ns) (hq : K (some (.int z')) T.heap locs) : own_G p e below s K nc ns T (mkF m pc Ls (.int z :: rest)) := by
  subst hz
  exact own_leave X hlk (fun h => by rw [hret] at h; cases h) hc hn hq fun fs hr => retN X hx hret ht hd hr
theorem own_retI (X : Stand p l e R s m args below meth c T locs cells slots) (hx : p.tables.exec = Jvm.exec) (hlk : meth.locks = false) {pc : Nat} {Ls : Array Slot} {z : Int32} {rest : List Value} (hret : meth.sig.returnType = some .int)
    (hd : decode c.code pc = .ok (.ireturn, 1)) (hc : cells ≤ nc) (hn : slots ≤ ns) (hq : K (some (.int z)) T.heap locs) : own_G p e below s K nc ns T (mkF m pc Ls (.int z :: rest)) :=
  own_leave X hlk (fun h => by rw [hret] at h; cases h) hc hn hq fun fs hr => retOut X hx hret rfl (Or.inl ⟨rfl, Or.inl rfl, _, rfl⟩) hd hr
theorem own_retJ (X : Stand p l e R s m args below meth c T locs cells slots) (hx : p.tables.exec = Jvm.exec) (hlk : meth.locks = false) {pc : Nat} {Ls : Array Slot} {z : Int64} {rest : List Value} (hret : meth.sig.returnType = some .long)
    (hd : decode c.code pc = .ok (.lreturn, 1)) (hc : cells ≤ nc) (hn : slots ≤ ns) (hq : K (some (.long z)) T.heap locs) : own_G p e below s K nc ns T (mkF m pc Ls (.long z :: rest)) :=
  own_leave X hlk (fun h => by rw [hret] at h; cases h) hc hn hq fun fs hr => retOut X hx hret rfl (Or.inr (Or.inl ⟨rfl, rfl, _, rfl⟩)) hd hr
theorem own_retR (X : Stand p l e R s m args below meth c T locs cells slots) (hx : p.tables.exec = Jvm.exec) (hlk : meth.locks = false) {pc : Nat} {Ls : Array Slot} {v : Value} {t : FieldType} {rest : List Value} (hret : meth.sig.returnType = some t) (ht : t.isReference = true) (hv : v.isRef = true) (hnv : narrow t v = v)
    (hd : decode c.code pc = .ok (.areturn, 1)) (hc : cells ≤ nc) (hn : slots ≤ ns) (hq : K (some v) T.heap locs) : own_G p e below s K nc ns T (mkF m pc Ls (v :: rest)) :=
  own_leave X hlk (fun h => by rw [hret] at h; cases h) hc hn hq fun fs hr => retOut X hx hret hnv (Or.inr (Or.inr (Or.inr (Or.inr ⟨rfl, ht, hv⟩)))) hd hr
theorem own_retV (X : Stand p l e R s m args below meth c T locs cells slots) (hx : p.tables.exec = Jvm.exec) (hlk : meth.locks = false) {pc : Nat} {Ls : Array Slot} (hret : meth.sig.returnType = none)
    (hd : decode c.code pc = .ok (.return_, 1)) (hc : cells ≤ nc) (hn : slots ≤ ns) (hq : K none T.heap locs) : own_G p e below s K nc ns T (mkF m pc Ls []) :=
  own_leave X hlk (fun _ => rfl) hc hn hq fun fs hr => X.returnOut hx hret hd hr
theorem own_selp {s : State} {args : Array Value} {y : MethodName} {n : Nat} (wi : (Jvm.Cond.instantiable y.cls n).before args s = true) (hp : (Jvm.Cond.privateMethod y).before args s = true) (hi : (Jvm.Cond.instanceMethod y).before args s = true)
    (hy : y.cls ≠ "java/lang/invoke/MethodHandle" ∧ y.cls ≠ "java/lang/invoke/VarHandle") : (Jvm.Cond.selects y.cls y y).before args s = true := by
  obtain ⟨c, k, h1, h2, h3, h4, -⟩ := Cond.instantiable_spec wi
  exact Jvm.Stand.selects_self_of_private h1 h2 (Bool.or_eq_false_iff.mp h4).1 (Cond.privateMethod_at hp) hi hy
theorem own_miss {k : Int32} (i : Int) (n : Int32) (e : n.toInt = i) (hc : ¬ k = n) : i ≠ k.toInt := fun h => hc (Int32.toInt_inj.mp (h.symm.trans e.symm))
theorem own_posI {x : Int32} (h : (0 : Int32) < x) : x ≠ 0 := fun q => by rw [q] at h; exact absurd h (by decide)
theorem own_posJ {x : Int64} (h : (0 : Int64) < x) : x ≠ 0 := fun q => by rw [q] at h; exact absurd h (by decide)
theorem own_asI {x y : Int32} (h : y < x) : ¬ x < y := fun q => Int32.lt_irrefl (Int32.lt_trans h q)
theorem own_asJ {x y : Int64} (h : y < x) : ¬ x < y := fun q => Int64.lt_irrefl (Int64.lt_trans h q)
theorem own_eqltI {x y : Int32} (h : x = y) : ¬ x < y := fun q => by rw [h] at q; exact Int32.lt_irrefl q
theorem own_eqltJ {x y : Int64} (h : x = y) : ¬ x < y := fun q => by rw [h] at q; exact Int64.lt_irrefl q
theorem own_triI {x y : Int32} (h : ¬ x = y) (q : ¬ y < x) : x < y := by
  rw [Int32.lt_iff_toInt_lt] at *
  rw [← Int32.toInt_inj] at h
  omega
theorem own_triJ {x y : Int64} (h : ¬ x = y) (q : ¬ y < x) : x < y := by
  rw [Int64.lt_iff_toInt_lt] at *
  rw [← Int64.toInt_inj] at h
  omega
theorem own_ltneI {x y : Int32} (h : x < y) : ¬ x = y := fun q => by rw [q] at h; exact Int32.lt_irrefl h
theorem own_ltneJ {x y : Int64} (h : x < y) : ¬ x = y := fun q => by rw [q] at h; exact Int64.lt_irrefl h
theorem own_ltne'I {x y : Int32} (h : y < x) : ¬ x = y := fun q => by rw [q] at h; exact Int32.lt_irrefl h
theorem own_ltne'J {x y : Int64} (h : y < x) : ¬ x = y := fun q => by rw [q] at h; exact Int64.lt_irrefl h
theorem own_nnI {x y : Int32} (h : ¬ x < y) (q : ¬ y < x) : x = y := by
  rw [Int32.lt_iff_toInt_lt] at *
  rw [← Int32.toInt_inj]
  omega
theorem own_nnJ {x y : Int64} (h : ¬ x < y) (q : ¬ y < x) : x = y := by
  rw [Int64.lt_iff_toInt_lt] at *
  rw [← Int64.toInt_inj]
  omega
end Own
theorem d3_0 : decode jdk_29_method_65_code 0 = .ok (.iload_n 0, 1) := by decide +kernel
theorem d3_1 : decode jdk_29_method_65_code 1 = .ok (.iload_n 1, 1) := by decide +kernel
theorem d3_2 : decode jdk_29_method_65_code 2 = .ok (.if_icmp .lt 7, 3) := by decide +kernel
theorem d3_5 : decode jdk_29_method_65_code 5 = .ok (.iload_n 0, 1) := by decide +kernel
theorem d3_6 : decode jdk_29_method_65_code 6 = .ok (.goto 4, 3) := by decide +kernel
theorem d3_9 : decode jdk_29_method_65_code 9 = .ok (.iload_n 1, 1) := by decide +kernel
theorem d3_10 : decode jdk_29_method_65_code 10 = .ok (.ireturn, 1) := by decide +kernel
theorem ef_3 (m : MethodId) (p3_0 : Int32) (p3_1 : Int32) : entryFrame m #[(.int p3_0), (.int p3_1)] 2 = mkF m 0 #[.val (.int p3_0), .val (.int p3_1)] [] := by first | (simp [entryFrame, mkF, argsToLocals, Value.category]; done) | rfl
def r3 (p3_0 : Int32) (p3_1 : Int32) : Int32 := (if p3_0 < p3_1 then p3_1 else p3_0)
def Q3 (Z : State) (p3_0 : Int32) (p3_1 : Int32) (h0 : Heap) (n0 : Nat) (v : Option Value) (h : Heap) (L : List Loc) : Prop := v = some (.int (r3 p3_0 p3_1)) ∧ Fr n0 L ∧ h = h0
set_option maxRecDepth 65536 in
set_option maxHeartbeats 40000000 in
theorem rm3 (l : Launch) (Z : State) (a0 : Array Value) (hw : ∀ d ∈ tables_1, d.before a0 Z = true) (ws : List Jvm.Cond) (p3_0 : Int32) (p3_1 : Int32) (h0 : Heap) (n0 : Nat) (Z0 : n0 ≤ h0.size) :
    MetFree l (⟨"java/lang/Math", "max", "(II)I"⟩ : MethodName) (head1 (Jvm.Cond.code (⟨"java/lang/Math", "max", "(II)I"⟩ : MethodName) jdk_29_method_65_code 2 (some .int) :: ws) ({ frames := 0, cells := 0, slots := 0, locals := 0 } : Room)) (fun a U => a = #[(.int p3_0), (.int p3_1)] ∧ Z.Warmed39 U.vm ∧ U.heap = h0) (fun _ _ _ _ _ => True) (fun _ U o U' => ∃ v L, o = .returned v ∧ Q3 Z p3_0 p3_1 h0 n0 v U'.heap L ∧ FrameEnd U o U' L ({ frames := 0, cells := 0, slots := 0, locals := 0 } : Room).cells ({ frames := 0, cells := 0, slots := 0, locals := 0 } : Room).slots) := by
  refine MetFree.of_bodySF (Jvm.Free.JP.mathPlain rfl (by decide +kernel)) hisR ?_
  intro p e s m args below meth c s₁ Bd hml0 hP hK
  obtain ⟨rfl, hZ, hh⟩ := hP
  have hx := Bd.exec
  have hby := Bd.bytes
  have hlk := Bd.notSynchronized
  have hret := Bd.returns
  have hml : c.maxLocals = 2 := hml0
  have hown : s.vm.findClass "java/lang/Math" = some m.cls := findClass_of_methodNamed Bd.named
  have hnm := (name_of_methodNamed Bd.named Bd.method).1
  have X0 : Stand p l e ({ frames := 0, cells := 0, slots := 0, locals := 0 } : Room) s m #[(.int p3_0), (.int p3_1)] below meth c s₁ [] 0 0 := Stand.of_body Bd
  have e0 : s₁.heap = h0 := by rw [← hh, Bd.state]; rfl
  have N0 := Fr.nil n0
  have K0 : Keep h0 h0 [] := Keep.refl _ _
  show own_G p e below s (Q3 Z p3_0 p3_1 h0 n0) ({ frames := 0, cells := 0, slots := 0, locals := 0 } : Room).cells ({ frames := 0, cells := 0, slots := 0, locals := 0 } : Room).slots s₁ (entryFrame m #[(.int p3_0), (.int p3_1)] 2)
  refine own_cast (ef_3 m p3_0 p3_1) ?_
  refine own_s (g' := (mkF m 1 #[.val (.int p3_0), .val (.int p3_1)] [(.int p3_0)])) (fun _ kz => XS.iloadN X0.here hx rfl (hb hby d3_0) rfl kz) ?_
  refine own_s (g' := (mkF m 2 #[.val (.int p3_0), .val (.int p3_1)] [(.int p3_1), (.int p3_0)])) (fun _ kz => XS.iloadN X0.here hx rfl (hb hby d3_1) rfl kz) ?_
  by_cases c1 : p3_0 < p3_1
  ·skip
   refine own_s (g' := (mkF m 9 #[.val (.int p3_0), .val (.int p3_1)] [])) (fun _ kz => XS.icmpYes X0.here hx rfl (pc0 := 2) (pc' := 9) rfl (hb hby d3_2) rfl (tlt c1).1 (by decide) (by decide) kz) ?_
   refine own_s (g' := (mkF m 10 #[.val (.int p3_0), .val (.int p3_1)] [(.int p3_1)])) (fun _ kz => XS.iloadN X0.here hx rfl (hb hby d3_9) rfl kz) ?_
   refine own_retI X0 hx hlk hret (hb hby d3_10) (by decide) (by decide) ?_
   show Q3 Z p3_0 p3_1 h0 n0 _ s₁.heap _
   rw [e0]
   exact ⟨(congrArg (fun z => some (Value.int z)) (show p3_1 = (r3 p3_0 p3_1) from (Eq.symm (if_pos c1)))), N0, rfl⟩
  ·skip
   refine own_s (g' := (mkF m 5 #[.val (.int p3_0), .val (.int p3_1)] [])) (fun _ kz => XS.icmpNo X0.here hx rfl (hb hby d3_2) rfl (flt c1).1 kz) ?_
   refine own_s (g' := (mkF m 6 #[.val (.int p3_0), .val (.int p3_1)] [(.int p3_0)])) (fun _ kz => XS.iloadN X0.here hx rfl (hb hby d3_5) rfl kz) ?_
   refine own_s (g' := (mkF m 10 #[.val (.int p3_0), .val (.int p3_1)] [(.int p3_0)])) (fun _ kz => XS.goto X0.here hx rfl (pc0 := 6) (pc' := 10) rfl (hb hby d3_6) (by decide) (by decide) kz) ?_
   refine own_retI X0 hx hlk hret (hb hby d3_10) (by decide) (by decide) ?_
   show Q3 Z p3_0 p3_1 h0 n0 _ s₁.heap _
   rw [e0]
   exact ⟨(congrArg (fun z => some (Value.int z)) (show p3_0 = (r3 p3_0 p3_1) from (Eq.symm (if_neg c1)))), N0, rfl⟩
theorem d5_0 : decode jdk_29_method_69_code 0 = .ok (.iload_n 0, 1) := by decide +kernel
theorem d5_1 : decode jdk_29_method_69_code 1 = .ok (.iload_n 1, 1) := by decide +kernel
theorem d5_2 : decode jdk_29_method_69_code 2 = .ok (.if_icmp .gt 7, 3) := by decide +kernel
theorem d5_5 : decode jdk_29_method_69_code 5 = .ok (.iload_n 0, 1) := by decide +kernel
theorem d5_6 : decode jdk_29_method_69_code 6 = .ok (.goto 4, 3) := by decide +kernel
theorem d5_9 : decode jdk_29_method_69_code 9 = .ok (.iload_n 1, 1) := by decide +kernel
theorem d5_10 : decode jdk_29_method_69_code 10 = .ok (.ireturn, 1) := by decide +kernel
theorem ef_5 (m : MethodId) (p5_0 : Int32) (p5_1 : Int32) : entryFrame m #[(.int p5_0), (.int p5_1)] 2 = mkF m 0 #[.val (.int p5_0), .val (.int p5_1)] [] := by first | (simp [entryFrame, mkF, argsToLocals, Value.category]; done) | rfl
def r5 (p5_0 : Int32) (p5_1 : Int32) : Int32 := (if p5_1 < p5_0 then p5_1 else p5_0)
def Q5 (Z : State) (p5_0 : Int32) (p5_1 : Int32) (h0 : Heap) (n0 : Nat) (v : Option Value) (h : Heap) (L : List Loc) : Prop := v = some (.int (r5 p5_0 p5_1)) ∧ Fr n0 L ∧ h = h0
set_option maxRecDepth 65536 in
set_option maxHeartbeats 40000000 in
theorem rm5 (l : Launch) (Z : State) (a0 : Array Value) (hw : ∀ d ∈ tables_1, d.before a0 Z = true) (ws : List Jvm.Cond) (p5_0 : Int32) (p5_1 : Int32) (h0 : Heap) (n0 : Nat) (Z0 : n0 ≤ h0.size) :
    MetFree l (⟨"java/lang/Math", "min", "(II)I"⟩ : MethodName) (head1 (Jvm.Cond.code (⟨"java/lang/Math", "min", "(II)I"⟩ : MethodName) jdk_29_method_69_code 2 (some .int) :: ws) ({ frames := 0, cells := 0, slots := 0, locals := 0 } : Room)) (fun a U => a = #[(.int p5_0), (.int p5_1)] ∧ Z.Warmed39 U.vm ∧ U.heap = h0) (fun _ _ _ _ _ => True) (fun _ U o U' => ∃ v L, o = .returned v ∧ Q5 Z p5_0 p5_1 h0 n0 v U'.heap L ∧ FrameEnd U o U' L ({ frames := 0, cells := 0, slots := 0, locals := 0 } : Room).cells ({ frames := 0, cells := 0, slots := 0, locals := 0 } : Room).slots) := by
  refine MetFree.of_bodySF (Jvm.Free.JP.mathPlain rfl (by decide +kernel)) hisR ?_
  intro p e s m args below meth c s₁ Bd hml0 hP hK
  obtain ⟨rfl, hZ, hh⟩ := hP
  have hx := Bd.exec
  have hby := Bd.bytes
  have hlk := Bd.notSynchronized
  have hret := Bd.returns
  have hml : c.maxLocals = 2 := hml0
  have hown : s.vm.findClass "java/lang/Math" = some m.cls := findClass_of_methodNamed Bd.named
  have hnm := (name_of_methodNamed Bd.named Bd.method).1
  have X0 : Stand p l e ({ frames := 0, cells := 0, slots := 0, locals := 0 } : Room) s m #[(.int p5_0), (.int p5_1)] below meth c s₁ [] 0 0 := Stand.of_body Bd
  have e0 : s₁.heap = h0 := by rw [← hh, Bd.state]; rfl
  have N0 := Fr.nil n0
  have K0 : Keep h0 h0 [] := Keep.refl _ _
  show own_G p e below s (Q5 Z p5_0 p5_1 h0 n0) ({ frames := 0, cells := 0, slots := 0, locals := 0 } : Room).cells ({ frames := 0, cells := 0, slots := 0, locals := 0 } : Room).slots s₁ (entryFrame m #[(.int p5_0), (.int p5_1)] 2)
  refine own_cast (ef_5 m p5_0 p5_1) ?_
  refine own_s (g' := (mkF m 1 #[.val (.int p5_0), .val (.int p5_1)] [(.int p5_0)])) (fun _ kz => XS.iloadN X0.here hx rfl (hb hby d5_0) rfl kz) ?_
  refine own_s (g' := (mkF m 2 #[.val (.int p5_0), .val (.int p5_1)] [(.int p5_1), (.int p5_0)])) (fun _ kz => XS.iloadN X0.here hx rfl (hb hby d5_1) rfl kz) ?_
  by_cases c2 : p5_1 < p5_0
  ·skip
   refine own_s (g' := (mkF m 9 #[.val (.int p5_0), .val (.int p5_1)] [])) (fun _ kz => XS.icmpYes X0.here hx rfl (pc0 := 2) (pc' := 9) rfl (hb hby d5_2) rfl (tlt c2).2.2.1 (by decide) (by decide) kz) ?_
   refine own_s (g' := (mkF m 10 #[.val (.int p5_0), .val (.int p5_1)] [(.int p5_1)])) (fun _ kz => XS.iloadN X0.here hx rfl (hb hby d5_9) rfl kz) ?_
   refine own_retI X0 hx hlk hret (hb hby d5_10) (by decide) (by decide) ?_
   show Q5 Z p5_0 p5_1 h0 n0 _ s₁.heap _
   rw [e0]
   exact ⟨(congrArg (fun z => some (Value.int z)) (show p5_1 = (r5 p5_0 p5_1) from (Eq.symm (if_pos c2)))), N0, rfl⟩
  ·skip
   refine own_s (g' := (mkF m 5 #[.val (.int p5_0), .val (.int p5_1)] [])) (fun _ kz => XS.icmpNo X0.here hx rfl (hb hby d5_2) rfl (flt c2).2.2.1 kz) ?_
   refine own_s (g' := (mkF m 6 #[.val (.int p5_0), .val (.int p5_1)] [(.int p5_0)])) (fun _ kz => XS.iloadN X0.here hx rfl (hb hby d5_5) rfl kz) ?_
   refine own_s (g' := (mkF m 10 #[.val (.int p5_0), .val (.int p5_1)] [(.int p5_0)])) (fun _ kz => XS.goto X0.here hx rfl (pc0 := 6) (pc' := 10) rfl (hb hby d5_6) (by decide) (by decide) kz) ?_
   refine own_retI X0 hx hlk hret (hb hby d5_10) (by decide) (by decide) ?_
   show Q5 Z p5_0 p5_1 h0 n0 _ s₁.heap _
   rw [e0]
   exact ⟨(congrArg (fun z => some (Value.int z)) (show p5_0 = (r5 p5_0 p5_1) from (Eq.symm (if_neg c2)))), N0, rfl⟩
theorem pd__II_I : parseMethodDescriptor "(II)I" = some ⟨[.int, .int], some .int⟩ := by decide +kernel
theorem d4_0 : decode prog_35_method_4_code 0 = .ok (.iload_n 0, 1) := by decide +kernel
theorem d4_1 : decode prog_35_method_4_code 1 = .ok (.iload_n 1, 1) := by decide +kernel
theorem d4_2 : decode prog_35_method_4_code 2 = .ok (.invokestatic 83, 3) := by decide +kernel
theorem d4_5 : decode prog_35_method_4_code 5 = .ok (.iconst 1, 1) := by decide +kernel
theorem d4_6 : decode prog_35_method_4_code 6 = .ok (.iadd, 1) := by decide +kernel
theorem d4_7 : decode prog_35_method_4_code 7 = .ok (.ireturn, 1) := by decide +kernel
theorem pn_gallai_service_Graphicality : plainName "gallai/service/Graphicality" = true := by first | (simp [plainName, overriddenIn]; done) | decide +kernel
theorem ef_4 (m : MethodId) (p4_0 : Int32) (p4_1 : Int32) : entryFrame m #[(.int p4_0), (.int p4_1)] 2 = mkF m 0 #[.val (.int p4_0), .val (.int p4_1)] [] := by first | (simp [entryFrame, mkF, argsToLocals, Value.category]; done) | rfl
def r4 (p4_0 : Int32) (p4_1 : Int32) : Int32 := ((r5 p4_0 p4_1) + (1 : Int32))
def Q4 (Z : State) (p4_0 : Int32) (p4_1 : Int32) (h0 : Heap) (n0 : Nat) (v : Option Value) (h : Heap) (L : List Loc) : Prop := v = some (.int (r4 p4_0 p4_1)) ∧ Fr n0 L ∧ h = h0
set_option maxRecDepth 65536 in
set_option maxHeartbeats 40000000 in
theorem rm4 (l : Launch) (Z : State) (a0 : Array Value) (hw : ∀ d ∈ tables_1, d.before a0 Z = true) (ws : List Jvm.Cond) (p4_0 : Int32) (p4_1 : Int32) (h0 : Heap) (n0 : Nat) (Z0 : n0 ≤ h0.size) :
    MetFree l (⟨"gallai/service/Graphicality", "slackLength", "(II)I"⟩ : MethodName) (head1 (Jvm.Cond.code (⟨"gallai/service/Graphicality", "slackLength", "(II)I"⟩ : MethodName) prog_35_method_4_code 2 (some .int) :: ws) ({ frames := 1, cells := 0, slots := 0, locals := 13 } : Room)) (fun a U => a = #[(.int p4_0), (.int p4_1)] ∧ Z.Warmed39 U.vm ∧ U.heap = h0) (fun _ _ _ _ _ => True) (fun _ U o U' => ∃ v L, o = .returned v ∧ Q4 Z p4_0 p4_1 h0 n0 v U'.heap L ∧ FrameEnd U o U' L ({ frames := 1, cells := 0, slots := 0, locals := 13 } : Room).cells ({ frames := 1, cells := 0, slots := 0, locals := 13 } : Room).slots) := by
  refine MetFree.of_bodySF (plainFor_of_name pn_gallai_service_Graphicality) hisR ?_
  intro p e s m args below meth c s₁ Bd hml0 hP hK
  obtain ⟨rfl, hZ, hh⟩ := hP
  have hx := Bd.exec
  have hby := Bd.bytes
  have hlk := Bd.notSynchronized
  have hret := Bd.returns
  have hml : c.maxLocals = 2 := hml0
  have hown : s.vm.findClass "gallai/service/Graphicality" = some m.cls := findClass_of_methodNamed Bd.named
  have hnm := (name_of_methodNamed Bd.named Bd.method).1
  have X0 : Stand p l e ({ frames := 1, cells := 0, slots := 0, locals := 13 } : Room) s m #[(.int p4_0), (.int p4_1)] below meth c s₁ [] 0 0 := Stand.of_body Bd
  have e0 : s₁.heap = h0 := by rw [← hh, Bd.state]; rfl
  have N0 := Fr.nil n0
  have K0 : Keep h0 h0 [] := Keep.refl _ _
  show own_G p e below s (Q4 Z p4_0 p4_1 h0 n0) ({ frames := 1, cells := 0, slots := 0, locals := 13 } : Room).cells ({ frames := 1, cells := 0, slots := 0, locals := 13 } : Room).slots s₁ (entryFrame m #[(.int p4_0), (.int p4_1)] 2)
  have ww26 := hw _ (List.mem_of_getElem? (i := 26) rfl)
  have ww42 := hw _ (List.mem_of_getElem? (i := 42) rfl)
  have ww43 := hw _ (List.mem_of_getElem? (i := 43) rfl)
  have ww44 := hw _ (List.mem_of_getElem? (i := 44) rfl)
  refine own_cast (ef_4 m p4_0 p4_1) ?_
  refine own_s (g' := (mkF m 1 #[.val (.int p4_0), .val (.int p4_1)] [(.int p4_0)])) (fun _ kz => XS.iloadN X0.here hx rfl (hb hby d4_0) rfl kz) ?_
  refine own_s (g' := (mkF m 2 #[.val (.int p4_0), .val (.int p4_1)] [(.int p4_1), (.int p4_0)])) (fun _ kz => XS.iloadN X0.here hx rfl (hb hby d4_1) rfl kz) ?_
  obtain ⟨_, _, ⟨T3, L3, k3, n3⟩, -, X3, ⟨Lc3, hQ3, l3, y3, z3⟩, st3⟩ := Jvm.LawKit.callS X0 hx (y := (⟨"java/lang/Math", "min", "(II)I"⟩ : MethodName)) hown (mvT hZ ww42) (mvT hZ ww43) (mvT hZ ww26) (mvT hZ ww44) (by decide) (backOf (W := 0) (rm5 l Z a0 hw [] p4_0 p4_1 h0 n0 Z0 ) hZ ww44 ww26 (by decide) (by decide)) (g := (mkF m 2 #[.val (.int p4_0), .val (.int p4_1)] [(.int p4_1), (.int p4_0)])) rfl (by rw [hml]; rfl) (argsL := [(.int p4_0), (.int p4_1)]) (rest := []) (lenOf pd__II_I rfl) rfl (by show 2 * 0 + _ ≤ _; exact Nat.le_of_eq rfl) (hb hby d4_2) (fun _ _ => ⟨rfl, e0, (by decide : 0 + 0 ≤ _), (by decide : 0 + 0 ≤ _)⟩)
  dsimp only [Pt.U, Pt.locs, Pt.cells, Pt.slots] at X3 l3 y3 z3 st3 hQ3
  subst l3 y3 z3
  obtain ⟨rfl, N3q, eh3⟩ := hQ3
  have N3 := Fr.app N0 N3q
  refine own_s (g' := (mkF m 5 #[.val (.int p4_0), .val (.int p4_1)] [(.int (r5 p4_0 p4_1))])) st3 ?_
  refine own_s (g' := (mkF m 6 #[.val (.int p4_0), .val (.int p4_1)] [(.int 1), (.int (r5 p4_0 p4_1))])) (fun _ kz => XS.iconst X3.here hx rfl (hb hby d4_5) kz) ?_
  refine own_s (g' := (mkF m 7 #[.val (.int p4_0), .val (.int p4_1)] [(.int ((r5 p4_0 p4_1) + (1 : Int32)))])) (fun _ kz => XS.iadd X3.here hx rfl (hb hby d4_6) rfl kz) ?_
  refine own_retI X3 hx hlk hret (hb hby d4_7) (by decide) (by decide) ?_
  show Q4 Z p4_0 p4_1 h0 n0 _ T3.heap _
  rw [eh3]
  exact ⟨rfl, N3, rfl⟩
theorem d7_0 : decode prog_45_method_4_code 0 = .ok (.aload_n 0, 1) := by decide +kernel
theorem d7_1 : decode prog_45_method_4_code 1 = .ok (.getfield 31, 3) := by decide +kernel
theorem d7_4 : decode prog_45_method_4_code 4 = .ok (.lreturn, 1) := by decide +kernel
theorem pn_gallai_service_ResidualDegrees : plainName "gallai/service/ResidualDegrees" = true := by first | (simp [plainName, overriddenIn]; done) | decide +kernel
theorem ef_7 (m : MethodId) (a7_0 : Addr) : entryFrame m #[(.ref a7_0)] 1 = mkF m 0 #[.val (.ref a7_0)] [] := by first | (simp [entryFrame, mkF, argsToLocals, Value.category]; done) | rfl
def Q7 (Z : State) (a7_0 : Addr) (v7_sum : Int64) (h0 : Heap) (n0 : Nat) (v : Option Value) (h : Heap) (L : List Loc) : Prop := v = some (.long v7_sum) ∧ Fr n0 L ∧ h = h0
set_option maxRecDepth 65536 in
set_option maxHeartbeats 40000000 in
theorem rm7 (l : Launch) (Z : State) (a0 : Array Value) (hw : ∀ d ∈ tables_1, d.before a0 Z = true) (ws : List Jvm.Cond) (a7_0 : Addr) (v7_sum : Int64) (h0 : Heap) (n0 : Nat) (Z0 : n0 ≤ h0.size) (F_sum_a7_0 : Fld Z h0 a7_0 "gallai/service/ResidualDegrees" "sum" "J" (.long v7_sum)) :
    MetFree l (⟨"gallai/service/ResidualDegrees", "sum", "()J"⟩ : MethodName) (head1 (Jvm.Cond.code (⟨"gallai/service/ResidualDegrees", "sum", "()J"⟩ : MethodName) prog_45_method_4_code 1 (some .long) :: ws) ({ frames := 0, cells := 0, slots := 0, locals := 0 } : Room)) (fun a U => a = #[(.ref a7_0)] ∧ Z.Warmed39 U.vm ∧ U.heap = h0) (fun _ _ _ _ _ => True) (fun _ U o U' => ∃ v L, o = .returned v ∧ Q7 Z a7_0 v7_sum h0 n0 v U'.heap L ∧ FrameEnd U o U' L ({ frames := 0, cells := 0, slots := 0, locals := 0 } : Room).cells ({ frames := 0, cells := 0, slots := 0, locals := 0 } : Room).slots) := by
  refine MetFree.of_bodySF (plainFor_of_name pn_gallai_service_ResidualDegrees) hisR ?_
  intro p e s m args below meth c s₁ Bd hml0 hP hK
  obtain ⟨rfl, hZ, hh⟩ := hP
  have hx := Bd.exec
  have hby := Bd.bytes
  have hlk := Bd.notSynchronized
  have hret := Bd.returns
  have hml : c.maxLocals = 1 := hml0
  have hown : s.vm.findClass "gallai/service/ResidualDegrees" = some m.cls := findClass_of_methodNamed Bd.named
  have hnm := (name_of_methodNamed Bd.named Bd.method).1
  have X0 : Stand p l e ({ frames := 0, cells := 0, slots := 0, locals := 0 } : Room) s m #[(.ref a7_0)] below meth c s₁ [] 0 0 := Stand.of_body Bd
  have e0 : s₁.heap = h0 := by rw [← hh, Bd.state]; rfl
  have N0 := Fr.nil n0
  have K0 : Keep h0 h0 [] := Keep.refl _ _
  show own_G p e below s (Q7 Z a7_0 v7_sum h0 n0) ({ frames := 0, cells := 0, slots := 0, locals := 0 } : Room).cells ({ frames := 0, cells := 0, slots := 0, locals := 0 } : Room).slots s₁ (entryFrame m #[(.ref a7_0)] 1)
  have ww32 := hw _ (List.mem_of_getElem? (i := 32) rfl)
  refine own_cast (ef_7 m a7_0) ?_
  refine own_s (g' := (mkF m 1 #[.val (.ref a7_0)] [(.ref a7_0)])) (fun _ kz => XS.aloadN X0.here hx rfl (hb hby d7_0) rfl rfl kz) ?_
  obtain ⟨T4, X4, e4, st4⟩ := getF X0 hx hZ hown (host := "") (Or.inl ww32) Via.refl e0 F_sum_a7_0 (g := (mkF m 1 #[.val (.ref a7_0)] [(.ref a7_0)])) rfl rfl (hb hby d7_1)
  refine own_s (g' := (mkF m 4 #[.val (.ref a7_0)] [(.long v7_sum)])) st4 ?_
  refine own_retJ X4 hx hlk hret (hb hby d7_4) (by decide) (by decide) ?_
  show Q7 Z a7_0 v7_sum h0 n0 _ T4.heap _
  rw [e4]
  exact ⟨rfl, N0, rfl⟩
theorem d8_0 : decode prog_45_method_3_code 0 = .ok (.aload_n 0, 1) := by decide +kernel
theorem d8_1 : decode prog_45_method_3_code 1 = .ok (.getfield 24, 3) := by decide +kernel
theorem d8_4 : decode prog_45_method_3_code 4 = .ok (.ireturn, 1) := by decide +kernel
theorem ef_8 (m : MethodId) (a8_0 : Addr) : entryFrame m #[(.ref a8_0)] 1 = mkF m 0 #[.val (.ref a8_0)] [] := by first | (simp [entryFrame, mkF, argsToLocals, Value.category]; done) | rfl
def Q8 (Z : State) (a8_0 : Addr) (u8_largest : Int32) (h0 : Heap) (n0 : Nat) (v : Option Value) (h : Heap) (L : List Loc) : Prop := v = some (.int u8_largest) ∧ Fr n0 L ∧ h = h0
set_option maxRecDepth 65536 in
set_option maxHeartbeats 40000000 in
theorem rm8 (l : Launch) (Z : State) (a0 : Array Value) (hw : ∀ d ∈ tables_1, d.before a0 Z = true) (ws : List Jvm.Cond) (a8_0 : Addr) (u8_largest : Int32) (h0 : Heap) (n0 : Nat) (Z0 : n0 ≤ h0.size) (F_largest_a8_0 : Fld Z h0 a8_0 "gallai/service/ResidualDegrees" "largest" "I" (.int u8_largest)) :
    MetFree l (⟨"gallai/service/ResidualDegrees", "largest", "()I"⟩ : MethodName) (head1 (Jvm.Cond.code (⟨"gallai/service/ResidualDegrees", "largest", "()I"⟩ : MethodName) prog_45_method_3_code 1 (some .int) :: ws) ({ frames := 0, cells := 0, slots := 0, locals := 0 } : Room)) (fun a U => a = #[(.ref a8_0)] ∧ Z.Warmed39 U.vm ∧ U.heap = h0) (fun _ _ _ _ _ => True) (fun _ U o U' => ∃ v L, o = .returned v ∧ Q8 Z a8_0 u8_largest h0 n0 v U'.heap L ∧ FrameEnd U o U' L ({ frames := 0, cells := 0, slots := 0, locals := 0 } : Room).cells ({ frames := 0, cells := 0, slots := 0, locals := 0 } : Room).slots) := by
  refine MetFree.of_bodySF (plainFor_of_name pn_gallai_service_ResidualDegrees) hisR ?_
  intro p e s m args below meth c s₁ Bd hml0 hP hK
  obtain ⟨rfl, hZ, hh⟩ := hP
  have hx := Bd.exec
  have hby := Bd.bytes
  have hlk := Bd.notSynchronized
  have hret := Bd.returns
  have hml : c.maxLocals = 1 := hml0
  have hown : s.vm.findClass "gallai/service/ResidualDegrees" = some m.cls := findClass_of_methodNamed Bd.named
  have hnm := (name_of_methodNamed Bd.named Bd.method).1
  have X0 : Stand p l e ({ frames := 0, cells := 0, slots := 0, locals := 0 } : Room) s m #[(.ref a8_0)] below meth c s₁ [] 0 0 := Stand.of_body Bd
  have e0 : s₁.heap = h0 := by rw [← hh, Bd.state]; rfl
  have N0 := Fr.nil n0
  have K0 : Keep h0 h0 [] := Keep.refl _ _
  show own_G p e below s (Q8 Z a8_0 u8_largest h0 n0) ({ frames := 0, cells := 0, slots := 0, locals := 0 } : Room).cells ({ frames := 0, cells := 0, slots := 0, locals := 0 } : Room).slots s₁ (entryFrame m #[(.ref a8_0)] 1)
  have ww28 := hw _ (List.mem_of_getElem? (i := 28) rfl)
  refine own_cast (ef_8 m a8_0) ?_
  refine own_s (g' := (mkF m 1 #[.val (.ref a8_0)] [(.ref a8_0)])) (fun _ kz => XS.aloadN X0.here hx rfl (hb hby d8_0) rfl rfl kz) ?_
  obtain ⟨T5, X5, e5, st5⟩ := getF X0 hx hZ hown (host := "") (Or.inl ww28) Via.refl e0 F_largest_a8_0 (g := (mkF m 1 #[.val (.ref a8_0)] [(.ref a8_0)])) rfl rfl (hb hby d8_1)
  refine own_s (g' := (mkF m 4 #[.val (.ref a8_0)] [(.int u8_largest)])) st5 ?_
  refine own_retI X5 hx hlk hret (hb hby d8_4) (by decide) (by decide) ?_
  show Q8 Z a8_0 u8_largest h0 n0 _ T5.heap _
  rw [e5]
  exact ⟨rfl, N0, rfl⟩
theorem d9_0 : decode method_2_code 0 = .ok (.aload_n 0, 1) := by decide +kernel
theorem d9_1 : decode method_2_code 1 = .ok (.iconst 3, 1) := by decide +kernel
theorem d9_2 : decode method_2_code 2 = .ok (.iaload, 1) := by decide +kernel
theorem d9_3 : decode method_2_code 3 = .ok (.ifCond .le 5, 3) := by decide +kernel
theorem d9_6 : decode method_2_code 6 = .ok (.iconst 3, 1) := by decide +kernel
theorem d9_7 : decode method_2_code 7 = .ok (.ireturn, 1) := by decide +kernel
theorem d9_8 : decode method_2_code 8 = .ok (.aload_n 0, 1) := by decide +kernel
theorem d9_9 : decode method_2_code 9 = .ok (.iconst 2, 1) := by decide +kernel
theorem d9_10 : decode method_2_code 10 = .ok (.iaload, 1) := by decide +kernel
theorem d9_11 : decode method_2_code 11 = .ok (.ifCond .le 5, 3) := by decide +kernel
theorem d9_14 : decode method_2_code 14 = .ok (.iconst 2, 1) := by decide +kernel
theorem d9_15 : decode method_2_code 15 = .ok (.ireturn, 1) := by decide +kernel
theorem d9_16 : decode method_2_code 16 = .ok (.aload_n 0, 1) := by decide +kernel
theorem d9_17 : decode method_2_code 17 = .ok (.iconst 1, 1) := by decide +kernel
theorem d9_18 : decode method_2_code 18 = .ok (.iaload, 1) := by decide +kernel
theorem d9_19 : decode method_2_code 19 = .ok (.ifCond .le 5, 3) := by decide +kernel
theorem d9_22 : decode method_2_code 22 = .ok (.iconst 1, 1) := by decide +kernel
theorem d9_23 : decode method_2_code 23 = .ok (.ireturn, 1) := by decide +kernel
theorem d9_24 : decode method_2_code 24 = .ok (.iconst 0, 1) := by decide +kernel
theorem d9_25 : decode method_2_code 25 = .ok (.ireturn, 1) := by decide +kernel
theorem pn_gallai_service_ResidualDegreesLowerPinLaw : plainName "gallai/service/ResidualDegreesLowerPinLaw" = true := by first | (simp [plainName, overriddenIn]; done) | decide +kernel
theorem ef_9 (m : MethodId) (a9_0 : Addr) : entryFrame m #[(.ref a9_0)] 1 = mkF m 0 #[.val (.ref a9_0)] [] := by first | (simp [entryFrame, mkF, argsToLocals, Value.category]; done) | rfl
def r9 (y1 : Int32) (y2 : Int32) (y3 : Int32) : Int32 := (if (0 : Int32) < y3 then (3 : Int32) else (if (0 : Int32) < y2 then (2 : Int32) else (if (0 : Int32) < y1 then (1 : Int32) else (0 : Int32))))
def Q9 (Z : State) (a9_0 : Addr) (ky : ClassId) (y0 : Int32) (y1 : Int32) (y2 : Int32) (y3 : Int32) (h0 : Heap) (n0 : Nat) (v : Option Value) (h : Heap) (L : List Loc) : Prop := v = some (.int (r9 y1 y2 y3)) ∧ Fr n0 L ∧ h = h0
set_option maxRecDepth 65536 in
set_option maxHeartbeats 40000000 in
theorem rm9 (l : Launch) (Z : State) (a0 : Array Value) (hw : ∀ d ∈ tables_1, d.before a0 Z = true) (ws : List Jvm.Cond) (a9_0 : Addr) (ky : ClassId) (y0 : Int32) (y1 : Int32) (y2 : Int32) (y3 : Int32) (h0 : Heap) (n0 : Nat) (Z0 : n0 ≤ h0.size) (V_a9_0 : Arv Z h0 a9_0 ky .int (4 : Int32) [(.int y0), (.int y1), (.int y2), (.int y3)] (.int (0 : Int32))) :
    MetFree l (⟨"gallai/service/ResidualDegreesLowerPinLaw", "top", "([I)I"⟩ : MethodName) (head1 (Jvm.Cond.code (⟨"gallai/service/ResidualDegreesLowerPinLaw", "top", "([I)I"⟩ : MethodName) method_2_code 1 (some .int) :: ws) ({ frames := 0, cells := 0, slots := 0, locals := 0 } : Room)) (fun a U => a = #[(.ref a9_0)] ∧ Z.Warmed39 U.vm ∧ U.heap = h0) (fun _ _ _ _ _ => True) (fun _ U o U' => ∃ v L, o = .returned v ∧ Q9 Z a9_0 ky y0 y1 y2 y3 h0 n0 v U'.heap L ∧ FrameEnd U o U' L ({ frames := 0, cells := 0, slots := 0, locals := 0 } : Room).cells ({ frames := 0, cells := 0, slots := 0, locals := 0 } : Room).slots) := by
  refine MetFree.of_bodySF (plainFor_of_name pn_gallai_service_ResidualDegreesLowerPinLaw) hisR ?_
  intro p e s m args below meth c s₁ Bd hml0 hP hK
  obtain ⟨rfl, hZ, hh⟩ := hP
  have hx := Bd.exec
  have hby := Bd.bytes
  have hlk := Bd.notSynchronized
  have hret := Bd.returns
  have hml : c.maxLocals = 1 := hml0
  have hown : s.vm.findClass "gallai/service/ResidualDegreesLowerPinLaw" = some m.cls := findClass_of_methodNamed Bd.named
  have hnm := (name_of_methodNamed Bd.named Bd.method).1
  have X0 : Stand p l e ({ frames := 0, cells := 0, slots := 0, locals := 0 } : Room) s m #[(.ref a9_0)] below meth c s₁ [] 0 0 := Stand.of_body Bd
  have e0 : s₁.heap = h0 := by rw [← hh, Bd.state]; rfl
  have N0 := Fr.nil n0
  have K0 : Keep h0 h0 [] := Keep.refl _ _
  show own_G p e below s (Q9 Z a9_0 ky y0 y1 y2 y3 h0 n0) ({ frames := 0, cells := 0, slots := 0, locals := 0 } : Room).cells ({ frames := 0, cells := 0, slots := 0, locals := 0 } : Room).slots s₁ (entryFrame m #[(.ref a9_0)] 1)
  refine own_cast (ef_9 m a9_0) ?_
  refine own_s (g' := (mkF m 1 #[.val (.ref a9_0)] [(.ref a9_0)])) (fun _ kz => XS.aloadN X0.here hx rfl (hb hby d9_0) rfl rfl kz) ?_
  refine own_s (g' := (mkF m 2 #[.val (.ref a9_0)] [(.int 3), (.ref a9_0)])) (fun _ kz => XS.iconst X0.here hx rfl (hb hby d9_1) kz) ?_
  obtain ⟨cl6, Ar6, -, S6, -, H6, -⟩ := id V_a9_0
  have in6 := inb_of S6 (j := (3 : Int32)) ⟨by decide, by decide⟩
  refine own_s (g' := (mkF m 3 #[.val (.ref a9_0)] [(.int y3)])) (X0.iaload hx (j := (3 : Int32)) (v := (.int y3)) (by rw [e0]; exact Ar6.1) (State.isArrayOf_alike hZ.alike Ar6.2.1) Ar6.2.2 in6 (Has.at H6 in6 rfl) (g := (mkF m 2 #[.val (.ref a9_0)] [(.int 3), (.ref a9_0)])) rfl rfl (hb hby d9_2)) ?_
  by_cases c7 : (0 : Int32) < y3
  ·skip
   refine own_s (g' := (mkF m 6 #[.val (.ref a9_0)] [])) (fun _ kz => XS.ifNo X0.here hx rfl (hb hby d9_3) rfl ((if0 _ _).trans (tlt c7).2.2.2) kz) ?_
   refine own_s (g' := (mkF m 7 #[.val (.ref a9_0)] [(.int 3)])) (fun _ kz => XS.iconst X0.here hx rfl (hb hby d9_6) kz) ?_
   refine own_retI X0 hx hlk hret (hb hby d9_7) (by decide) (by decide) ?_
   show Q9 Z a9_0 ky y0 y1 y2 y3 h0 n0 _ s₁.heap _
   rw [e0]
   exact ⟨(congrArg (fun z => some (Value.int z)) (show (3 : Int32) = (r9 y1 y2 y3) from (Eq.symm (if_pos c7)))), N0, rfl⟩
  ·skip
   refine own_s (g' := (mkF m 8 #[.val (.ref a9_0)] [])) (fun _ kz => XS.ifYes X0.here hx rfl (pc0 := 3) (pc' := 8) rfl (hb hby d9_3) rfl ((if0 _ _).trans (flt c7).2.2.2) (by decide) (by decide) kz) ?_
   refine own_s (g' := (mkF m 9 #[.val (.ref a9_0)] [(.ref a9_0)])) (fun _ kz => XS.aloadN X0.here hx rfl (hb hby d9_8) rfl rfl kz) ?_
   refine own_s (g' := (mkF m 10 #[.val (.ref a9_0)] [(.int 2), (.ref a9_0)])) (fun _ kz => XS.iconst X0.here hx rfl (hb hby d9_9) kz) ?_
   obtain ⟨cl8, Ar8, -, S8, -, H8, -⟩ := id V_a9_0
   have in8 := inb_of S8 (j := (2 : Int32)) ⟨by decide, by decide⟩
   refine own_s (g' := (mkF m 11 #[.val (.ref a9_0)] [(.int y2)])) (X0.iaload hx (j := (2 : Int32)) (v := (.int y2)) (by rw [e0]; exact Ar8.1) (State.isArrayOf_alike hZ.alike Ar8.2.1) Ar8.2.2 in8 (Has.at H8 in8 rfl) (g := (mkF m 10 #[.val (.ref a9_0)] [(.int 2), (.ref a9_0)])) rfl rfl (hb hby d9_10)) ?_
   by_cases c9 : (0 : Int32) < y2
   ·skip
    refine own_s (g' := (mkF m 14 #[.val (.ref a9_0)] [])) (fun _ kz => XS.ifNo X0.here hx rfl (hb hby d9_11) rfl ((if0 _ _).trans (tlt c9).2.2.2) kz) ?_
    refine own_s (g' := (mkF m 15 #[.val (.ref a9_0)] [(.int 2)])) (fun _ kz => XS.iconst X0.here hx rfl (hb hby d9_14) kz) ?_
    refine own_retI X0 hx hlk hret (hb hby d9_15) (by decide) (by decide) ?_
    show Q9 Z a9_0 ky y0 y1 y2 y3 h0 n0 _ s₁.heap _
    rw [e0]
    exact ⟨(congrArg (fun z => some (Value.int z)) (show (2 : Int32) = (r9 y1 y2 y3) from (Eq.symm ((if_neg c7).trans (if_pos c9))))), N0, rfl⟩
   ·skip
    refine own_s (g' := (mkF m 16 #[.val (.ref a9_0)] [])) (fun _ kz => XS.ifYes X0.here hx rfl (pc0 := 11) (pc' := 16) rfl (hb hby d9_11) rfl ((if0 _ _).trans (flt c9).2.2.2) (by decide) (by decide) kz) ?_
    refine own_s (g' := (mkF m 17 #[.val (.ref a9_0)] [(.ref a9_0)])) (fun _ kz => XS.aloadN X0.here hx rfl (hb hby d9_16) rfl rfl kz) ?_
    refine own_s (g' := (mkF m 18 #[.val (.ref a9_0)] [(.int 1), (.ref a9_0)])) (fun _ kz => XS.iconst X0.here hx rfl (hb hby d9_17) kz) ?_
    obtain ⟨cl10, Ar10, -, S10, -, H10, -⟩ := id V_a9_0
    have in10 := inb_of S10 (j := (1 : Int32)) ⟨by decide, by decide⟩
    refine own_s (g' := (mkF m 19 #[.val (.ref a9_0)] [(.int y1)])) (X0.iaload hx (j := (1 : Int32)) (v := (.int y1)) (by rw [e0]; exact Ar10.1) (State.isArrayOf_alike hZ.alike Ar10.2.1) Ar10.2.2 in10 (Has.at H10 in10 rfl) (g := (mkF m 18 #[.val (.ref a9_0)] [(.int 1), (.ref a9_0)])) rfl rfl (hb hby d9_18)) ?_
    by_cases c11 : (0 : Int32) < y1
    ·skip
     refine own_s (g' := (mkF m 22 #[.val (.ref a9_0)] [])) (fun _ kz => XS.ifNo X0.here hx rfl (hb hby d9_19) rfl ((if0 _ _).trans (tlt c11).2.2.2) kz) ?_
     refine own_s (g' := (mkF m 23 #[.val (.ref a9_0)] [(.int 1)])) (fun _ kz => XS.iconst X0.here hx rfl (hb hby d9_22) kz) ?_
     refine own_retI X0 hx hlk hret (hb hby d9_23) (by decide) (by decide) ?_
     show Q9 Z a9_0 ky y0 y1 y2 y3 h0 n0 _ s₁.heap _
     rw [e0]
     exact ⟨(congrArg (fun z => some (Value.int z)) (show (1 : Int32) = (r9 y1 y2 y3) from (Eq.symm ((if_neg c7).trans ((if_neg c9).trans (if_pos c11)))))), N0, rfl⟩
    ·skip
     refine own_s (g' := (mkF m 24 #[.val (.ref a9_0)] [])) (fun _ kz => XS.ifYes X0.here hx rfl (pc0 := 19) (pc' := 24) rfl (hb hby d9_19) rfl ((if0 _ _).trans (flt c11).2.2.2) (by decide) (by decide) kz) ?_
     refine own_s (g' := (mkF m 25 #[.val (.ref a9_0)] [(.int 0)])) (fun _ kz => XS.iconst X0.here hx rfl (hb hby d9_24) kz) ?_
     refine own_retI X0 hx hlk hret (hb hby d9_25) (by decide) (by decide) ?_
     show Q9 Z a9_0 ky y0 y1 y2 y3 h0 n0 _ s₁.heap _
     rw [e0]
     exact ⟨(congrArg (fun z => some (Value.int z)) (show (0 : Int32) = (r9 y1 y2 y3) from (Eq.symm ((if_neg c7).trans ((if_neg c9).trans (if_neg c11)))))), N0, rfl⟩
theorem own_sn_29_23 {Z : State} {a0 : Array Value} (hw : ∀ d ∈ tables_1, d.before a0 Z = true) : Jvm.RoadKit.slotOf Z "gallai/service/ResidualDegrees" "largest" "I" ≠ Jvm.RoadKit.slotOf Z "gallai/service/ResidualDegrees" "countOf" "[I" := slot_ne (Or.inl (hw _ (List.mem_of_getElem? (i := 29) rfl))) (Or.inr (hw _ (List.mem_of_getElem? (i := 23) rfl))) (by decide +kernel) (t := .int) (t' := (.array .int)) (by decide +kernel) (by decide +kernel)
theorem own_sn_23_29 {Z : State} {a0 : Array Value} (hw : ∀ d ∈ tables_1, d.before a0 Z = true) : Jvm.RoadKit.slotOf Z "gallai/service/ResidualDegrees" "countOf" "[I" ≠ Jvm.RoadKit.slotOf Z "gallai/service/ResidualDegrees" "largest" "I" := slot_ne (Or.inr (hw _ (List.mem_of_getElem? (i := 23) rfl))) (Or.inl (hw _ (List.mem_of_getElem? (i := 29) rfl))) (by decide +kernel) (t := (.array .int)) (t' := .int) (by decide +kernel) (by decide +kernel)
theorem own_sn_31_23 {Z : State} {a0 : Array Value} (hw : ∀ d ∈ tables_1, d.before a0 Z = true) : Jvm.RoadKit.slotOf Z "gallai/service/ResidualDegrees" "atLeast" "[I" ≠ Jvm.RoadKit.slotOf Z "gallai/service/ResidualDegrees" "countOf" "[I" := slot_ne (Or.inr (hw _ (List.mem_of_getElem? (i := 31) rfl))) (Or.inr (hw _ (List.mem_of_getElem? (i := 23) rfl))) (by decide +kernel) (t := (.array .int)) (t' := (.array .int)) (by decide +kernel) (by decide +kernel)
theorem own_sn_31_29 {Z : State} {a0 : Array Value} (hw : ∀ d ∈ tables_1, d.before a0 Z = true) : Jvm.RoadKit.slotOf Z "gallai/service/ResidualDegrees" "atLeast" "[I" ≠ Jvm.RoadKit.slotOf Z "gallai/service/ResidualDegrees" "largest" "I" := slot_ne (Or.inr (hw _ (List.mem_of_getElem? (i := 31) rfl))) (Or.inl (hw _ (List.mem_of_getElem? (i := 29) rfl))) (by decide +kernel) (t := (.array .int)) (t' := .int) (by decide +kernel) (by decide +kernel)
theorem own_sn_29_31 {Z : State} {a0 : Array Value} (hw : ∀ d ∈ tables_1, d.before a0 Z = true) : Jvm.RoadKit.slotOf Z "gallai/service/ResidualDegrees" "largest" "I" ≠ Jvm.RoadKit.slotOf Z "gallai/service/ResidualDegrees" "atLeast" "[I" := slot_ne (Or.inl (hw _ (List.mem_of_getElem? (i := 29) rfl))) (Or.inr (hw _ (List.mem_of_getElem? (i := 31) rfl))) (by decide +kernel) (t := .int) (t' := (.array .int)) (by decide +kernel) (by decide +kernel)
theorem own_sn_23_31 {Z : State} {a0 : Array Value} (hw : ∀ d ∈ tables_1, d.before a0 Z = true) : Jvm.RoadKit.slotOf Z "gallai/service/ResidualDegrees" "countOf" "[I" ≠ Jvm.RoadKit.slotOf Z "gallai/service/ResidualDegrees" "atLeast" "[I" := slot_ne (Or.inr (hw _ (List.mem_of_getElem? (i := 23) rfl))) (Or.inr (hw _ (List.mem_of_getElem? (i := 31) rfl))) (by decide +kernel) (t := (.array .int)) (t' := (.array .int)) (by decide +kernel) (by decide +kernel)
theorem own_sn_33_23 {Z : State} {a0 : Array Value} (hw : ∀ d ∈ tables_1, d.before a0 Z = true) : Jvm.RoadKit.slotOf Z "gallai/service/ResidualDegrees" "sum" "J" ≠ Jvm.RoadKit.slotOf Z "gallai/service/ResidualDegrees" "countOf" "[I" := slot_ne (Or.inl (hw _ (List.mem_of_getElem? (i := 33) rfl))) (Or.inr (hw _ (List.mem_of_getElem? (i := 23) rfl))) (by decide +kernel) (t := .long) (t' := (.array .int)) (by decide +kernel) (by decide +kernel)
theorem own_sn_33_29 {Z : State} {a0 : Array Value} (hw : ∀ d ∈ tables_1, d.before a0 Z = true) : Jvm.RoadKit.slotOf Z "gallai/service/ResidualDegrees" "sum" "J" ≠ Jvm.RoadKit.slotOf Z "gallai/service/ResidualDegrees" "largest" "I" := slot_ne (Or.inl (hw _ (List.mem_of_getElem? (i := 33) rfl))) (Or.inl (hw _ (List.mem_of_getElem? (i := 29) rfl))) (by decide +kernel) (t := .long) (t' := .int) (by decide +kernel) (by decide +kernel)
theorem own_sn_33_31 {Z : State} {a0 : Array Value} (hw : ∀ d ∈ tables_1, d.before a0 Z = true) : Jvm.RoadKit.slotOf Z "gallai/service/ResidualDegrees" "sum" "J" ≠ Jvm.RoadKit.slotOf Z "gallai/service/ResidualDegrees" "atLeast" "[I" := slot_ne (Or.inl (hw _ (List.mem_of_getElem? (i := 33) rfl))) (Or.inr (hw _ (List.mem_of_getElem? (i := 31) rfl))) (by decide +kernel) (t := .long) (t' := (.array .int)) (by decide +kernel) (by decide +kernel)
theorem own_sn_29_33 {Z : State} {a0 : Array Value} (hw : ∀ d ∈ tables_1, d.before a0 Z = true) : Jvm.RoadKit.slotOf Z "gallai/service/ResidualDegrees" "largest" "I" ≠ Jvm.RoadKit.slotOf Z "gallai/service/ResidualDegrees" "sum" "J" := slot_ne (Or.inl (hw _ (List.mem_of_getElem? (i := 29) rfl))) (Or.inl (hw _ (List.mem_of_getElem? (i := 33) rfl))) (by decide +kernel) (t := .int) (t' := .long) (by decide +kernel) (by decide +kernel)
theorem own_sn_35_23 {Z : State} {a0 : Array Value} (hw : ∀ d ∈ tables_1, d.before a0 Z = true) : Jvm.RoadKit.slotOf Z "gallai/service/ResidualDegrees" "partnersOf" "[I" ≠ Jvm.RoadKit.slotOf Z "gallai/service/ResidualDegrees" "countOf" "[I" := slot_ne (Or.inr (hw _ (List.mem_of_getElem? (i := 35) rfl))) (Or.inr (hw _ (List.mem_of_getElem? (i := 23) rfl))) (by decide +kernel) (t := (.array .int)) (t' := (.array .int)) (by decide +kernel) (by decide +kernel)
theorem own_sn_35_29 {Z : State} {a0 : Array Value} (hw : ∀ d ∈ tables_1, d.before a0 Z = true) : Jvm.RoadKit.slotOf Z "gallai/service/ResidualDegrees" "partnersOf" "[I" ≠ Jvm.RoadKit.slotOf Z "gallai/service/ResidualDegrees" "largest" "I" := slot_ne (Or.inr (hw _ (List.mem_of_getElem? (i := 35) rfl))) (Or.inl (hw _ (List.mem_of_getElem? (i := 29) rfl))) (by decide +kernel) (t := (.array .int)) (t' := .int) (by decide +kernel) (by decide +kernel)
theorem own_sn_35_31 {Z : State} {a0 : Array Value} (hw : ∀ d ∈ tables_1, d.before a0 Z = true) : Jvm.RoadKit.slotOf Z "gallai/service/ResidualDegrees" "partnersOf" "[I" ≠ Jvm.RoadKit.slotOf Z "gallai/service/ResidualDegrees" "atLeast" "[I" := slot_ne (Or.inr (hw _ (List.mem_of_getElem? (i := 35) rfl))) (Or.inr (hw _ (List.mem_of_getElem? (i := 31) rfl))) (by decide +kernel) (t := (.array .int)) (t' := (.array .int)) (by decide +kernel) (by decide +kernel)
theorem own_sn_35_33 {Z : State} {a0 : Array Value} (hw : ∀ d ∈ tables_1, d.before a0 Z = true) : Jvm.RoadKit.slotOf Z "gallai/service/ResidualDegrees" "partnersOf" "[I" ≠ Jvm.RoadKit.slotOf Z "gallai/service/ResidualDegrees" "sum" "J" := slot_ne (Or.inr (hw _ (List.mem_of_getElem? (i := 35) rfl))) (Or.inl (hw _ (List.mem_of_getElem? (i := 33) rfl))) (by decide +kernel) (t := (.array .int)) (t' := .long) (by decide +kernel) (by decide +kernel)
theorem own_sn_29_35 {Z : State} {a0 : Array Value} (hw : ∀ d ∈ tables_1, d.before a0 Z = true) : Jvm.RoadKit.slotOf Z "gallai/service/ResidualDegrees" "largest" "I" ≠ Jvm.RoadKit.slotOf Z "gallai/service/ResidualDegrees" "partnersOf" "[I" := slot_ne (Or.inl (hw _ (List.mem_of_getElem? (i := 29) rfl))) (Or.inr (hw _ (List.mem_of_getElem? (i := 35) rfl))) (by decide +kernel) (t := .int) (t' := (.array .int)) (by decide +kernel) (by decide +kernel)
theorem own_sn_37_23 {Z : State} {a0 : Array Value} (hw : ∀ d ∈ tables_1, d.before a0 Z = true) : Jvm.RoadKit.slotOf Z "gallai/service/ResidualDegrees" "saved" "[I" ≠ Jvm.RoadKit.slotOf Z "gallai/service/ResidualDegrees" "countOf" "[I" := slot_ne (Or.inr (hw _ (List.mem_of_getElem? (i := 37) rfl))) (Or.inr (hw _ (List.mem_of_getElem? (i := 23) rfl))) (by decide +kernel) (t := (.array .int)) (t' := (.array .int)) (by decide +kernel) (by decide +kernel)
theorem own_sn_37_29 {Z : State} {a0 : Array Value} (hw : ∀ d ∈ tables_1, d.before a0 Z = true) : Jvm.RoadKit.slotOf Z "gallai/service/ResidualDegrees" "saved" "[I" ≠ Jvm.RoadKit.slotOf Z "gallai/service/ResidualDegrees" "largest" "I" := slot_ne (Or.inr (hw _ (List.mem_of_getElem? (i := 37) rfl))) (Or.inl (hw _ (List.mem_of_getElem? (i := 29) rfl))) (by decide +kernel) (t := (.array .int)) (t' := .int) (by decide +kernel) (by decide +kernel)
theorem own_sn_37_31 {Z : State} {a0 : Array Value} (hw : ∀ d ∈ tables_1, d.before a0 Z = true) : Jvm.RoadKit.slotOf Z "gallai/service/ResidualDegrees" "saved" "[I" ≠ Jvm.RoadKit.slotOf Z "gallai/service/ResidualDegrees" "atLeast" "[I" := slot_ne (Or.inr (hw _ (List.mem_of_getElem? (i := 37) rfl))) (Or.inr (hw _ (List.mem_of_getElem? (i := 31) rfl))) (by decide +kernel) (t := (.array .int)) (t' := (.array .int)) (by decide +kernel) (by decide +kernel)
theorem own_sn_37_33 {Z : State} {a0 : Array Value} (hw : ∀ d ∈ tables_1, d.before a0 Z = true) : Jvm.RoadKit.slotOf Z "gallai/service/ResidualDegrees" "saved" "[I" ≠ Jvm.RoadKit.slotOf Z "gallai/service/ResidualDegrees" "sum" "J" := slot_ne (Or.inr (hw _ (List.mem_of_getElem? (i := 37) rfl))) (Or.inl (hw _ (List.mem_of_getElem? (i := 33) rfl))) (by decide +kernel) (t := (.array .int)) (t' := .long) (by decide +kernel) (by decide +kernel)
theorem own_sn_37_35 {Z : State} {a0 : Array Value} (hw : ∀ d ∈ tables_1, d.before a0 Z = true) : Jvm.RoadKit.slotOf Z "gallai/service/ResidualDegrees" "saved" "[I" ≠ Jvm.RoadKit.slotOf Z "gallai/service/ResidualDegrees" "partnersOf" "[I" := slot_ne (Or.inr (hw _ (List.mem_of_getElem? (i := 37) rfl))) (Or.inr (hw _ (List.mem_of_getElem? (i := 35) rfl))) (by decide +kernel) (t := (.array .int)) (t' := (.array .int)) (by decide +kernel) (by decide +kernel)
theorem own_sn_23_33 {Z : State} {a0 : Array Value} (hw : ∀ d ∈ tables_1, d.before a0 Z = true) : Jvm.RoadKit.slotOf Z "gallai/service/ResidualDegrees" "countOf" "[I" ≠ Jvm.RoadKit.slotOf Z "gallai/service/ResidualDegrees" "sum" "J" := slot_ne (Or.inr (hw _ (List.mem_of_getElem? (i := 23) rfl))) (Or.inl (hw _ (List.mem_of_getElem? (i := 33) rfl))) (by decide +kernel) (t := (.array .int)) (t' := .long) (by decide +kernel) (by decide +kernel)
theorem own_sn_23_35 {Z : State} {a0 : Array Value} (hw : ∀ d ∈ tables_1, d.before a0 Z = true) : Jvm.RoadKit.slotOf Z "gallai/service/ResidualDegrees" "countOf" "[I" ≠ Jvm.RoadKit.slotOf Z "gallai/service/ResidualDegrees" "partnersOf" "[I" := slot_ne (Or.inr (hw _ (List.mem_of_getElem? (i := 23) rfl))) (Or.inr (hw _ (List.mem_of_getElem? (i := 35) rfl))) (by decide +kernel) (t := (.array .int)) (t' := (.array .int)) (by decide +kernel) (by decide +kernel)
theorem own_sn_23_37 {Z : State} {a0 : Array Value} (hw : ∀ d ∈ tables_1, d.before a0 Z = true) : Jvm.RoadKit.slotOf Z "gallai/service/ResidualDegrees" "countOf" "[I" ≠ Jvm.RoadKit.slotOf Z "gallai/service/ResidualDegrees" "saved" "[I" := slot_ne (Or.inr (hw _ (List.mem_of_getElem? (i := 23) rfl))) (Or.inr (hw _ (List.mem_of_getElem? (i := 37) rfl))) (by decide +kernel) (t := (.array .int)) (t' := (.array .int)) (by decide +kernel) (by decide +kernel)
theorem own_sn_29_37 {Z : State} {a0 : Array Value} (hw : ∀ d ∈ tables_1, d.before a0 Z = true) : Jvm.RoadKit.slotOf Z "gallai/service/ResidualDegrees" "largest" "I" ≠ Jvm.RoadKit.slotOf Z "gallai/service/ResidualDegrees" "saved" "[I" := slot_ne (Or.inl (hw _ (List.mem_of_getElem? (i := 29) rfl))) (Or.inr (hw _ (List.mem_of_getElem? (i := 37) rfl))) (by decide +kernel) (t := .int) (t' := (.array .int)) (by decide +kernel) (by decide +kernel)
theorem own_sn_47_23 {Z : State} {a0 : Array Value} (hw : ∀ d ∈ tables_1, d.before a0 Z = true) : Jvm.RoadKit.slotOf Z "gallai/service/ResidualDegrees" "slack" "[J" ≠ Jvm.RoadKit.slotOf Z "gallai/service/ResidualDegrees" "countOf" "[I" := slot_ne (Or.inr (hw _ (List.mem_of_getElem? (i := 47) rfl))) (Or.inr (hw _ (List.mem_of_getElem? (i := 23) rfl))) (by decide +kernel) (t := (.array .long)) (t' := (.array .int)) (by decide +kernel) (by decide +kernel)
theorem own_sn_47_29 {Z : State} {a0 : Array Value} (hw : ∀ d ∈ tables_1, d.before a0 Z = true) : Jvm.RoadKit.slotOf Z "gallai/service/ResidualDegrees" "slack" "[J" ≠ Jvm.RoadKit.slotOf Z "gallai/service/ResidualDegrees" "largest" "I" := slot_ne (Or.inr (hw _ (List.mem_of_getElem? (i := 47) rfl))) (Or.inl (hw _ (List.mem_of_getElem? (i := 29) rfl))) (by decide +kernel) (t := (.array .long)) (t' := .int) (by decide +kernel) (by decide +kernel)
theorem own_sn_47_31 {Z : State} {a0 : Array Value} (hw : ∀ d ∈ tables_1, d.before a0 Z = true) : Jvm.RoadKit.slotOf Z "gallai/service/ResidualDegrees" "slack" "[J" ≠ Jvm.RoadKit.slotOf Z "gallai/service/ResidualDegrees" "atLeast" "[I" := slot_ne (Or.inr (hw _ (List.mem_of_getElem? (i := 47) rfl))) (Or.inr (hw _ (List.mem_of_getElem? (i := 31) rfl))) (by decide +kernel) (t := (.array .long)) (t' := (.array .int)) (by decide +kernel) (by decide +kernel)
theorem own_sn_47_33 {Z : State} {a0 : Array Value} (hw : ∀ d ∈ tables_1, d.before a0 Z = true) : Jvm.RoadKit.slotOf Z "gallai/service/ResidualDegrees" "slack" "[J" ≠ Jvm.RoadKit.slotOf Z "gallai/service/ResidualDegrees" "sum" "J" := slot_ne (Or.inr (hw _ (List.mem_of_getElem? (i := 47) rfl))) (Or.inl (hw _ (List.mem_of_getElem? (i := 33) rfl))) (by decide +kernel) (t := (.array .long)) (t' := .long) (by decide +kernel) (by decide +kernel)
theorem own_sn_47_35 {Z : State} {a0 : Array Value} (hw : ∀ d ∈ tables_1, d.before a0 Z = true) : Jvm.RoadKit.slotOf Z "gallai/service/ResidualDegrees" "slack" "[J" ≠ Jvm.RoadKit.slotOf Z "gallai/service/ResidualDegrees" "partnersOf" "[I" := slot_ne (Or.inr (hw _ (List.mem_of_getElem? (i := 47) rfl))) (Or.inr (hw _ (List.mem_of_getElem? (i := 35) rfl))) (by decide +kernel) (t := (.array .long)) (t' := (.array .int)) (by decide +kernel) (by decide +kernel)
theorem own_sn_47_37 {Z : State} {a0 : Array Value} (hw : ∀ d ∈ tables_1, d.before a0 Z = true) : Jvm.RoadKit.slotOf Z "gallai/service/ResidualDegrees" "slack" "[J" ≠ Jvm.RoadKit.slotOf Z "gallai/service/ResidualDegrees" "saved" "[I" := slot_ne (Or.inr (hw _ (List.mem_of_getElem? (i := 47) rfl))) (Or.inr (hw _ (List.mem_of_getElem? (i := 37) rfl))) (by decide +kernel) (t := (.array .long)) (t' := (.array .int)) (by decide +kernel) (by decide +kernel)
theorem own_sn_49_23 {Z : State} {a0 : Array Value} (hw : ∀ d ∈ tables_1, d.before a0 Z = true) : Jvm.RoadKit.slotOf Z "gallai/service/ResidualDegrees" "nextTight" "[I" ≠ Jvm.RoadKit.slotOf Z "gallai/service/ResidualDegrees" "countOf" "[I" := slot_ne (Or.inr (hw _ (List.mem_of_getElem? (i := 49) rfl))) (Or.inr (hw _ (List.mem_of_getElem? (i := 23) rfl))) (by decide +kernel) (t := (.array .int)) (t' := (.array .int)) (by decide +kernel) (by decide +kernel)
theorem own_sn_49_29 {Z : State} {a0 : Array Value} (hw : ∀ d ∈ tables_1, d.before a0 Z = true) : Jvm.RoadKit.slotOf Z "gallai/service/ResidualDegrees" "nextTight" "[I" ≠ Jvm.RoadKit.slotOf Z "gallai/service/ResidualDegrees" "largest" "I" := slot_ne (Or.inr (hw _ (List.mem_of_getElem? (i := 49) rfl))) (Or.inl (hw _ (List.mem_of_getElem? (i := 29) rfl))) (by decide +kernel) (t := (.array .int)) (t' := .int) (by decide +kernel) (by decide +kernel)
theorem own_sn_49_31 {Z : State} {a0 : Array Value} (hw : ∀ d ∈ tables_1, d.before a0 Z = true) : Jvm.RoadKit.slotOf Z "gallai/service/ResidualDegrees" "nextTight" "[I" ≠ Jvm.RoadKit.slotOf Z "gallai/service/ResidualDegrees" "atLeast" "[I" := slot_ne (Or.inr (hw _ (List.mem_of_getElem? (i := 49) rfl))) (Or.inr (hw _ (List.mem_of_getElem? (i := 31) rfl))) (by decide +kernel) (t := (.array .int)) (t' := (.array .int)) (by decide +kernel) (by decide +kernel)
theorem own_sn_49_33 {Z : State} {a0 : Array Value} (hw : ∀ d ∈ tables_1, d.before a0 Z = true) : Jvm.RoadKit.slotOf Z "gallai/service/ResidualDegrees" "nextTight" "[I" ≠ Jvm.RoadKit.slotOf Z "gallai/service/ResidualDegrees" "sum" "J" := slot_ne (Or.inr (hw _ (List.mem_of_getElem? (i := 49) rfl))) (Or.inl (hw _ (List.mem_of_getElem? (i := 33) rfl))) (by decide +kernel) (t := (.array .int)) (t' := .long) (by decide +kernel) (by decide +kernel)
theorem own_sn_49_35 {Z : State} {a0 : Array Value} (hw : ∀ d ∈ tables_1, d.before a0 Z = true) : Jvm.RoadKit.slotOf Z "gallai/service/ResidualDegrees" "nextTight" "[I" ≠ Jvm.RoadKit.slotOf Z "gallai/service/ResidualDegrees" "partnersOf" "[I" := slot_ne (Or.inr (hw _ (List.mem_of_getElem? (i := 49) rfl))) (Or.inr (hw _ (List.mem_of_getElem? (i := 35) rfl))) (by decide +kernel) (t := (.array .int)) (t' := (.array .int)) (by decide +kernel) (by decide +kernel)
theorem own_sn_49_37 {Z : State} {a0 : Array Value} (hw : ∀ d ∈ tables_1, d.before a0 Z = true) : Jvm.RoadKit.slotOf Z "gallai/service/ResidualDegrees" "nextTight" "[I" ≠ Jvm.RoadKit.slotOf Z "gallai/service/ResidualDegrees" "saved" "[I" := slot_ne (Or.inr (hw _ (List.mem_of_getElem? (i := 49) rfl))) (Or.inr (hw _ (List.mem_of_getElem? (i := 37) rfl))) (by decide +kernel) (t := (.array .int)) (t' := (.array .int)) (by decide +kernel) (by decide +kernel)
theorem own_sn_49_47 {Z : State} {a0 : Array Value} (hw : ∀ d ∈ tables_1, d.before a0 Z = true) : Jvm.RoadKit.slotOf Z "gallai/service/ResidualDegrees" "nextTight" "[I" ≠ Jvm.RoadKit.slotOf Z "gallai/service/ResidualDegrees" "slack" "[J" := slot_ne (Or.inr (hw _ (List.mem_of_getElem? (i := 49) rfl))) (Or.inr (hw _ (List.mem_of_getElem? (i := 47) rfl))) (by decide +kernel) (t := (.array .int)) (t' := (.array .long)) (by decide +kernel) (by decide +kernel)
theorem own_sn_23_47 {Z : State} {a0 : Array Value} (hw : ∀ d ∈ tables_1, d.before a0 Z = true) : Jvm.RoadKit.slotOf Z "gallai/service/ResidualDegrees" "countOf" "[I" ≠ Jvm.RoadKit.slotOf Z "gallai/service/ResidualDegrees" "slack" "[J" := slot_ne (Or.inr (hw _ (List.mem_of_getElem? (i := 23) rfl))) (Or.inr (hw _ (List.mem_of_getElem? (i := 47) rfl))) (by decide +kernel) (t := (.array .int)) (t' := (.array .long)) (by decide +kernel) (by decide +kernel)
theorem own_sn_23_49 {Z : State} {a0 : Array Value} (hw : ∀ d ∈ tables_1, d.before a0 Z = true) : Jvm.RoadKit.slotOf Z "gallai/service/ResidualDegrees" "countOf" "[I" ≠ Jvm.RoadKit.slotOf Z "gallai/service/ResidualDegrees" "nextTight" "[I" := slot_ne (Or.inr (hw _ (List.mem_of_getElem? (i := 23) rfl))) (Or.inr (hw _ (List.mem_of_getElem? (i := 49) rfl))) (by decide +kernel) (t := (.array .int)) (t' := (.array .int)) (by decide +kernel) (by decide +kernel)
theorem own_sn_29_47 {Z : State} {a0 : Array Value} (hw : ∀ d ∈ tables_1, d.before a0 Z = true) : Jvm.RoadKit.slotOf Z "gallai/service/ResidualDegrees" "largest" "I" ≠ Jvm.RoadKit.slotOf Z "gallai/service/ResidualDegrees" "slack" "[J" := slot_ne (Or.inl (hw _ (List.mem_of_getElem? (i := 29) rfl))) (Or.inr (hw _ (List.mem_of_getElem? (i := 47) rfl))) (by decide +kernel) (t := .int) (t' := (.array .long)) (by decide +kernel) (by decide +kernel)
theorem own_sn_29_49 {Z : State} {a0 : Array Value} (hw : ∀ d ∈ tables_1, d.before a0 Z = true) : Jvm.RoadKit.slotOf Z "gallai/service/ResidualDegrees" "largest" "I" ≠ Jvm.RoadKit.slotOf Z "gallai/service/ResidualDegrees" "nextTight" "[I" := slot_ne (Or.inl (hw _ (List.mem_of_getElem? (i := 29) rfl))) (Or.inr (hw _ (List.mem_of_getElem? (i := 49) rfl))) (by decide +kernel) (t := .int) (t' := (.array .int)) (by decide +kernel) (by decide +kernel)
theorem own_sn_31_33 {Z : State} {a0 : Array Value} (hw : ∀ d ∈ tables_1, d.before a0 Z = true) : Jvm.RoadKit.slotOf Z "gallai/service/ResidualDegrees" "atLeast" "[I" ≠ Jvm.RoadKit.slotOf Z "gallai/service/ResidualDegrees" "sum" "J" := slot_ne (Or.inr (hw _ (List.mem_of_getElem? (i := 31) rfl))) (Or.inl (hw _ (List.mem_of_getElem? (i := 33) rfl))) (by decide +kernel) (t := (.array .int)) (t' := .long) (by decide +kernel) (by decide +kernel)
theorem own_sn_31_35 {Z : State} {a0 : Array Value} (hw : ∀ d ∈ tables_1, d.before a0 Z = true) : Jvm.RoadKit.slotOf Z "gallai/service/ResidualDegrees" "atLeast" "[I" ≠ Jvm.RoadKit.slotOf Z "gallai/service/ResidualDegrees" "partnersOf" "[I" := slot_ne (Or.inr (hw _ (List.mem_of_getElem? (i := 31) rfl))) (Or.inr (hw _ (List.mem_of_getElem? (i := 35) rfl))) (by decide +kernel) (t := (.array .int)) (t' := (.array .int)) (by decide +kernel) (by decide +kernel)
theorem own_sn_31_37 {Z : State} {a0 : Array Value} (hw : ∀ d ∈ tables_1, d.before a0 Z = true) : Jvm.RoadKit.slotOf Z "gallai/service/ResidualDegrees" "atLeast" "[I" ≠ Jvm.RoadKit.slotOf Z "gallai/service/ResidualDegrees" "saved" "[I" := slot_ne (Or.inr (hw _ (List.mem_of_getElem? (i := 31) rfl))) (Or.inr (hw _ (List.mem_of_getElem? (i := 37) rfl))) (by decide +kernel) (t := (.array .int)) (t' := (.array .int)) (by decide +kernel) (by decide +kernel)
theorem own_sn_31_47 {Z : State} {a0 : Array Value} (hw : ∀ d ∈ tables_1, d.before a0 Z = true) : Jvm.RoadKit.slotOf Z "gallai/service/ResidualDegrees" "atLeast" "[I" ≠ Jvm.RoadKit.slotOf Z "gallai/service/ResidualDegrees" "slack" "[J" := slot_ne (Or.inr (hw _ (List.mem_of_getElem? (i := 31) rfl))) (Or.inr (hw _ (List.mem_of_getElem? (i := 47) rfl))) (by decide +kernel) (t := (.array .int)) (t' := (.array .long)) (by decide +kernel) (by decide +kernel)
theorem own_sn_31_49 {Z : State} {a0 : Array Value} (hw : ∀ d ∈ tables_1, d.before a0 Z = true) : Jvm.RoadKit.slotOf Z "gallai/service/ResidualDegrees" "atLeast" "[I" ≠ Jvm.RoadKit.slotOf Z "gallai/service/ResidualDegrees" "nextTight" "[I" := slot_ne (Or.inr (hw _ (List.mem_of_getElem? (i := 31) rfl))) (Or.inr (hw _ (List.mem_of_getElem? (i := 49) rfl))) (by decide +kernel) (t := (.array .int)) (t' := (.array .int)) (by decide +kernel) (by decide +kernel)
theorem own_sn_33_35 {Z : State} {a0 : Array Value} (hw : ∀ d ∈ tables_1, d.before a0 Z = true) : Jvm.RoadKit.slotOf Z "gallai/service/ResidualDegrees" "sum" "J" ≠ Jvm.RoadKit.slotOf Z "gallai/service/ResidualDegrees" "partnersOf" "[I" := slot_ne (Or.inl (hw _ (List.mem_of_getElem? (i := 33) rfl))) (Or.inr (hw _ (List.mem_of_getElem? (i := 35) rfl))) (by decide +kernel) (t := .long) (t' := (.array .int)) (by decide +kernel) (by decide +kernel)
theorem own_sn_33_37 {Z : State} {a0 : Array Value} (hw : ∀ d ∈ tables_1, d.before a0 Z = true) : Jvm.RoadKit.slotOf Z "gallai/service/ResidualDegrees" "sum" "J" ≠ Jvm.RoadKit.slotOf Z "gallai/service/ResidualDegrees" "saved" "[I" := slot_ne (Or.inl (hw _ (List.mem_of_getElem? (i := 33) rfl))) (Or.inr (hw _ (List.mem_of_getElem? (i := 37) rfl))) (by decide +kernel) (t := .long) (t' := (.array .int)) (by decide +kernel) (by decide +kernel)
theorem own_sn_33_47 {Z : State} {a0 : Array Value} (hw : ∀ d ∈ tables_1, d.before a0 Z = true) : Jvm.RoadKit.slotOf Z "gallai/service/ResidualDegrees" "sum" "J" ≠ Jvm.RoadKit.slotOf Z "gallai/service/ResidualDegrees" "slack" "[J" := slot_ne (Or.inl (hw _ (List.mem_of_getElem? (i := 33) rfl))) (Or.inr (hw _ (List.mem_of_getElem? (i := 47) rfl))) (by decide +kernel) (t := .long) (t' := (.array .long)) (by decide +kernel) (by decide +kernel)
theorem own_sn_33_49 {Z : State} {a0 : Array Value} (hw : ∀ d ∈ tables_1, d.before a0 Z = true) : Jvm.RoadKit.slotOf Z "gallai/service/ResidualDegrees" "sum" "J" ≠ Jvm.RoadKit.slotOf Z "gallai/service/ResidualDegrees" "nextTight" "[I" := slot_ne (Or.inl (hw _ (List.mem_of_getElem? (i := 33) rfl))) (Or.inr (hw _ (List.mem_of_getElem? (i := 49) rfl))) (by decide +kernel) (t := .long) (t' := (.array .int)) (by decide +kernel) (by decide +kernel)
theorem own_sn_35_37 {Z : State} {a0 : Array Value} (hw : ∀ d ∈ tables_1, d.before a0 Z = true) : Jvm.RoadKit.slotOf Z "gallai/service/ResidualDegrees" "partnersOf" "[I" ≠ Jvm.RoadKit.slotOf Z "gallai/service/ResidualDegrees" "saved" "[I" := slot_ne (Or.inr (hw _ (List.mem_of_getElem? (i := 35) rfl))) (Or.inr (hw _ (List.mem_of_getElem? (i := 37) rfl))) (by decide +kernel) (t := (.array .int)) (t' := (.array .int)) (by decide +kernel) (by decide +kernel)
theorem own_sn_35_47 {Z : State} {a0 : Array Value} (hw : ∀ d ∈ tables_1, d.before a0 Z = true) : Jvm.RoadKit.slotOf Z "gallai/service/ResidualDegrees" "partnersOf" "[I" ≠ Jvm.RoadKit.slotOf Z "gallai/service/ResidualDegrees" "slack" "[J" := slot_ne (Or.inr (hw _ (List.mem_of_getElem? (i := 35) rfl))) (Or.inr (hw _ (List.mem_of_getElem? (i := 47) rfl))) (by decide +kernel) (t := (.array .int)) (t' := (.array .long)) (by decide +kernel) (by decide +kernel)
theorem own_sn_35_49 {Z : State} {a0 : Array Value} (hw : ∀ d ∈ tables_1, d.before a0 Z = true) : Jvm.RoadKit.slotOf Z "gallai/service/ResidualDegrees" "partnersOf" "[I" ≠ Jvm.RoadKit.slotOf Z "gallai/service/ResidualDegrees" "nextTight" "[I" := slot_ne (Or.inr (hw _ (List.mem_of_getElem? (i := 35) rfl))) (Or.inr (hw _ (List.mem_of_getElem? (i := 49) rfl))) (by decide +kernel) (t := (.array .int)) (t' := (.array .int)) (by decide +kernel) (by decide +kernel)
theorem own_sn_37_47 {Z : State} {a0 : Array Value} (hw : ∀ d ∈ tables_1, d.before a0 Z = true) : Jvm.RoadKit.slotOf Z "gallai/service/ResidualDegrees" "saved" "[I" ≠ Jvm.RoadKit.slotOf Z "gallai/service/ResidualDegrees" "slack" "[J" := slot_ne (Or.inr (hw _ (List.mem_of_getElem? (i := 37) rfl))) (Or.inr (hw _ (List.mem_of_getElem? (i := 47) rfl))) (by decide +kernel) (t := (.array .int)) (t' := (.array .long)) (by decide +kernel) (by decide +kernel)
theorem own_sn_37_49 {Z : State} {a0 : Array Value} (hw : ∀ d ∈ tables_1, d.before a0 Z = true) : Jvm.RoadKit.slotOf Z "gallai/service/ResidualDegrees" "saved" "[I" ≠ Jvm.RoadKit.slotOf Z "gallai/service/ResidualDegrees" "nextTight" "[I" := slot_ne (Or.inr (hw _ (List.mem_of_getElem? (i := 37) rfl))) (Or.inr (hw _ (List.mem_of_getElem? (i := 49) rfl))) (by decide +kernel) (t := (.array .int)) (t' := (.array .int)) (by decide +kernel) (by decide +kernel)
theorem own_sn_47_49 {Z : State} {a0 : Array Value} (hw : ∀ d ∈ tables_1, d.before a0 Z = true) : Jvm.RoadKit.slotOf Z "gallai/service/ResidualDegrees" "slack" "[J" ≠ Jvm.RoadKit.slotOf Z "gallai/service/ResidualDegrees" "nextTight" "[I" := slot_ne (Or.inr (hw _ (List.mem_of_getElem? (i := 47) rfl))) (Or.inr (hw _ (List.mem_of_getElem? (i := 49) rfl))) (by decide +kernel) (t := (.array .long)) (t' := (.array .int)) (by decide +kernel) (by decide +kernel)
theorem d1_0 : decode prog_45_method_1_code 0 = .ok (.aload_n 0, 1) := by decide +kernel
theorem d1_1 : decode prog_45_method_1_code 1 = .ok (.invokespecial 1, 3) := by decide +kernel
theorem d1_4 : decode prog_45_method_1_code 4 = .ok (.aload_n 0, 1) := by decide +kernel
theorem d1_5 : decode prog_45_method_1_code 5 = .ok (.aload_n 1, 1) := by decide +kernel
theorem d1_6 : decode prog_45_method_1_code 6 = .ok (.invokevirtual 7, 3) := by decide +kernel
theorem d1_9 : decode prog_45_method_1_code 9 = .ok (.checkcast 8, 3) := by decide +kernel
theorem d1_12 : decode prog_45_method_1_code 12 = .ok (.putfield 13, 3) := by decide +kernel
theorem d1_15 : decode prog_45_method_1_code 15 = .ok (.aload_n 0, 1) := by decide +kernel
theorem d1_16 : decode prog_45_method_1_code 16 = .ok (.aload_n 0, 1) := by decide +kernel
theorem d1_17 : decode prog_45_method_1_code 17 = .ok (.getfield 13, 3) := by decide +kernel
theorem d1_20 : decode prog_45_method_1_code 20 = .ok (.arraylength, 1) := by decide +kernel
theorem d1_21 : decode prog_45_method_1_code 21 = .ok (.iconst 1, 1) := by decide +kernel
theorem d1_22 : decode prog_45_method_1_code 22 = .ok (.isub, 1) := by decide +kernel
theorem d1_23 : decode prog_45_method_1_code 23 = .ok (.iconst 0, 1) := by decide +kernel
theorem d1_24 : decode prog_45_method_1_code 24 = .ok (.invokestatic 18, 3) := by decide +kernel
theorem d1_27 : decode prog_45_method_1_code 27 = .ok (.putfield 24, 3) := by decide +kernel
theorem d1_30 : decode prog_45_method_1_code 30 = .ok (.aload_n 0, 1) := by decide +kernel
theorem d1_31 : decode prog_45_method_1_code 31 = .ok (.getfield 24, 3) := by decide +kernel
theorem d1_34 : decode prog_45_method_1_code 34 = .ok (.ifCond .le 28, 3) := by decide +kernel
theorem d1_37 : decode prog_45_method_1_code 37 = .ok (.aload_n 0, 1) := by decide +kernel
theorem d1_38 : decode prog_45_method_1_code 38 = .ok (.getfield 13, 3) := by decide +kernel
theorem d1_41 : decode prog_45_method_1_code 41 = .ok (.aload_n 0, 1) := by decide +kernel
theorem d1_42 : decode prog_45_method_1_code 42 = .ok (.getfield 24, 3) := by decide +kernel
theorem d1_45 : decode prog_45_method_1_code 45 = .ok (.iaload, 1) := by decide +kernel
theorem d1_46 : decode prog_45_method_1_code 46 = .ok (.ifCond .ne 16, 3) := by decide +kernel
theorem d1_49 : decode prog_45_method_1_code 49 = .ok (.aload_n 0, 1) := by decide +kernel
theorem d1_50 : decode prog_45_method_1_code 50 = .ok (.dup, 1) := by decide +kernel
theorem d1_51 : decode prog_45_method_1_code 51 = .ok (.getfield 24, 3) := by decide +kernel
theorem d1_54 : decode prog_45_method_1_code 54 = .ok (.iconst 1, 1) := by decide +kernel
theorem d1_55 : decode prog_45_method_1_code 55 = .ok (.isub, 1) := by decide +kernel
theorem d1_56 : decode prog_45_method_1_code 56 = .ok (.putfield 24, 3) := by decide +kernel
theorem d1_59 : decode prog_45_method_1_code 59 = .ok (.goto (-29), 3) := by decide +kernel
theorem d1_62 : decode prog_45_method_1_code 62 = .ok (.aload_n 0, 1) := by decide +kernel
theorem d1_63 : decode prog_45_method_1_code 63 = .ok (.aload_n 0, 1) := by decide +kernel
theorem d1_64 : decode prog_45_method_1_code 64 = .ok (.getfield 24, 3) := by decide +kernel
theorem d1_67 : decode prog_45_method_1_code 67 = .ok (.iconst 2, 1) := by decide +kernel
theorem d1_68 : decode prog_45_method_1_code 68 = .ok (.iadd, 1) := by decide +kernel
theorem d1_69 : decode prog_45_method_1_code 69 = .ok (.newarray .int, 2) := by decide +kernel
theorem d1_71 : decode prog_45_method_1_code 71 = .ok (.putfield 28, 3) := by decide +kernel
theorem d1_74 : decode prog_45_method_1_code 74 = .ok (.aload_n 0, 1) := by decide +kernel
theorem d1_75 : decode prog_45_method_1_code 75 = .ok (.getfield 24, 3) := by decide +kernel
theorem d1_78 : decode prog_45_method_1_code 78 = .ok (.istore 4, 2) := by decide +kernel
theorem d1_80 : decode prog_45_method_1_code 80 = .ok (.iload 4, 2) := by decide +kernel
theorem d1_82 : decode prog_45_method_1_code 82 = .ok (.iconst 1, 1) := by decide +kernel
theorem d1_83 : decode prog_45_method_1_code 83 = .ok (.if_icmp .lt 33, 3) := by decide +kernel
theorem d1_86 : decode prog_45_method_1_code 86 = .ok (.aload_n 0, 1) := by decide +kernel
theorem d1_87 : decode prog_45_method_1_code 87 = .ok (.getfield 28, 3) := by decide +kernel
theorem d1_90 : decode prog_45_method_1_code 90 = .ok (.iload 4, 2) := by decide +kernel
theorem d1_92 : decode prog_45_method_1_code 92 = .ok (.aload_n 0, 1) := by decide +kernel
theorem d1_93 : decode prog_45_method_1_code 93 = .ok (.getfield 28, 3) := by decide +kernel
theorem d1_96 : decode prog_45_method_1_code 96 = .ok (.iload 4, 2) := by decide +kernel
theorem d1_98 : decode prog_45_method_1_code 98 = .ok (.iconst 1, 1) := by decide +kernel
theorem d1_99 : decode prog_45_method_1_code 99 = .ok (.iadd, 1) := by decide +kernel
theorem d1_100 : decode prog_45_method_1_code 100 = .ok (.iaload, 1) := by decide +kernel
theorem d1_101 : decode prog_45_method_1_code 101 = .ok (.aload_n 0, 1) := by decide +kernel
theorem d1_102 : decode prog_45_method_1_code 102 = .ok (.getfield 13, 3) := by decide +kernel
theorem d1_105 : decode prog_45_method_1_code 105 = .ok (.iload 4, 2) := by decide +kernel
theorem d1_107 : decode prog_45_method_1_code 107 = .ok (.iaload, 1) := by decide +kernel
theorem d1_108 : decode prog_45_method_1_code 108 = .ok (.iadd, 1) := by decide +kernel
theorem d1_109 : decode prog_45_method_1_code 109 = .ok (.iastore, 1) := by decide +kernel
theorem d1_110 : decode prog_45_method_1_code 110 = .ok (.iinc 4 (-1), 3) := by decide +kernel
theorem d1_113 : decode prog_45_method_1_code 113 = .ok (.goto (-33), 3) := by decide +kernel
theorem d1_116 : decode prog_45_method_1_code 116 = .ok (.aload_n 0, 1) := by decide +kernel
theorem d1_117 : decode prog_45_method_1_code 117 = .ok (.lload_n 2, 1) := by decide +kernel
theorem d1_118 : decode prog_45_method_1_code 118 = .ok (.putfield 31, 3) := by decide +kernel
theorem d1_121 : decode prog_45_method_1_code 121 = .ok (.aload_n 0, 1) := by decide +kernel
theorem d1_122 : decode prog_45_method_1_code 122 = .ok (.aload_n 0, 1) := by decide +kernel
theorem d1_123 : decode prog_45_method_1_code 123 = .ok (.getfield 24, 3) := by decide +kernel
theorem d1_126 : decode prog_45_method_1_code 126 = .ok (.iconst 1, 1) := by decide +kernel
theorem d1_127 : decode prog_45_method_1_code 127 = .ok (.iadd, 1) := by decide +kernel
theorem d1_128 : decode prog_45_method_1_code 128 = .ok (.newarray .int, 2) := by decide +kernel
theorem d1_130 : decode prog_45_method_1_code 130 = .ok (.putfield 35, 3) := by decide +kernel
theorem d1_133 : decode prog_45_method_1_code 133 = .ok (.aload_n 0, 1) := by decide +kernel
theorem d1_134 : decode prog_45_method_1_code 134 = .ok (.aload_n 0, 1) := by decide +kernel
theorem d1_135 : decode prog_45_method_1_code 135 = .ok (.getfield 24, 3) := by decide +kernel
theorem d1_138 : decode prog_45_method_1_code 138 = .ok (.iconst 1, 1) := by decide +kernel
theorem d1_139 : decode prog_45_method_1_code 139 = .ok (.iadd, 1) := by decide +kernel
theorem d1_140 : decode prog_45_method_1_code 140 = .ok (.newarray .int, 2) := by decide +kernel
theorem d1_142 : decode prog_45_method_1_code 142 = .ok (.putfield 38, 3) := by decide +kernel
theorem d1_145 : decode prog_45_method_1_code 145 = .ok (.aload_n 0, 1) := by decide +kernel
theorem d1_146 : decode prog_45_method_1_code 146 = .ok (.aload_n 0, 1) := by decide +kernel
theorem d1_147 : decode prog_45_method_1_code 147 = .ok (.getfield 13, 3) := by decide +kernel
theorem d1_150 : decode prog_45_method_1_code 150 = .ok (.arraylength, 1) := by decide +kernel
theorem d1_151 : decode prog_45_method_1_code 151 = .ok (.aload_n 0, 1) := by decide +kernel
theorem d1_152 : decode prog_45_method_1_code 152 = .ok (.getfield 24, 3) := by decide +kernel
theorem d1_155 : decode prog_45_method_1_code 155 = .ok (.invokestatic 41, 3) := by decide +kernel
theorem d1_158 : decode prog_45_method_1_code 158 = .ok (.newarray .long, 2) := by decide +kernel
theorem d1_160 : decode prog_45_method_1_code 160 = .ok (.putfield 46, 3) := by decide +kernel
theorem d1_163 : decode prog_45_method_1_code 163 = .ok (.aload_n 0, 1) := by decide +kernel
theorem d1_164 : decode prog_45_method_1_code 164 = .ok (.aload_n 0, 1) := by decide +kernel
theorem d1_165 : decode prog_45_method_1_code 165 = .ok (.getfield 46, 3) := by decide +kernel
theorem d1_168 : decode prog_45_method_1_code 168 = .ok (.arraylength, 1) := by decide +kernel
theorem d1_169 : decode prog_45_method_1_code 169 = .ok (.iconst 1, 1) := by decide +kernel
theorem d1_170 : decode prog_45_method_1_code 170 = .ok (.iadd, 1) := by decide +kernel
theorem d1_171 : decode prog_45_method_1_code 171 = .ok (.newarray .int, 2) := by decide +kernel
theorem d1_173 : decode prog_45_method_1_code 173 = .ok (.putfield 50, 3) := by decide +kernel
theorem d1_176 : decode prog_45_method_1_code 176 = .ok (.return_, 1) := by decide +kernel
theorem ef_1L1 (m : MethodId) (a1_0 : Addr) (a1_1 : Addr) (q1_2 : Int64) : entryFrame m #[(.ref a1_0), (.ref a1_1), (.long q1_2)] 5 = mkF m 0 #[.val (.ref a1_0), .val (.ref a1_1), .val (.long q1_2), .second, .unset] [] := by first | (simp [entryFrame, mkF, argsToLocals, Value.category]; done) | rfl
def Q1L1 (Z : State) (a1_0 : Addr) (a1_1 : Addr) (q1_2 : Int64) (u1_largest : Int32) (v1_sum : Int64) (ky : ClassId) (y0 : Int32) (y1 : Int32) (y2 : Int32) (y3 : Int32) (h0 : Heap) (n0 : Nat) (v : Option Value) (h : Heap) (L : List Loc) : Prop := ∃ (bf0 : Addr) (bf1 : Addr) (bf2 : Addr) (bf3 : Addr) (bf4 : Addr) (bf5 : Addr) (kf0 : ClassId) (kf1 : ClassId) (kf2 : ClassId) (kf3 : ClassId) (kf4 : ClassId) (kf5 : ClassId), h0.size ≤ bf0 ∧ h0.size ≤ bf1 ∧ h0.size ≤ bf2 ∧ h0.size ≤ bf3 ∧ h0.size ≤ bf4 ∧ h0.size ≤ bf5 ∧ bf0 ≠ bf1 ∧ bf0 ≠ bf2 ∧ bf0 ≠ bf3 ∧ bf0 ≠ bf4 ∧ bf0 ≠ bf5 ∧ bf1 ≠ bf2 ∧ bf1 ≠ bf3 ∧ bf1 ≠ bf4 ∧ bf1 ≠ bf5 ∧ bf2 ≠ bf3 ∧ bf2 ≠ bf4 ∧ bf2 ≠ bf5 ∧ bf3 ≠ bf4 ∧ bf3 ≠ bf5 ∧ bf4 ≠ bf5 ∧ v = none ∧ Fr n0 L ∧ Keep h0 h [a1_0] ∧ Arv Z h bf0 kf0 .int (4 : Int32) [(.int y0), (.int y1), (.int y2), (.int y3)] (.int (0 : Int32)) ∧ Arv Z h bf1 kf1 .int (3 : Int32) [(.int 0), (.int ((0 : Int32) + y1)), (.int 0)] (.int 0) ∧ Arv Z h bf2 kf2 .int (2 : Int32) [(.int 0), (.int 0)] (.int 0) ∧ Arv Z h bf3 kf3 .int (2 : Int32) [(.int 0), (.int 0)] (.int 0) ∧ Arv Z h bf4 kf4 .long (2 : Int32) [(.long 0), (.long 0)] (.long 0) ∧ Arv Z h bf5 kf5 .int (3 : Int32) [(.int 0), (.int 0), (.int 0)] (.int 0) ∧ Exa Z h a1_0 "gallai/service/ResidualDegrees" ∧ Fld Z h a1_0 "gallai/service/ResidualDegrees" "countOf" "[I" (.ref bf0) ∧ Fld Z h a1_0 "gallai/service/ResidualDegrees" "largest" "I" (.int 1) ∧ Fld Z h a1_0 "gallai/service/ResidualDegrees" "atLeast" "[I" (.ref bf1) ∧ Fld Z h a1_0 "gallai/service/ResidualDegrees" "sum" "J" (.long q1_2) ∧ Fld Z h a1_0 "gallai/service/ResidualDegrees" "partnersOf" "[I" (.ref bf2) ∧ Fld Z h a1_0 "gallai/service/ResidualDegrees" "saved" "[I" (.ref bf3) ∧ Fld Z h a1_0 "gallai/service/ResidualDegrees" "slack" "[J" (.ref bf4) ∧ Fld Z h a1_0 "gallai/service/ResidualDegrees" "nextTight" "[I" (.ref bf5)
set_option maxRecDepth 65536 in
set_option maxHeartbeats 40000000 in
theorem rm1L1 (l : Launch) (Z : State) (a0 : Array Value) (hw : ∀ d ∈ tables_1, d.before a0 Z = true) (ws : List Jvm.Cond) (a1_0 : Addr) (a1_1 : Addr) (q1_2 : Int64) (u1_largest : Int32) (v1_sum : Int64) (ky : ClassId) (y0 : Int32) (y1 : Int32) (y2 : Int32) (y3 : Int32) (h0 : Heap) (n0 : Nat) (Z0 : n0 ≤ h0.size) (F_countOf_a1_0 : Fld Z h0 a1_0 "gallai/service/ResidualDegrees" "countOf" "[I" .null) (F_largest_a1_0 : Fld Z h0 a1_0 "gallai/service/ResidualDegrees" "largest" "I" (.int u1_largest)) (F_atLeast_a1_0 : Fld Z h0 a1_0 "gallai/service/ResidualDegrees" "atLeast" "[I" .null) (F_sum_a1_0 : Fld Z h0 a1_0 "gallai/service/ResidualDegrees" "sum" "J" (.long v1_sum)) (F_partnersOf_a1_0 : Fld Z h0 a1_0 "gallai/service/ResidualDegrees" "partnersOf" "[I" .null) (F_saved_a1_0 : Fld Z h0 a1_0 "gallai/service/ResidualDegrees" "saved" "[I" .null) (F_slack_a1_0 : Fld Z h0 a1_0 "gallai/service/ResidualDegrees" "slack" "[J" .null) (F_nextTight_a1_0 : Fld Z h0 a1_0 "gallai/service/ResidualDegrees" "nextTight" "[I" .null) (E_a1_1 : Exa Z h0 a1_1 "[I") (E_a1_0 : Exa Z h0 a1_0 "gallai/service/ResidualDegrees") (V_a1_1 : Arv Z h0 a1_1 ky .int (4 : Int32) [(.int y0), (.int y1), (.int y2), (.int y3)] (.int (0 : Int32))) (g_a1_0 : n0 ≤ a1_0) (hA0 : y3 = (0 : Int32)) (hA1 : y2 = (0 : Int32)) (hA2 : ¬ y1 = (0 : Int32)) :
    MetFree l (⟨"gallai/service/ResidualDegrees", "<init>", "([IJ)V"⟩ : MethodName) (head1 (Jvm.Cond.code (⟨"gallai/service/ResidualDegrees", "<init>", "([IJ)V"⟩ : MethodName) prog_45_method_1_code 5 none :: ws) ({ frames := 2, cells := 6, slots := 16, locals := 27 } : Room)) (fun a U => a = #[(.ref a1_0), (.ref a1_1), (.long q1_2)] ∧ Z.Warmed39 U.vm ∧ U.heap = h0) (fun _ _ _ _ _ => True) (fun _ U o U' => ∃ v L, o = .returned v ∧ Q1L1 Z a1_0 a1_1 q1_2 u1_largest v1_sum ky y0 y1 y2 y3 h0 n0 v U'.heap L ∧ FrameEnd U o U' L ({ frames := 2, cells := 6, slots := 16, locals := 27 } : Room).cells ({ frames := 2, cells := 6, slots := 16, locals := 27 } : Room).slots) := by
  refine MetFree.of_bodySF (plainFor_of_name pn_gallai_service_ResidualDegrees) hisR ?_
  intro p e s m args below meth c s₁ Bd hml0 hP hK
  obtain ⟨rfl, hZ, hh⟩ := hP
  have hx := Bd.exec
  have hby := Bd.bytes
  have hlk := Bd.notSynchronized
  have hret := Bd.returns
  have hml : c.maxLocals = 5 := hml0
  have hown : s.vm.findClass "gallai/service/ResidualDegrees" = some m.cls := findClass_of_methodNamed Bd.named
  have hnm := (name_of_methodNamed Bd.named Bd.method).1
  have X0 : Stand p l e ({ frames := 2, cells := 6, slots := 16, locals := 27 } : Room) s m #[(.ref a1_0), (.ref a1_1), (.long q1_2)] below meth c s₁ [] 0 0 := Stand.of_body Bd
  have e0 : s₁.heap = h0 := by rw [← hh, Bd.state]; rfl
  have N0 := Fr.nil n0
  have K0 : Keep h0 h0 [a1_0] := Keep.refl _ _
  show own_G p e below s (Q1L1 Z a1_0 a1_1 q1_2 u1_largest v1_sum ky y0 y1 y2 y3 h0 n0) ({ frames := 2, cells := 6, slots := 16, locals := 27 } : Room).cells ({ frames := 2, cells := 6, slots := 16, locals := 27 } : Room).slots s₁ (entryFrame m #[(.ref a1_0), (.ref a1_1), (.long q1_2)] 5)
  have ww0 := hw _ (List.mem_of_getElem? (i := 0) rfl)
  have ww5 := hw _ (List.mem_of_getElem? (i := 5) rfl)
  have ww10 := hw _ (List.mem_of_getElem? (i := 10) rfl)
  have ww11 := hw _ (List.mem_of_getElem? (i := 11) rfl)
  have ww12 := hw _ (List.mem_of_getElem? (i := 12) rfl)
  have ww13 := hw _ (List.mem_of_getElem? (i := 13) rfl)
  have ww14 := hw _ (List.mem_of_getElem? (i := 14) rfl)
  have ww16 := hw _ (List.mem_of_getElem? (i := 16) rfl)
  have ww17 := hw _ (List.mem_of_getElem? (i := 17) rfl)
  have ww18 := hw _ (List.mem_of_getElem? (i := 18) rfl)
  have ww19 := hw _ (List.mem_of_getElem? (i := 19) rfl)
  have ww20 := hw _ (List.mem_of_getElem? (i := 20) rfl)
  have ww22 := hw _ (List.mem_of_getElem? (i := 22) rfl)
  have ww23 := hw _ (List.mem_of_getElem? (i := 23) rfl)
  have ww24 := hw _ (List.mem_of_getElem? (i := 24) rfl)
  have ww25 := hw _ (List.mem_of_getElem? (i := 25) rfl)
  have ww26 := hw _ (List.mem_of_getElem? (i := 26) rfl)
  have ww27 := hw _ (List.mem_of_getElem? (i := 27) rfl)
  have ww28 := hw _ (List.mem_of_getElem? (i := 28) rfl)
  have ww29 := hw _ (List.mem_of_getElem? (i := 29) rfl)
  have ww30 := hw _ (List.mem_of_getElem? (i := 30) rfl)
  have ww31 := hw _ (List.mem_of_getElem? (i := 31) rfl)
  have ww32 := hw _ (List.mem_of_getElem? (i := 32) rfl)
  have ww33 := hw _ (List.mem_of_getElem? (i := 33) rfl)
  have ww34 := hw _ (List.mem_of_getElem? (i := 34) rfl)
  have ww35 := hw _ (List.mem_of_getElem? (i := 35) rfl)
  have ww36 := hw _ (List.mem_of_getElem? (i := 36) rfl)
  have ww37 := hw _ (List.mem_of_getElem? (i := 37) rfl)
  have ww38 := hw _ (List.mem_of_getElem? (i := 38) rfl)
  have ww39 := hw _ (List.mem_of_getElem? (i := 39) rfl)
  have ww40 := hw _ (List.mem_of_getElem? (i := 40) rfl)
  have ww41 := hw _ (List.mem_of_getElem? (i := 41) rfl)
  have ww45 := hw _ (List.mem_of_getElem? (i := 45) rfl)
  have ww46 := hw _ (List.mem_of_getElem? (i := 46) rfl)
  have ww47 := hw _ (List.mem_of_getElem? (i := 47) rfl)
  have ww48 := hw _ (List.mem_of_getElem? (i := 48) rfl)
  have ww49 := hw _ (List.mem_of_getElem? (i := 49) rfl)
  refine own_cast (ef_1L1 m a1_0 a1_1 q1_2) ?_
  refine own_s (g' := (mkF m 1 #[.val (.ref a1_0), .val (.ref a1_1), .val (.long q1_2), .second, .unset] [(.ref a1_0)])) (fun _ kz => XS.aloadN X0.here hx rfl (hb hby d1_0) rfl rfl kz) ?_
  obtain ⟨T12, X12, e12, st12⟩ := initO X0 hx hZ hown ww10 ww11 ww12 e0 (g := (mkF m 1 #[.val (.ref a1_0), .val (.ref a1_1), .val (.long q1_2), .second, .unset] [(.ref a1_0)])) rfl (by rw [hml]; rfl) rfl (hb hby d1_1) (by decide) (W := 0) (by show 2 * 0 + _ ≤ _; exact Nat.le_of_eq rfl) (by decide)
  refine own_s (g' := (mkF m 4 #[.val (.ref a1_0), .val (.ref a1_1), .val (.long q1_2), .second, .unset] [])) st12 ?_
  refine own_s (g' := (mkF m 5 #[.val (.ref a1_0), .val (.ref a1_1), .val (.long q1_2), .second, .unset] [(.ref a1_0)])) (fun _ kz => XS.aloadN X12.here hx rfl (hb hby d1_4) rfl rfl kz) ?_
  refine own_s (g' := (mkF m 6 #[.val (.ref a1_0), .val (.ref a1_1), .val (.long q1_2), .second, .unset] [(.ref a1_1), (.ref a1_0)])) (fun _ kz => XS.aloadN X12.here hx rfl (hb hby d1_5) rfl rfl kz) ?_
  obtain ⟨T13, h13, X13, e13, E13, A13, Ex13, st13⟩ := cloneH X12 hx hZ hown ww13 ww14 ww18 ww16 ww17 ww19 e12 (Arv.arh V_a1_1) E_a1_1 (g := (mkF m 6 #[.val (.ref a1_0), .val (.ref a1_1), .val (.long q1_2), .second, .unset] [(.ref a1_1), (.ref a1_0)])) rfl (by rw [hml]; rfl) rfl (hb hby d1_6) (by decide) (W := 1) (cap := 4) (by show 2 * 0 + _ ≤ _; exact Nat.le_of_eq rfl) (by decide) (by decide) (by decide) (by decide)
  obtain ⟨b13, ga13⟩ : ∃ z, z = h0.size := ⟨_, rfl⟩
  rw [← ga13] at A13 Ex13 st13
  have g_b13 := Nat.le_trans Z0 (Nat.le_of_eq ga13.symm)
  have sz_b13 := Nat.le_trans K0.1 (Nat.le_of_eq ga13.symm)
  have V13 : Arv Z h13 b13 ky .int (4 : Int32) [(.int y0), (.int y1), (.int y2), (.int y3)] (.int (0 : Int32)) := A13
  have K13 := K0.ext E13
  refine own_s (g' := (mkF m 9 #[.val (.ref a1_0), .val (.ref a1_1), .val (.long q1_2), .second, .unset] [(.ref b13), (.ref a1_0)])) st13 ?_
  obtain ⟨T14, X14, e14, st14⟩ := castY X13 hx hZ hown ww20 e13 (Ins.self Ex13) (g := (mkF m 9 #[.val (.ref a1_0), .val (.ref a1_1), .val (.long q1_2), .second, .unset] [(.ref b13), (.ref a1_0)])) rfl rfl (hb hby d1_9)
  refine own_s (g' := (mkF m 12 #[.val (.ref a1_0), .val (.ref a1_1), .val (.long q1_2), .second, .unset] [(.ref b13), (.ref a1_0)])) st14 ?_
  have f15 := (E_a1_0.ext E13)
  have f16 := (F_countOf_a1_0.ext E13)
  obtain ⟨T17, h17, X17, e17, W17, st17⟩ := putF X14 hx hZ hown (host := "") (Or.inl ww22) Via.refl e14 f16 f15 (Or.inr ⟨ww23, rfl, hnm⟩) ww5 (ty := (.array .int)) (by decide +kernel) rfl rfl (g := (mkF m 12 #[.val (.ref a1_0), .val (.ref a1_1), .val (.long q1_2), .second, .unset] [(.ref b13), (.ref a1_0)])) rfl rfl (hb hby d1_12)
  have f18 := f16.same W17
  have K17 := K13.wr W17 (Or.inl (List.mem_of_getElem? (i := 0) rfl))
  have N17 := Fr.snoc X17 N0 g_a1_0
  refine own_s (g' := (mkF m 15 #[.val (.ref a1_0), .val (.ref a1_1), .val (.long q1_2), .second, .unset] [])) st17 ?_
  refine own_s (g' := (mkF m 16 #[.val (.ref a1_0), .val (.ref a1_1), .val (.long q1_2), .second, .unset] [(.ref a1_0)])) (fun _ kz => XS.aloadN X17.here hx rfl (hb hby d1_15) rfl rfl kz) ?_
  refine own_s (g' := (mkF m 17 #[.val (.ref a1_0), .val (.ref a1_1), .val (.long q1_2), .second, .unset] [(.ref a1_0), (.ref a1_0)])) (fun _ kz => XS.aloadN X17.here hx rfl (hb hby d1_16) rfl rfl kz) ?_
  obtain ⟨T19, X19, e19, st19⟩ := getF X17 hx hZ hown (host := "") (Or.inl ww22) Via.refl e17 f18 (g := (mkF m 17 #[.val (.ref a1_0), .val (.ref a1_1), .val (.long q1_2), .second, .unset] [(.ref a1_0), (.ref a1_0)])) rfl rfl (hb hby d1_17)
  refine own_s (g' := (mkF m 20 #[.val (.ref a1_0), .val (.ref a1_1), .val (.long q1_2), .second, .unset] [(.ref b13), (.ref a1_0)])) st19 ?_
  have ne20 : a1_0 ≠ b13 := Nat.ne_of_lt (Nat.lt_of_lt_of_le E_a1_0.lt (Nat.le_of_eq ga13.symm))
  have f21 := (V13.other W17 (Ne.symm ne20))
  obtain ⟨cl22, Ar22, -, S22, M22, -, -⟩ := id f21
  refine own_s (g' := (mkF m 21 #[.val (.ref a1_0), .val (.ref a1_1), .val (.long q1_2), .second, .unset] [(.int 4), (.ref a1_0)])) (fun t k => X19.arraylength hx (by rw [e19]; exact Ar22.1) (State.isArrayOf_alike hZ.alike Ar22.2.1) (g := (mkF m 20 #[.val (.ref a1_0), .val (.ref a1_1), .val (.long q1_2), .second, .unset] [(.ref b13), (.ref a1_0)])) rfl rfl (hb hby d1_20) _ (by rw [len_of S22 M22]; exact k)) ?_
  refine own_s (g' := (mkF m 22 #[.val (.ref a1_0), .val (.ref a1_1), .val (.long q1_2), .second, .unset] [(.int 1), (.int 4), (.ref a1_0)])) (fun _ kz => XS.iconst X19.here hx rfl (hb hby d1_21) kz) ?_
  refine own_s (g' := (mkF m 23 #[.val (.ref a1_0), .val (.ref a1_1), .val (.long q1_2), .second, .unset] [(.int ((4 : Int32) - (1 : Int32))), (.ref a1_0)])) (fun _ kz => XS.isub X19.here hx rfl (hb hby d1_22) rfl kz) ?_
  rw [show ((4 : Int32) - (1 : Int32)) = (3 : Int32) from by decide]
  refine own_s (g' := (mkF m 24 #[.val (.ref a1_0), .val (.ref a1_1), .val (.long q1_2), .second, .unset] [(.int 0), (.int 3), (.ref a1_0)])) (fun _ kz => XS.iconst X19.here hx rfl (hb hby d1_23) kz) ?_
  obtain ⟨_, _, ⟨T23, L23, k23, n23⟩, -, X23, ⟨Lc23, hQ23, l23, y23, z23⟩, st23⟩ := Jvm.LawKit.callS X19 hx (y := (⟨"java/lang/Math", "max", "(II)I"⟩ : MethodName)) hown (mvT hZ ww24) (mvT hZ ww25) (mvT hZ ww26) (mvT hZ ww27) (by decide) (backOf (W := 1) (rm3 l Z a0 hw [] (3 : Int32) (0 : Int32) h17 n0 (Nat.le_trans Z0 K17.1) ) hZ ww27 ww26 (by decide) (by decide)) (g := (mkF m 24 #[.val (.ref a1_0), .val (.ref a1_1), .val (.long q1_2), .second, .unset] [(.int 0), (.int 3), (.ref a1_0)])) rfl (by rw [hml]; rfl) (argsL := [(.int 3), (.int 0)]) (rest := [(.ref a1_0)]) (lenOf pd__II_I rfl) rfl (by show 2 * 0 + _ ≤ _; exact Nat.le_of_eq rfl) (hb hby d1_24) (fun _ _ => ⟨rfl, e19, (by decide : 1 + 0 ≤ _), (by decide : 4 + 0 ≤ _)⟩)
  dsimp only [Pt.U, Pt.locs, Pt.cells, Pt.slots] at X23 l23 y23 z23 st23 hQ23
  subst l23 y23 z23
  obtain ⟨rfl, N23q, eh23⟩ := hQ23
  have N23 := Fr.app N17 N23q
  refine own_s (g' := (mkF m 27 #[.val (.ref a1_0), .val (.ref a1_1), .val (.long q1_2), .second, .unset] [(.int (r3 (3 : Int32) (0 : Int32))), (.ref a1_0)])) st23 ?_
  rw [show (r3 (3 : Int32) (0 : Int32)) = (3 : Int32) from (if_neg ((by decide) : ¬ (3 : Int32) < (0 : Int32)))]
  have f24 := (f15.wr W17)
  have f25 := ((F_largest_a1_0.ext E13).other W17 (Or.inr (own_sn_29_23 hw)))
  obtain ⟨T26, h26, X26, e26, W26, st26⟩ := putF X23 hx hZ hown (host := "") (Or.inl ww28) Via.refl eh23 f25 f24 (Or.inl ww29) ww5 (ty := .int) (by decide +kernel) rfl rfl (g := (mkF m 27 #[.val (.ref a1_0), .val (.ref a1_1), .val (.long q1_2), .second, .unset] [(.int 3), (.ref a1_0)])) rfl rfl (hb hby d1_27)
  have f27 := f25.same W26
  have K26 := K17.wr W26 (Or.inl (List.mem_of_getElem? (i := 0) rfl))
  have N26 := Fr.snoc X26 N23 g_a1_0
  refine own_s (g' := (mkF m 30 #[.val (.ref a1_0), .val (.ref a1_1), .val (.long q1_2), .second, .unset] [])) st26 ?_
  refine own_s (g' := (mkF m 31 #[.val (.ref a1_0), .val (.ref a1_1), .val (.long q1_2), .second, .unset] [(.ref a1_0)])) (fun _ kz => XS.aloadN X26.here hx rfl (hb hby d1_30) rfl rfl kz) ?_
  obtain ⟨T28, X28, e28, st28⟩ := getF X26 hx hZ hown (host := "") (Or.inl ww28) Via.refl e26 f27 (g := (mkF m 31 #[.val (.ref a1_0), .val (.ref a1_1), .val (.long q1_2), .second, .unset] [(.ref a1_0)])) rfl rfl (hb hby d1_31)
  refine own_s (g' := (mkF m 34 #[.val (.ref a1_0), .val (.ref a1_1), .val (.long q1_2), .second, .unset] [(.int 3)])) st28 ?_
  refine own_s (g' := (mkF m 37 #[.val (.ref a1_0), .val (.ref a1_1), .val (.long q1_2), .second, .unset] [])) (fun _ kz => XS.ifNo X28.here hx rfl (hb hby d1_34) rfl ((if0 _ _).trans (tlt ((by decide) : (0 : Int32) < (3 : Int32))).2.2.2) kz) ?_
  refine own_s (g' := (mkF m 38 #[.val (.ref a1_0), .val (.ref a1_1), .val (.long q1_2), .second, .unset] [(.ref a1_0)])) (fun _ kz => XS.aloadN X28.here hx rfl (hb hby d1_37) rfl rfl kz) ?_
  have f29 := (f18.other W26 (Or.inr (own_sn_23_29 hw)))
  obtain ⟨T30, X30, e30, st30⟩ := getF X28 hx hZ hown (host := "") (Or.inl ww22) Via.refl e28 f29 (g := (mkF m 38 #[.val (.ref a1_0), .val (.ref a1_1), .val (.long q1_2), .second, .unset] [(.ref a1_0)])) rfl rfl (hb hby d1_38)
  refine own_s (g' := (mkF m 41 #[.val (.ref a1_0), .val (.ref a1_1), .val (.long q1_2), .second, .unset] [(.ref b13)])) st30 ?_
  refine own_s (g' := (mkF m 42 #[.val (.ref a1_0), .val (.ref a1_1), .val (.long q1_2), .second, .unset] [(.ref a1_0), (.ref b13)])) (fun _ kz => XS.aloadN X30.here hx rfl (hb hby d1_41) rfl rfl kz) ?_
  obtain ⟨T31, X31, e31, st31⟩ := getF X30 hx hZ hown (host := "") (Or.inl ww28) Via.refl e30 f27 (g := (mkF m 42 #[.val (.ref a1_0), .val (.ref a1_1), .val (.long q1_2), .second, .unset] [(.ref a1_0), (.ref b13)])) rfl rfl (hb hby d1_42)
  refine own_s (g' := (mkF m 45 #[.val (.ref a1_0), .val (.ref a1_1), .val (.long q1_2), .second, .unset] [(.int 3), (.ref b13)])) st31 ?_
  have f32 := (f21.other W26 (Ne.symm ne20))
  obtain ⟨cl33, Ar33, -, S33, -, H33, -⟩ := id f32
  have in33 := inb_of S33 (j := (3 : Int32)) ⟨by decide, by decide⟩
  refine own_s (g' := (mkF m 46 #[.val (.ref a1_0), .val (.ref a1_1), .val (.long q1_2), .second, .unset] [(.int y3)])) (X31.iaload hx (j := (3 : Int32)) (v := (.int y3)) (by rw [e31]; exact Ar33.1) (State.isArrayOf_alike hZ.alike Ar33.2.1) Ar33.2.2 in33 (Has.at H33 in33 rfl) (g := (mkF m 45 #[.val (.ref a1_0), .val (.ref a1_1), .val (.long q1_2), .second, .unset] [(.int 3), (.ref b13)])) rfl rfl (hb hby d1_45)) ?_
  refine own_s (g' := (mkF m 49 #[.val (.ref a1_0), .val (.ref a1_1), .val (.long q1_2), .second, .unset] [])) (fun _ kz => XS.ifNo X31.here hx rfl (hb hby d1_46) rfl ((if0 _ _).trans (teq hA0).2) kz) ?_
  refine own_s (g' := (mkF m 50 #[.val (.ref a1_0), .val (.ref a1_1), .val (.long q1_2), .second, .unset] [(.ref a1_0)])) (fun _ kz => XS.aloadN X31.here hx rfl (hb hby d1_49) rfl rfl kz) ?_
  refine own_s (g' := (mkF m 51 #[.val (.ref a1_0), .val (.ref a1_1), .val (.long q1_2), .second, .unset] [(.ref a1_0), (.ref a1_0)])) (fun _ kz => XS.dup X31.here hx rfl (hb hby d1_50) rfl rfl kz) ?_
  obtain ⟨T34, X34, e34, st34⟩ := getF X31 hx hZ hown (host := "") (Or.inl ww28) Via.refl e31 f27 (g := (mkF m 51 #[.val (.ref a1_0), .val (.ref a1_1), .val (.long q1_2), .second, .unset] [(.ref a1_0), (.ref a1_0)])) rfl rfl (hb hby d1_51)
  refine own_s (g' := (mkF m 54 #[.val (.ref a1_0), .val (.ref a1_1), .val (.long q1_2), .second, .unset] [(.int 3), (.ref a1_0)])) st34 ?_
  refine own_s (g' := (mkF m 55 #[.val (.ref a1_0), .val (.ref a1_1), .val (.long q1_2), .second, .unset] [(.int 1), (.int 3), (.ref a1_0)])) (fun _ kz => XS.iconst X34.here hx rfl (hb hby d1_54) kz) ?_
  refine own_s (g' := (mkF m 56 #[.val (.ref a1_0), .val (.ref a1_1), .val (.long q1_2), .second, .unset] [(.int ((3 : Int32) - (1 : Int32))), (.ref a1_0)])) (fun _ kz => XS.isub X34.here hx rfl (hb hby d1_55) rfl kz) ?_
  rw [show ((3 : Int32) - (1 : Int32)) = (2 : Int32) from by decide]
  have f35 := (f24.wr W26)
  obtain ⟨T36, h36, X36, e36, W36, st36⟩ := putF X34 hx hZ hown (host := "") (Or.inl ww28) Via.refl e34 f27 f35 (Or.inl ww29) ww5 (ty := .int) (by decide +kernel) rfl rfl (g := (mkF m 56 #[.val (.ref a1_0), .val (.ref a1_1), .val (.long q1_2), .second, .unset] [(.int 2), (.ref a1_0)])) rfl rfl (hb hby d1_56)
  have f37 := f27.same W36
  have K36 := K26.wr W36 (Or.inl (List.mem_of_getElem? (i := 0) rfl))
  have N36 := Fr.snoc X36 N26 g_a1_0
  refine own_s (g' := (mkF m 59 #[.val (.ref a1_0), .val (.ref a1_1), .val (.long q1_2), .second, .unset] [])) st36 ?_
  refine own_s (g' := (mkF m 30 #[.val (.ref a1_0), .val (.ref a1_1), .val (.long q1_2), .second, .unset] [])) (fun _ kz => XS.goto X36.here hx rfl (pc0 := 59) (pc' := 30) rfl (hb hby d1_59) (by decide) (by decide) kz) ?_
  refine own_s (g' := (mkF m 31 #[.val (.ref a1_0), .val (.ref a1_1), .val (.long q1_2), .second, .unset] [(.ref a1_0)])) (fun _ kz => XS.aloadN X36.here hx rfl (hb hby d1_30) rfl rfl kz) ?_
  obtain ⟨T38, X38, e38, st38⟩ := getF X36 hx hZ hown (host := "") (Or.inl ww28) Via.refl e36 f37 (g := (mkF m 31 #[.val (.ref a1_0), .val (.ref a1_1), .val (.long q1_2), .second, .unset] [(.ref a1_0)])) rfl rfl (hb hby d1_31)
  refine own_s (g' := (mkF m 34 #[.val (.ref a1_0), .val (.ref a1_1), .val (.long q1_2), .second, .unset] [(.int 2)])) st38 ?_
  refine own_s (g' := (mkF m 37 #[.val (.ref a1_0), .val (.ref a1_1), .val (.long q1_2), .second, .unset] [])) (fun _ kz => XS.ifNo X38.here hx rfl (hb hby d1_34) rfl ((if0 _ _).trans (tlt ((by decide) : (0 : Int32) < (2 : Int32))).2.2.2) kz) ?_
  refine own_s (g' := (mkF m 38 #[.val (.ref a1_0), .val (.ref a1_1), .val (.long q1_2), .second, .unset] [(.ref a1_0)])) (fun _ kz => XS.aloadN X38.here hx rfl (hb hby d1_37) rfl rfl kz) ?_
  have f39 := (f29.other W36 (Or.inr (own_sn_23_29 hw)))
  obtain ⟨T40, X40, e40, st40⟩ := getF X38 hx hZ hown (host := "") (Or.inl ww22) Via.refl e38 f39 (g := (mkF m 38 #[.val (.ref a1_0), .val (.ref a1_1), .val (.long q1_2), .second, .unset] [(.ref a1_0)])) rfl rfl (hb hby d1_38)
  refine own_s (g' := (mkF m 41 #[.val (.ref a1_0), .val (.ref a1_1), .val (.long q1_2), .second, .unset] [(.ref b13)])) st40 ?_
  refine own_s (g' := (mkF m 42 #[.val (.ref a1_0), .val (.ref a1_1), .val (.long q1_2), .second, .unset] [(.ref a1_0), (.ref b13)])) (fun _ kz => XS.aloadN X40.here hx rfl (hb hby d1_41) rfl rfl kz) ?_
  obtain ⟨T41, X41, e41, st41⟩ := getF X40 hx hZ hown (host := "") (Or.inl ww28) Via.refl e40 f37 (g := (mkF m 42 #[.val (.ref a1_0), .val (.ref a1_1), .val (.long q1_2), .second, .unset] [(.ref a1_0), (.ref b13)])) rfl rfl (hb hby d1_42)
  refine own_s (g' := (mkF m 45 #[.val (.ref a1_0), .val (.ref a1_1), .val (.long q1_2), .second, .unset] [(.int 2), (.ref b13)])) st41 ?_
  have f42 := (f32.other W36 (Ne.symm ne20))
  obtain ⟨cl43, Ar43, -, S43, -, H43, -⟩ := id f42
  have in43 := inb_of S43 (j := (2 : Int32)) ⟨by decide, by decide⟩
  refine own_s (g' := (mkF m 46 #[.val (.ref a1_0), .val (.ref a1_1), .val (.long q1_2), .second, .unset] [(.int y2)])) (X41.iaload hx (j := (2 : Int32)) (v := (.int y2)) (by rw [e41]; exact Ar43.1) (State.isArrayOf_alike hZ.alike Ar43.2.1) Ar43.2.2 in43 (Has.at H43 in43 rfl) (g := (mkF m 45 #[.val (.ref a1_0), .val (.ref a1_1), .val (.long q1_2), .second, .unset] [(.int 2), (.ref b13)])) rfl rfl (hb hby d1_45)) ?_
  refine own_s (g' := (mkF m 49 #[.val (.ref a1_0), .val (.ref a1_1), .val (.long q1_2), .second, .unset] [])) (fun _ kz => XS.ifNo X41.here hx rfl (hb hby d1_46) rfl ((if0 _ _).trans (teq hA1).2) kz) ?_
  refine own_s (g' := (mkF m 50 #[.val (.ref a1_0), .val (.ref a1_1), .val (.long q1_2), .second, .unset] [(.ref a1_0)])) (fun _ kz => XS.aloadN X41.here hx rfl (hb hby d1_49) rfl rfl kz) ?_
  refine own_s (g' := (mkF m 51 #[.val (.ref a1_0), .val (.ref a1_1), .val (.long q1_2), .second, .unset] [(.ref a1_0), (.ref a1_0)])) (fun _ kz => XS.dup X41.here hx rfl (hb hby d1_50) rfl rfl kz) ?_
  obtain ⟨T44, X44, e44, st44⟩ := getF X41 hx hZ hown (host := "") (Or.inl ww28) Via.refl e41 f37 (g := (mkF m 51 #[.val (.ref a1_0), .val (.ref a1_1), .val (.long q1_2), .second, .unset] [(.ref a1_0), (.ref a1_0)])) rfl rfl (hb hby d1_51)
  refine own_s (g' := (mkF m 54 #[.val (.ref a1_0), .val (.ref a1_1), .val (.long q1_2), .second, .unset] [(.int 2), (.ref a1_0)])) st44 ?_
  refine own_s (g' := (mkF m 55 #[.val (.ref a1_0), .val (.ref a1_1), .val (.long q1_2), .second, .unset] [(.int 1), (.int 2), (.ref a1_0)])) (fun _ kz => XS.iconst X44.here hx rfl (hb hby d1_54) kz) ?_
  refine own_s (g' := (mkF m 56 #[.val (.ref a1_0), .val (.ref a1_1), .val (.long q1_2), .second, .unset] [(.int ((2 : Int32) - (1 : Int32))), (.ref a1_0)])) (fun _ kz => XS.isub X44.here hx rfl (hb hby d1_55) rfl kz) ?_
  rw [show ((2 : Int32) - (1 : Int32)) = (1 : Int32) from by decide]
  have f45 := (f35.wr W36)
  obtain ⟨T46, h46, X46, e46, W46, st46⟩ := putF X44 hx hZ hown (host := "") (Or.inl ww28) Via.refl e44 f37 f45 (Or.inl ww29) ww5 (ty := .int) (by decide +kernel) rfl rfl (g := (mkF m 56 #[.val (.ref a1_0), .val (.ref a1_1), .val (.long q1_2), .second, .unset] [(.int 1), (.ref a1_0)])) rfl rfl (hb hby d1_56)
  have f47 := f37.same W46
  have K46 := K36.wr W46 (Or.inl (List.mem_of_getElem? (i := 0) rfl))
  have N46 := Fr.snoc X46 N36 g_a1_0
  refine own_s (g' := (mkF m 59 #[.val (.ref a1_0), .val (.ref a1_1), .val (.long q1_2), .second, .unset] [])) st46 ?_
  refine own_s (g' := (mkF m 30 #[.val (.ref a1_0), .val (.ref a1_1), .val (.long q1_2), .second, .unset] [])) (fun _ kz => XS.goto X46.here hx rfl (pc0 := 59) (pc' := 30) rfl (hb hby d1_59) (by decide) (by decide) kz) ?_
  refine own_s (g' := (mkF m 31 #[.val (.ref a1_0), .val (.ref a1_1), .val (.long q1_2), .second, .unset] [(.ref a1_0)])) (fun _ kz => XS.aloadN X46.here hx rfl (hb hby d1_30) rfl rfl kz) ?_
  obtain ⟨T48, X48, e48, st48⟩ := getF X46 hx hZ hown (host := "") (Or.inl ww28) Via.refl e46 f47 (g := (mkF m 31 #[.val (.ref a1_0), .val (.ref a1_1), .val (.long q1_2), .second, .unset] [(.ref a1_0)])) rfl rfl (hb hby d1_31)
  refine own_s (g' := (mkF m 34 #[.val (.ref a1_0), .val (.ref a1_1), .val (.long q1_2), .second, .unset] [(.int 1)])) st48 ?_
  refine own_s (g' := (mkF m 37 #[.val (.ref a1_0), .val (.ref a1_1), .val (.long q1_2), .second, .unset] [])) (fun _ kz => XS.ifNo X48.here hx rfl (hb hby d1_34) rfl ((if0 _ _).trans (tlt ((by decide) : (0 : Int32) < (1 : Int32))).2.2.2) kz) ?_
  refine own_s (g' := (mkF m 38 #[.val (.ref a1_0), .val (.ref a1_1), .val (.long q1_2), .second, .unset] [(.ref a1_0)])) (fun _ kz => XS.aloadN X48.here hx rfl (hb hby d1_37) rfl rfl kz) ?_
  have f49 := (f39.other W46 (Or.inr (own_sn_23_29 hw)))
  obtain ⟨T50, X50, e50, st50⟩ := getF X48 hx hZ hown (host := "") (Or.inl ww22) Via.refl e48 f49 (g := (mkF m 38 #[.val (.ref a1_0), .val (.ref a1_1), .val (.long q1_2), .second, .unset] [(.ref a1_0)])) rfl rfl (hb hby d1_38)
  refine own_s (g' := (mkF m 41 #[.val (.ref a1_0), .val (.ref a1_1), .val (.long q1_2), .second, .unset] [(.ref b13)])) st50 ?_
  refine own_s (g' := (mkF m 42 #[.val (.ref a1_0), .val (.ref a1_1), .val (.long q1_2), .second, .unset] [(.ref a1_0), (.ref b13)])) (fun _ kz => XS.aloadN X50.here hx rfl (hb hby d1_41) rfl rfl kz) ?_
  obtain ⟨T51, X51, e51, st51⟩ := getF X50 hx hZ hown (host := "") (Or.inl ww28) Via.refl e50 f47 (g := (mkF m 42 #[.val (.ref a1_0), .val (.ref a1_1), .val (.long q1_2), .second, .unset] [(.ref a1_0), (.ref b13)])) rfl rfl (hb hby d1_42)
  refine own_s (g' := (mkF m 45 #[.val (.ref a1_0), .val (.ref a1_1), .val (.long q1_2), .second, .unset] [(.int 1), (.ref b13)])) st51 ?_
  have f52 := (f42.other W46 (Ne.symm ne20))
  obtain ⟨cl53, Ar53, -, S53, -, H53, -⟩ := id f52
  have in53 := inb_of S53 (j := (1 : Int32)) ⟨by decide, by decide⟩
  refine own_s (g' := (mkF m 46 #[.val (.ref a1_0), .val (.ref a1_1), .val (.long q1_2), .second, .unset] [(.int y1)])) (X51.iaload hx (j := (1 : Int32)) (v := (.int y1)) (by rw [e51]; exact Ar53.1) (State.isArrayOf_alike hZ.alike Ar53.2.1) Ar53.2.2 in53 (Has.at H53 in53 rfl) (g := (mkF m 45 #[.val (.ref a1_0), .val (.ref a1_1), .val (.long q1_2), .second, .unset] [(.int 1), (.ref b13)])) rfl rfl (hb hby d1_45)) ?_
  refine own_s (g' := (mkF m 62 #[.val (.ref a1_0), .val (.ref a1_1), .val (.long q1_2), .second, .unset] [])) (fun _ kz => XS.ifYes X51.here hx rfl (pc0 := 46) (pc' := 62) rfl (hb hby d1_46) rfl ((if0 _ _).trans (feq hA2).2) (by decide) (by decide) kz) ?_
  refine own_s (g' := (mkF m 63 #[.val (.ref a1_0), .val (.ref a1_1), .val (.long q1_2), .second, .unset] [(.ref a1_0)])) (fun _ kz => XS.aloadN X51.here hx rfl (hb hby d1_62) rfl rfl kz) ?_
  refine own_s (g' := (mkF m 64 #[.val (.ref a1_0), .val (.ref a1_1), .val (.long q1_2), .second, .unset] [(.ref a1_0), (.ref a1_0)])) (fun _ kz => XS.aloadN X51.here hx rfl (hb hby d1_63) rfl rfl kz) ?_
  obtain ⟨T54, X54, e54, st54⟩ := getF X51 hx hZ hown (host := "") (Or.inl ww28) Via.refl e51 f47 (g := (mkF m 64 #[.val (.ref a1_0), .val (.ref a1_1), .val (.long q1_2), .second, .unset] [(.ref a1_0), (.ref a1_0)])) rfl rfl (hb hby d1_64)
  refine own_s (g' := (mkF m 67 #[.val (.ref a1_0), .val (.ref a1_1), .val (.long q1_2), .second, .unset] [(.int 1), (.ref a1_0)])) st54 ?_
  refine own_s (g' := (mkF m 68 #[.val (.ref a1_0), .val (.ref a1_1), .val (.long q1_2), .second, .unset] [(.int 2), (.int 1), (.ref a1_0)])) (fun _ kz => XS.iconst X54.here hx rfl (hb hby d1_67) kz) ?_
  refine own_s (g' := (mkF m 69 #[.val (.ref a1_0), .val (.ref a1_1), .val (.long q1_2), .second, .unset] [(.int ((1 : Int32) + (2 : Int32))), (.ref a1_0)])) (fun _ kz => XS.iadd X54.here hx rfl (hb hby d1_68) rfl kz) ?_
  rw [show ((1 : Int32) + (2 : Int32)) = (3 : Int32) from by decide]
  obtain ⟨T55, h55, k55, X55, e55, E55, A55, Ex55, st55⟩ := newPE (aty := .int) X54 hx hZ ww0 e54 (g := (mkF m 69 #[.val (.ref a1_0), .val (.ref a1_1), .val (.long q1_2), .second, .unset] [(.int 3), (.ref a1_0)])) rfl (hb hby d1_69) rfl (by decide) (cap := 3) (by decide) (by decide) (by decide) (by decide) (ad := "[I") (by decide)
  obtain ⟨b55, ga55⟩ : ∃ z, z = h46.size := ⟨_, rfl⟩
  rw [← ga55] at A55 Ex55 st55
  have g_b55 := Nat.le_trans (Nat.le_trans Z0 K46.1) (Nat.le_of_eq ga55.symm)
  have sz_b55 := Nat.le_trans K46.1 (Nat.le_of_eq ga55.symm)
  have V55 : Arv Z h55 b55 k55 .int (3 : Int32) [(.int 0), (.int 0), (.int 0)] (.int 0) := (Arv.new A55 (by decide)).pad (pad_rep [] (.int 0) 3)
  have K55 := K46.ext E55
  refine own_s (g' := (mkF m 71 #[.val (.ref a1_0), .val (.ref a1_1), .val (.long q1_2), .second, .unset] [(.ref b55), (.ref a1_0)])) st55 ?_
  have f56 := ((f45.wr W46).ext E55)
  have f57 := ((((((F_atLeast_a1_0.ext E13).other W17 (Or.inr (own_sn_31_23 hw))).other W26 (Or.inr (own_sn_31_29 hw))).other W36 (Or.inr (own_sn_31_29 hw))).other W46 (Or.inr (own_sn_31_29 hw))).ext E55)
  obtain ⟨T58, h58, X58, e58, W58, st58⟩ := putF X55 hx hZ hown (host := "") (Or.inl ww30) Via.refl e55 f57 f56 (Or.inr ⟨ww31, rfl, hnm⟩) ww5 (ty := (.array .int)) (by decide +kernel) rfl rfl (g := (mkF m 71 #[.val (.ref a1_0), .val (.ref a1_1), .val (.long q1_2), .second, .unset] [(.ref b55), (.ref a1_0)])) rfl rfl (hb hby d1_71)
  have f59 := f57.same W58
  have K58 := K55.wr W58 (Or.inl (List.mem_of_getElem? (i := 0) rfl))
  have N58 := Fr.snoc X58 N46 g_a1_0
  refine own_s (g' := (mkF m 74 #[.val (.ref a1_0), .val (.ref a1_1), .val (.long q1_2), .second, .unset] [])) st58 ?_
  refine own_s (g' := (mkF m 75 #[.val (.ref a1_0), .val (.ref a1_1), .val (.long q1_2), .second, .unset] [(.ref a1_0)])) (fun _ kz => XS.aloadN X58.here hx rfl (hb hby d1_74) rfl rfl kz) ?_
  have f60 := ((f47.ext E55).other W58 (Or.inr (own_sn_29_31 hw)))
  obtain ⟨T61, X61, e61, st61⟩ := getF X58 hx hZ hown (host := "") (Or.inl ww28) Via.refl e58 f60 (g := (mkF m 75 #[.val (.ref a1_0), .val (.ref a1_1), .val (.long q1_2), .second, .unset] [(.ref a1_0)])) rfl rfl (hb hby d1_75)
  refine own_s (g' := (mkF m 78 #[.val (.ref a1_0), .val (.ref a1_1), .val (.long q1_2), .second, .unset] [(.int 1)])) st61 ?_
  refine own_s (g' := (mkF m 80 #[.val (.ref a1_0), .val (.ref a1_1), .val (.long q1_2), .second, .val (.int 1)] [])) (fun _ kz => XS.istore X61.here hx rfl (hb hby d1_78) rfl (l' := #[.val (.ref a1_0), .val (.ref a1_1), .val (.long q1_2), .second, .val (.int 1)]) rfl kz) ?_
  refine own_s (g' := (mkF m 82 #[.val (.ref a1_0), .val (.ref a1_1), .val (.long q1_2), .second, .val (.int 1)] [(.int 1)])) (fun _ kz => XS.iload X61.here hx rfl (hb hby d1_80) rfl kz) ?_
  refine own_s (g' := (mkF m 83 #[.val (.ref a1_0), .val (.ref a1_1), .val (.long q1_2), .second, .val (.int 1)] [(.int 1), (.int 1)])) (fun _ kz => XS.iconst X61.here hx rfl (hb hby d1_82) kz) ?_
  refine own_s (g' := (mkF m 86 #[.val (.ref a1_0), .val (.ref a1_1), .val (.long q1_2), .second, .val (.int 1)] [])) (fun _ kz => XS.icmpNo X61.here hx rfl (hb hby d1_83) rfl (flt ((by decide) : ¬ (1 : Int32) < (1 : Int32))).1 kz) ?_
  refine own_s (g' := (mkF m 87 #[.val (.ref a1_0), .val (.ref a1_1), .val (.long q1_2), .second, .val (.int 1)] [(.ref a1_0)])) (fun _ kz => XS.aloadN X61.here hx rfl (hb hby d1_86) rfl rfl kz) ?_
  obtain ⟨T62, X62, e62, st62⟩ := getF X61 hx hZ hown (host := "") (Or.inl ww30) Via.refl e61 f59 (g := (mkF m 87 #[.val (.ref a1_0), .val (.ref a1_1), .val (.long q1_2), .second, .val (.int 1)] [(.ref a1_0)])) rfl rfl (hb hby d1_87)
  refine own_s (g' := (mkF m 90 #[.val (.ref a1_0), .val (.ref a1_1), .val (.long q1_2), .second, .val (.int 1)] [(.ref b55)])) st62 ?_
  refine own_s (g' := (mkF m 92 #[.val (.ref a1_0), .val (.ref a1_1), .val (.long q1_2), .second, .val (.int 1)] [(.int 1), (.ref b55)])) (fun _ kz => XS.iload X62.here hx rfl (hb hby d1_90) rfl kz) ?_
  refine own_s (g' := (mkF m 93 #[.val (.ref a1_0), .val (.ref a1_1), .val (.long q1_2), .second, .val (.int 1)] [(.ref a1_0), (.int 1), (.ref b55)])) (fun _ kz => XS.aloadN X62.here hx rfl (hb hby d1_92) rfl rfl kz) ?_
  obtain ⟨T63, X63, e63, st63⟩ := getF X62 hx hZ hown (host := "") (Or.inl ww30) Via.refl e62 f59 (g := (mkF m 93 #[.val (.ref a1_0), .val (.ref a1_1), .val (.long q1_2), .second, .val (.int 1)] [(.ref a1_0), (.int 1), (.ref b55)])) rfl rfl (hb hby d1_93)
  refine own_s (g' := (mkF m 96 #[.val (.ref a1_0), .val (.ref a1_1), .val (.long q1_2), .second, .val (.int 1)] [(.ref b55), (.int 1), (.ref b55)])) st63 ?_
  refine own_s (g' := (mkF m 98 #[.val (.ref a1_0), .val (.ref a1_1), .val (.long q1_2), .second, .val (.int 1)] [(.int 1), (.ref b55), (.int 1), (.ref b55)])) (fun _ kz => XS.iload X63.here hx rfl (hb hby d1_96) rfl kz) ?_
  refine own_s (g' := (mkF m 99 #[.val (.ref a1_0), .val (.ref a1_1), .val (.long q1_2), .second, .val (.int 1)] [(.int 1), (.int 1), (.ref b55), (.int 1), (.ref b55)])) (fun _ kz => XS.iconst X63.here hx rfl (hb hby d1_98) kz) ?_
  refine own_s (g' := (mkF m 100 #[.val (.ref a1_0), .val (.ref a1_1), .val (.long q1_2), .second, .val (.int 1)] [(.int ((1 : Int32) + (1 : Int32))), (.ref b55), (.int 1), (.ref b55)])) (fun _ kz => XS.iadd X63.here hx rfl (hb hby d1_99) rfl kz) ?_
  rw [show ((1 : Int32) + (1 : Int32)) = (2 : Int32) from by decide]
  have ne64 : a1_0 ≠ b55 := Nat.ne_of_lt (Nat.lt_of_lt_of_le (f45.wr W46).lt (Nat.le_of_eq ga55.symm))
  have f65 := (V55.other W58 (Ne.symm ne64))
  obtain ⟨cl66, Ar66, -, S66, -, H66, -⟩ := id f65
  have in66 := inb_of S66 (j := (2 : Int32)) ⟨by decide, by decide⟩
  refine own_s (g' := (mkF m 101 #[.val (.ref a1_0), .val (.ref a1_1), .val (.long q1_2), .second, .val (.int 1)] [(.int 0), (.int 1), (.ref b55)])) (X63.iaload hx (j := (2 : Int32)) (v := (.int 0)) (by rw [e63]; exact Ar66.1) (State.isArrayOf_alike hZ.alike Ar66.2.1) Ar66.2.2 in66 (Has.at H66 in66 rfl) (g := (mkF m 100 #[.val (.ref a1_0), .val (.ref a1_1), .val (.long q1_2), .second, .val (.int 1)] [(.int 2), (.ref b55), (.int 1), (.ref b55)])) rfl rfl (hb hby d1_100)) ?_
  refine own_s (g' := (mkF m 102 #[.val (.ref a1_0), .val (.ref a1_1), .val (.long q1_2), .second, .val (.int 1)] [(.ref a1_0), (.int 0), (.int 1), (.ref b55)])) (fun _ kz => XS.aloadN X63.here hx rfl (hb hby d1_101) rfl rfl kz) ?_
  have f67 := ((f49.ext E55).other W58 (Or.inr (own_sn_23_31 hw)))
  obtain ⟨T68, X68, e68, st68⟩ := getF X63 hx hZ hown (host := "") (Or.inl ww22) Via.refl e63 f67 (g := (mkF m 102 #[.val (.ref a1_0), .val (.ref a1_1), .val (.long q1_2), .second, .val (.int 1)] [(.ref a1_0), (.int 0), (.int 1), (.ref b55)])) rfl rfl (hb hby d1_102)
  refine own_s (g' := (mkF m 105 #[.val (.ref a1_0), .val (.ref a1_1), .val (.long q1_2), .second, .val (.int 1)] [(.ref b13), (.int 0), (.int 1), (.ref b55)])) st68 ?_
  refine own_s (g' := (mkF m 107 #[.val (.ref a1_0), .val (.ref a1_1), .val (.long q1_2), .second, .val (.int 1)] [(.int 1), (.ref b13), (.int 0), (.int 1), (.ref b55)])) (fun _ kz => XS.iload X68.here hx rfl (hb hby d1_105) rfl kz) ?_
  have f69 := ((f52.ext E55).other W58 (Ne.symm ne20))
  obtain ⟨cl70, Ar70, -, S70, -, H70, -⟩ := id f69
  have in70 := inb_of S70 (j := (1 : Int32)) ⟨by decide, by decide⟩
  refine own_s (g' := (mkF m 108 #[.val (.ref a1_0), .val (.ref a1_1), .val (.long q1_2), .second, .val (.int 1)] [(.int y1), (.int 0), (.int 1), (.ref b55)])) (X68.iaload hx (j := (1 : Int32)) (v := (.int y1)) (by rw [e68]; exact Ar70.1) (State.isArrayOf_alike hZ.alike Ar70.2.1) Ar70.2.2 in70 (Has.at H70 in70 rfl) (g := (mkF m 107 #[.val (.ref a1_0), .val (.ref a1_1), .val (.long q1_2), .second, .val (.int 1)] [(.int 1), (.ref b13), (.int 0), (.int 1), (.ref b55)])) rfl rfl (hb hby d1_107)) ?_
  refine own_s (g' := (mkF m 109 #[.val (.ref a1_0), .val (.ref a1_1), .val (.long q1_2), .second, .val (.int 1)] [(.int ((0 : Int32) + y1)), (.int 1), (.ref b55)])) (fun _ kz => XS.iadd X68.here hx rfl (hb hby d1_108) rfl kz) ?_
  obtain ⟨cl71, Ar71, q71, S71, M71, H71, G71⟩ := id f65
  obtain ⟨T71, h71, X71, e71, W71, st71⟩ := stI X68 hx hZ e68 Ar71 (j := (1 : Int32)) (inb_of S71 ⟨by decide, by decide⟩) (g := (mkF m 109 #[.val (.ref a1_0), .val (.ref a1_1), .val (.long q1_2), .second, .val (.int 1)] [(.int ((0 : Int32) + y1)), (.int 1), (.ref b55)])) rfl rfl (hb hby d1_109)
  have f72 : Arv Z h71 b55 k55 .int (3 : Int32) [(.int 0), (.int ((0 : Int32) + y1)), (.int 0)] (.int 0) := Arv.set Ar71 q71 S71 M71 H71 G71 rfl W71 1 rfl (Nat.le_of_ble_eq_true rfl)
  have K71 := K58.wr W71 (Or.inr sz_b55)
  have N71 := Fr.snoc X71 N58 g_b55
  refine own_s (g' := (mkF m 110 #[.val (.ref a1_0), .val (.ref a1_1), .val (.long q1_2), .second, .val (.int 1)] [])) st71 ?_
  refine own_s (g' := (mkF m 113 #[.val (.ref a1_0), .val (.ref a1_1), .val (.long q1_2), .second, .val (.int ((1 : Int32) + (-1 : Int32)))] [])) (fun _ kz => XS.iinc X71.here hx rfl (hb hby d1_110) rfl (l' := #[.val (.ref a1_0), .val (.ref a1_1), .val (.long q1_2), .second, .val (.int ((1 : Int32) + (-1 : Int32)))]) rfl kz) ?_
  rw [show ((1 : Int32) + (-1 : Int32)) = (0 : Int32) from by decide]
  refine own_s (g' := (mkF m 80 #[.val (.ref a1_0), .val (.ref a1_1), .val (.long q1_2), .second, .val (.int 0)] [])) (fun _ kz => XS.goto X71.here hx rfl (pc0 := 113) (pc' := 80) rfl (hb hby d1_113) (by decide) (by decide) kz) ?_
  refine own_s (g' := (mkF m 82 #[.val (.ref a1_0), .val (.ref a1_1), .val (.long q1_2), .second, .val (.int 0)] [(.int 0)])) (fun _ kz => XS.iload X71.here hx rfl (hb hby d1_80) rfl kz) ?_
  refine own_s (g' := (mkF m 83 #[.val (.ref a1_0), .val (.ref a1_1), .val (.long q1_2), .second, .val (.int 0)] [(.int 1), (.int 0)])) (fun _ kz => XS.iconst X71.here hx rfl (hb hby d1_82) kz) ?_
  refine own_s (g' := (mkF m 116 #[.val (.ref a1_0), .val (.ref a1_1), .val (.long q1_2), .second, .val (.int 0)] [])) (fun _ kz => XS.icmpYes X71.here hx rfl (pc0 := 83) (pc' := 116) rfl (hb hby d1_83) rfl (tlt ((by decide) : (0 : Int32) < (1 : Int32))).1 (by decide) (by decide) kz) ?_
  refine own_s (g' := (mkF m 117 #[.val (.ref a1_0), .val (.ref a1_1), .val (.long q1_2), .second, .val (.int 0)] [(.ref a1_0)])) (fun _ kz => XS.aloadN X71.here hx rfl (hb hby d1_116) rfl rfl kz) ?_
  refine own_s (g' := (mkF m 118 #[.val (.ref a1_0), .val (.ref a1_1), .val (.long q1_2), .second, .val (.int 0)] [(.long q1_2), (.ref a1_0)])) (fun _ kz => XS.lloadN X71.here hx rfl (hb hby d1_117) rfl kz) ?_
  have f73 := ((f56.wr W58).wr W71)
  have f74 := ((((((((F_sum_a1_0.ext E13).other W17 (Or.inr (own_sn_33_23 hw))).other W26 (Or.inr (own_sn_33_29 hw))).other W36 (Or.inr (own_sn_33_29 hw))).other W46 (Or.inr (own_sn_33_29 hw))).ext E55).other W58 (Or.inr (own_sn_33_31 hw))).other W71 (Or.inl ne64))
  obtain ⟨T75, h75, X75, e75, W75, st75⟩ := putF X71 hx hZ hown (host := "") (Or.inl ww32) Via.refl e71 f74 f73 (Or.inl ww33) ww5 (ty := .long) (by decide +kernel) rfl rfl (g := (mkF m 118 #[.val (.ref a1_0), .val (.ref a1_1), .val (.long q1_2), .second, .val (.int 0)] [(.long q1_2), (.ref a1_0)])) rfl rfl (hb hby d1_118)
  have f76 := f74.same W75
  have K75 := K71.wr W75 (Or.inl (List.mem_of_getElem? (i := 0) rfl))
  have N75 := Fr.snoc X75 N71 g_a1_0
  refine own_s (g' := (mkF m 121 #[.val (.ref a1_0), .val (.ref a1_1), .val (.long q1_2), .second, .val (.int 0)] [])) st75 ?_
  refine own_s (g' := (mkF m 122 #[.val (.ref a1_0), .val (.ref a1_1), .val (.long q1_2), .second, .val (.int 0)] [(.ref a1_0)])) (fun _ kz => XS.aloadN X75.here hx rfl (hb hby d1_121) rfl rfl kz) ?_
  refine own_s (g' := (mkF m 123 #[.val (.ref a1_0), .val (.ref a1_1), .val (.long q1_2), .second, .val (.int 0)] [(.ref a1_0), (.ref a1_0)])) (fun _ kz => XS.aloadN X75.here hx rfl (hb hby d1_122) rfl rfl kz) ?_
  have f77 := ((f60.other W71 (Or.inl ne64)).other W75 (Or.inr (own_sn_29_33 hw)))
  obtain ⟨T78, X78, e78, st78⟩ := getF X75 hx hZ hown (host := "") (Or.inl ww28) Via.refl e75 f77 (g := (mkF m 123 #[.val (.ref a1_0), .val (.ref a1_1), .val (.long q1_2), .second, .val (.int 0)] [(.ref a1_0), (.ref a1_0)])) rfl rfl (hb hby d1_123)
  refine own_s (g' := (mkF m 126 #[.val (.ref a1_0), .val (.ref a1_1), .val (.long q1_2), .second, .val (.int 0)] [(.int 1), (.ref a1_0)])) st78 ?_
  refine own_s (g' := (mkF m 127 #[.val (.ref a1_0), .val (.ref a1_1), .val (.long q1_2), .second, .val (.int 0)] [(.int 1), (.int 1), (.ref a1_0)])) (fun _ kz => XS.iconst X78.here hx rfl (hb hby d1_126) kz) ?_
  refine own_s (g' := (mkF m 128 #[.val (.ref a1_0), .val (.ref a1_1), .val (.long q1_2), .second, .val (.int 0)] [(.int ((1 : Int32) + (1 : Int32))), (.ref a1_0)])) (fun _ kz => XS.iadd X78.here hx rfl (hb hby d1_127) rfl kz) ?_
  rw [show ((1 : Int32) + (1 : Int32)) = (2 : Int32) from by decide]
  obtain ⟨T79, h79, k79, X79, e79, E79, A79, Ex79, st79⟩ := newPE (aty := .int) X78 hx hZ ww0 e78 (g := (mkF m 128 #[.val (.ref a1_0), .val (.ref a1_1), .val (.long q1_2), .second, .val (.int 0)] [(.int 2), (.ref a1_0)])) rfl (hb hby d1_128) rfl (by decide) (cap := 2) (by decide) (by decide) (by decide) (by decide) (ad := "[I") (by decide)
  obtain ⟨b79, ga79⟩ : ∃ z, z = h75.size := ⟨_, rfl⟩
  rw [← ga79] at A79 Ex79 st79
  have g_b79 := Nat.le_trans (Nat.le_trans Z0 K75.1) (Nat.le_of_eq ga79.symm)
  have sz_b79 := Nat.le_trans K75.1 (Nat.le_of_eq ga79.symm)
  have V79 : Arv Z h79 b79 k79 .int (2 : Int32) [(.int 0), (.int 0)] (.int 0) := (Arv.new A79 (by decide)).pad (pad_rep [] (.int 0) 2)
  have K79 := K75.ext E79
  refine own_s (g' := (mkF m 130 #[.val (.ref a1_0), .val (.ref a1_1), .val (.long q1_2), .second, .val (.int 0)] [(.ref b79), (.ref a1_0)])) st79 ?_
  have f80 := ((f73.wr W75).ext E79)
  have f81 := ((((((((((F_partnersOf_a1_0.ext E13).other W17 (Or.inr (own_sn_35_23 hw))).other W26 (Or.inr (own_sn_35_29 hw))).other W36 (Or.inr (own_sn_35_29 hw))).other W46 (Or.inr (own_sn_35_29 hw))).ext E55).other W58 (Or.inr (own_sn_35_31 hw))).other W71 (Or.inl ne64)).other W75 (Or.inr (own_sn_35_33 hw))).ext E79)
  obtain ⟨T82, h82, X82, e82, W82, st82⟩ := putF X79 hx hZ hown (host := "") (Or.inl ww34) Via.refl e79 f81 f80 (Or.inr ⟨ww35, rfl, hnm⟩) ww5 (ty := (.array .int)) (by decide +kernel) rfl rfl (g := (mkF m 130 #[.val (.ref a1_0), .val (.ref a1_1), .val (.long q1_2), .second, .val (.int 0)] [(.ref b79), (.ref a1_0)])) rfl rfl (hb hby d1_130)
  have f83 := f81.same W82
  have K82 := K79.wr W82 (Or.inl (List.mem_of_getElem? (i := 0) rfl))
  have N82 := Fr.snoc X82 N75 g_a1_0
  refine own_s (g' := (mkF m 133 #[.val (.ref a1_0), .val (.ref a1_1), .val (.long q1_2), .second, .val (.int 0)] [])) st82 ?_
  refine own_s (g' := (mkF m 134 #[.val (.ref a1_0), .val (.ref a1_1), .val (.long q1_2), .second, .val (.int 0)] [(.ref a1_0)])) (fun _ kz => XS.aloadN X82.here hx rfl (hb hby d1_133) rfl rfl kz) ?_
  refine own_s (g' := (mkF m 135 #[.val (.ref a1_0), .val (.ref a1_1), .val (.long q1_2), .second, .val (.int 0)] [(.ref a1_0), (.ref a1_0)])) (fun _ kz => XS.aloadN X82.here hx rfl (hb hby d1_134) rfl rfl kz) ?_
  have f84 := ((f77.ext E79).other W82 (Or.inr (own_sn_29_35 hw)))
  obtain ⟨T85, X85, e85, st85⟩ := getF X82 hx hZ hown (host := "") (Or.inl ww28) Via.refl e82 f84 (g := (mkF m 135 #[.val (.ref a1_0), .val (.ref a1_1), .val (.long q1_2), .second, .val (.int 0)] [(.ref a1_0), (.ref a1_0)])) rfl rfl (hb hby d1_135)
  refine own_s (g' := (mkF m 138 #[.val (.ref a1_0), .val (.ref a1_1), .val (.long q1_2), .second, .val (.int 0)] [(.int 1), (.ref a1_0)])) st85 ?_
  refine own_s (g' := (mkF m 139 #[.val (.ref a1_0), .val (.ref a1_1), .val (.long q1_2), .second, .val (.int 0)] [(.int 1), (.int 1), (.ref a1_0)])) (fun _ kz => XS.iconst X85.here hx rfl (hb hby d1_138) kz) ?_
  refine own_s (g' := (mkF m 140 #[.val (.ref a1_0), .val (.ref a1_1), .val (.long q1_2), .second, .val (.int 0)] [(.int ((1 : Int32) + (1 : Int32))), (.ref a1_0)])) (fun _ kz => XS.iadd X85.here hx rfl (hb hby d1_139) rfl kz) ?_
  rw [show ((1 : Int32) + (1 : Int32)) = (2 : Int32) from by decide]
  obtain ⟨T86, h86, k86, X86, e86, E86, A86, Ex86, st86⟩ := newPE (aty := .int) X85 hx hZ ww0 e85 (g := (mkF m 140 #[.val (.ref a1_0), .val (.ref a1_1), .val (.long q1_2), .second, .val (.int 0)] [(.int 2), (.ref a1_0)])) rfl (hb hby d1_140) rfl (by decide) (cap := 2) (by decide) (by decide) (by decide) (by decide) (ad := "[I") (by decide)
  obtain ⟨b86, ga86⟩ : ∃ z, z = h82.size := ⟨_, rfl⟩
  rw [← ga86] at A86 Ex86 st86
  have g_b86 := Nat.le_trans (Nat.le_trans Z0 K82.1) (Nat.le_of_eq ga86.symm)
  have sz_b86 := Nat.le_trans K82.1 (Nat.le_of_eq ga86.symm)
  have V86 : Arv Z h86 b86 k86 .int (2 : Int32) [(.int 0), (.int 0)] (.int 0) := (Arv.new A86 (by decide)).pad (pad_rep [] (.int 0) 2)
  have K86 := K82.ext E86
  refine own_s (g' := (mkF m 142 #[.val (.ref a1_0), .val (.ref a1_1), .val (.long q1_2), .second, .val (.int 0)] [(.ref b86), (.ref a1_0)])) st86 ?_
  have f87 := ((f80.wr W82).ext E86)
  have f88 := ((((((((((((F_saved_a1_0.ext E13).other W17 (Or.inr (own_sn_37_23 hw))).other W26 (Or.inr (own_sn_37_29 hw))).other W36 (Or.inr (own_sn_37_29 hw))).other W46 (Or.inr (own_sn_37_29 hw))).ext E55).other W58 (Or.inr (own_sn_37_31 hw))).other W71 (Or.inl ne64)).other W75 (Or.inr (own_sn_37_33 hw))).ext E79).other W82 (Or.inr (own_sn_37_35 hw))).ext E86)
  obtain ⟨T89, h89, X89, e89, W89, st89⟩ := putF X86 hx hZ hown (host := "") (Or.inl ww36) Via.refl e86 f88 f87 (Or.inr ⟨ww37, rfl, hnm⟩) ww5 (ty := (.array .int)) (by decide +kernel) rfl rfl (g := (mkF m 142 #[.val (.ref a1_0), .val (.ref a1_1), .val (.long q1_2), .second, .val (.int 0)] [(.ref b86), (.ref a1_0)])) rfl rfl (hb hby d1_142)
  have f90 := f88.same W89
  have K89 := K86.wr W89 (Or.inl (List.mem_of_getElem? (i := 0) rfl))
  have N89 := Fr.snoc X89 N82 g_a1_0
  refine own_s (g' := (mkF m 145 #[.val (.ref a1_0), .val (.ref a1_1), .val (.long q1_2), .second, .val (.int 0)] [])) st89 ?_
  refine own_s (g' := (mkF m 146 #[.val (.ref a1_0), .val (.ref a1_1), .val (.long q1_2), .second, .val (.int 0)] [(.ref a1_0)])) (fun _ kz => XS.aloadN X89.here hx rfl (hb hby d1_145) rfl rfl kz) ?_
  refine own_s (g' := (mkF m 147 #[.val (.ref a1_0), .val (.ref a1_1), .val (.long q1_2), .second, .val (.int 0)] [(.ref a1_0), (.ref a1_0)])) (fun _ kz => XS.aloadN X89.here hx rfl (hb hby d1_146) rfl rfl kz) ?_
  have f91 := ((((((f67.other W71 (Or.inl ne64)).other W75 (Or.inr (own_sn_23_33 hw))).ext E79).other W82 (Or.inr (own_sn_23_35 hw))).ext E86).other W89 (Or.inr (own_sn_23_37 hw)))
  obtain ⟨T92, X92, e92, st92⟩ := getF X89 hx hZ hown (host := "") (Or.inl ww22) Via.refl e89 f91 (g := (mkF m 147 #[.val (.ref a1_0), .val (.ref a1_1), .val (.long q1_2), .second, .val (.int 0)] [(.ref a1_0), (.ref a1_0)])) rfl rfl (hb hby d1_147)
  refine own_s (g' := (mkF m 150 #[.val (.ref a1_0), .val (.ref a1_1), .val (.long q1_2), .second, .val (.int 0)] [(.ref b13), (.ref a1_0)])) st92 ?_
  have ne93 : b13 ≠ b55 := Nat.ne_of_lt (Nat.lt_of_lt_of_le ((((Ex13.wr W17).wr W26).wr W36).wr W46).lt (Nat.le_of_eq ga55.symm))
  have f94 := ((((((f69.other W71 ne93).other W75 (Ne.symm ne20)).ext E79).other W82 (Ne.symm ne20)).ext E86).other W89 (Ne.symm ne20))
  obtain ⟨cl95, Ar95, -, S95, M95, -, -⟩ := id f94
  refine own_s (g' := (mkF m 151 #[.val (.ref a1_0), .val (.ref a1_1), .val (.long q1_2), .second, .val (.int 0)] [(.int 4), (.ref a1_0)])) (fun t k => X92.arraylength hx (by rw [e92]; exact Ar95.1) (State.isArrayOf_alike hZ.alike Ar95.2.1) (g := (mkF m 150 #[.val (.ref a1_0), .val (.ref a1_1), .val (.long q1_2), .second, .val (.int 0)] [(.ref b13), (.ref a1_0)])) rfl rfl (hb hby d1_150) _ (by rw [len_of S95 M95]; exact k)) ?_
  refine own_s (g' := (mkF m 152 #[.val (.ref a1_0), .val (.ref a1_1), .val (.long q1_2), .second, .val (.int 0)] [(.ref a1_0), (.int 4), (.ref a1_0)])) (fun _ kz => XS.aloadN X92.here hx rfl (hb hby d1_151) rfl rfl kz) ?_
  have f96 := ((f84.ext E86).other W89 (Or.inr (own_sn_29_37 hw)))
  obtain ⟨T97, X97, e97, st97⟩ := getF X92 hx hZ hown (host := "") (Or.inl ww28) Via.refl e92 f96 (g := (mkF m 152 #[.val (.ref a1_0), .val (.ref a1_1), .val (.long q1_2), .second, .val (.int 0)] [(.ref a1_0), (.int 4), (.ref a1_0)])) rfl rfl (hb hby d1_152)
  refine own_s (g' := (mkF m 155 #[.val (.ref a1_0), .val (.ref a1_1), .val (.long q1_2), .second, .val (.int 0)] [(.int 1), (.int 4), (.ref a1_0)])) st97 ?_
  obtain ⟨_, _, ⟨T98, L98, k98, n98⟩, -, X98, ⟨Lc98, hQ98, l98, y98, z98⟩, st98⟩ := Jvm.LawKit.callS X97 hx (y := (⟨"gallai/service/Graphicality", "slackLength", "(II)I"⟩ : MethodName)) hown (mvT hZ ww38) (mvT hZ ww39) (mvT hZ ww40) (mvT hZ ww41) (by decide) (backOf (W := 1) (rm4 l Z a0 hw [] (4 : Int32) (1 : Int32) h89 n0 (Nat.le_trans Z0 K89.1) ) hZ ww41 ww40 (by decide) (by decide)) (g := (mkF m 155 #[.val (.ref a1_0), .val (.ref a1_1), .val (.long q1_2), .second, .val (.int 0)] [(.int 1), (.int 4), (.ref a1_0)])) rfl (by rw [hml]; rfl) (argsL := [(.int 4), (.int 1)]) (rest := [(.ref a1_0)]) (lenOf pd__II_I rfl) rfl (by show 2 * 0 + _ ≤ _; exact Nat.le_of_eq rfl) (hb hby d1_155) (fun _ _ => ⟨rfl, e97, (by decide : 4 + 0 ≤ _), (by decide : 11 + 0 ≤ _)⟩)
  dsimp only [Pt.U, Pt.locs, Pt.cells, Pt.slots] at X98 l98 y98 z98 st98 hQ98
  subst l98 y98 z98
  obtain ⟨rfl, N98q, eh98⟩ := hQ98
  have N98 := Fr.app N89 N98q
  refine own_s (g' := (mkF m 158 #[.val (.ref a1_0), .val (.ref a1_1), .val (.long q1_2), .second, .val (.int 0)] [(.int (r4 (4 : Int32) (1 : Int32))), (.ref a1_0)])) st98 ?_
  rw [show (r4 (4 : Int32) (1 : Int32)) = (2 : Int32) from by decide]
  obtain ⟨T99, h99, k99, X99, e99, E99, A99, Ex99, st99⟩ := newPE (aty := .long) X98 hx hZ ww45 eh98 (g := (mkF m 158 #[.val (.ref a1_0), .val (.ref a1_1), .val (.long q1_2), .second, .val (.int 0)] [(.int 2), (.ref a1_0)])) rfl (hb hby d1_158) rfl (by decide) (cap := 2) (by decide) (by decide) (by decide) (by decide) (ad := "[J") (by decide)
  obtain ⟨b99, ga99⟩ : ∃ z, z = h89.size := ⟨_, rfl⟩
  rw [← ga99] at A99 Ex99 st99
  have g_b99 := Nat.le_trans (Nat.le_trans Z0 K89.1) (Nat.le_of_eq ga99.symm)
  have sz_b99 := Nat.le_trans K89.1 (Nat.le_of_eq ga99.symm)
  have V99 : Arv Z h99 b99 k99 .long (2 : Int32) [(.long 0), (.long 0)] (.long 0) := (Arv.new A99 (by decide)).pad (pad_rep [] (.long 0) 2)
  have K99 := K89.ext E99
  refine own_s (g' := (mkF m 160 #[.val (.ref a1_0), .val (.ref a1_1), .val (.long q1_2), .second, .val (.int 0)] [(.ref b99), (.ref a1_0)])) st99 ?_
  have f100 := ((f87.wr W89).ext E99)
  have f101 := ((((((((((((((F_slack_a1_0.ext E13).other W17 (Or.inr (own_sn_47_23 hw))).other W26 (Or.inr (own_sn_47_29 hw))).other W36 (Or.inr (own_sn_47_29 hw))).other W46 (Or.inr (own_sn_47_29 hw))).ext E55).other W58 (Or.inr (own_sn_47_31 hw))).other W71 (Or.inl ne64)).other W75 (Or.inr (own_sn_47_33 hw))).ext E79).other W82 (Or.inr (own_sn_47_35 hw))).ext E86).other W89 (Or.inr (own_sn_47_37 hw))).ext E99)
  obtain ⟨T102, h102, X102, e102, W102, st102⟩ := putF X99 hx hZ hown (host := "") (Or.inl ww46) Via.refl e99 f101 f100 (Or.inr ⟨ww47, rfl, hnm⟩) ww5 (ty := (.array .long)) (by decide +kernel) rfl rfl (g := (mkF m 160 #[.val (.ref a1_0), .val (.ref a1_1), .val (.long q1_2), .second, .val (.int 0)] [(.ref b99), (.ref a1_0)])) rfl rfl (hb hby d1_160)
  have f103 := f101.same W102
  have K102 := K99.wr W102 (Or.inl (List.mem_of_getElem? (i := 0) rfl))
  have N102 := Fr.snoc X102 N98 g_a1_0
  refine own_s (g' := (mkF m 163 #[.val (.ref a1_0), .val (.ref a1_1), .val (.long q1_2), .second, .val (.int 0)] [])) st102 ?_
  refine own_s (g' := (mkF m 164 #[.val (.ref a1_0), .val (.ref a1_1), .val (.long q1_2), .second, .val (.int 0)] [(.ref a1_0)])) (fun _ kz => XS.aloadN X102.here hx rfl (hb hby d1_163) rfl rfl kz) ?_
  refine own_s (g' := (mkF m 165 #[.val (.ref a1_0), .val (.ref a1_1), .val (.long q1_2), .second, .val (.int 0)] [(.ref a1_0), (.ref a1_0)])) (fun _ kz => XS.aloadN X102.here hx rfl (hb hby d1_164) rfl rfl kz) ?_
  obtain ⟨T104, X104, e104, st104⟩ := getF X102 hx hZ hown (host := "") (Or.inl ww46) Via.refl e102 f103 (g := (mkF m 165 #[.val (.ref a1_0), .val (.ref a1_1), .val (.long q1_2), .second, .val (.int 0)] [(.ref a1_0), (.ref a1_0)])) rfl rfl (hb hby d1_165)
  refine own_s (g' := (mkF m 168 #[.val (.ref a1_0), .val (.ref a1_1), .val (.long q1_2), .second, .val (.int 0)] [(.ref b99), (.ref a1_0)])) st104 ?_
  have ne105 : a1_0 ≠ b99 := Nat.ne_of_lt (Nat.lt_of_lt_of_le (f87.wr W89).lt (Nat.le_of_eq ga99.symm))
  have f106 := (V99.other W102 (Ne.symm ne105))
  obtain ⟨cl107, Ar107, -, S107, M107, -, -⟩ := id f106
  refine own_s (g' := (mkF m 169 #[.val (.ref a1_0), .val (.ref a1_1), .val (.long q1_2), .second, .val (.int 0)] [(.int 2), (.ref a1_0)])) (fun t k => X104.arraylength hx (by rw [e104]; exact Ar107.1) (State.isArrayOf_alike hZ.alike Ar107.2.1) (g := (mkF m 168 #[.val (.ref a1_0), .val (.ref a1_1), .val (.long q1_2), .second, .val (.int 0)] [(.ref b99), (.ref a1_0)])) rfl rfl (hb hby d1_168) _ (by rw [len_of S107 M107]; exact k)) ?_
  refine own_s (g' := (mkF m 170 #[.val (.ref a1_0), .val (.ref a1_1), .val (.long q1_2), .second, .val (.int 0)] [(.int 1), (.int 2), (.ref a1_0)])) (fun _ kz => XS.iconst X104.here hx rfl (hb hby d1_169) kz) ?_
  refine own_s (g' := (mkF m 171 #[.val (.ref a1_0), .val (.ref a1_1), .val (.long q1_2), .second, .val (.int 0)] [(.int ((2 : Int32) + (1 : Int32))), (.ref a1_0)])) (fun _ kz => XS.iadd X104.here hx rfl (hb hby d1_170) rfl kz) ?_
  rw [show ((2 : Int32) + (1 : Int32)) = (3 : Int32) from by decide]
  obtain ⟨T108, h108, k108, X108, e108, E108, A108, Ex108, st108⟩ := newPE (aty := .int) X104 hx hZ ww0 e104 (g := (mkF m 171 #[.val (.ref a1_0), .val (.ref a1_1), .val (.long q1_2), .second, .val (.int 0)] [(.int 3), (.ref a1_0)])) rfl (hb hby d1_171) rfl (by decide) (cap := 3) (by decide) (by decide) (by decide) (by decide) (ad := "[I") (by decide)
  obtain ⟨b108, ga108⟩ : ∃ z, z = h102.size := ⟨_, rfl⟩
  rw [← ga108] at A108 Ex108 st108
  have g_b108 := Nat.le_trans (Nat.le_trans Z0 K102.1) (Nat.le_of_eq ga108.symm)
  have sz_b108 := Nat.le_trans K102.1 (Nat.le_of_eq ga108.symm)
  have V108 : Arv Z h108 b108 k108 .int (3 : Int32) [(.int 0), (.int 0), (.int 0)] (.int 0) := (Arv.new A108 (by decide)).pad (pad_rep [] (.int 0) 3)
  have K108 := K102.ext E108
  refine own_s (g' := (mkF m 173 #[.val (.ref a1_0), .val (.ref a1_1), .val (.long q1_2), .second, .val (.int 0)] [(.ref b108), (.ref a1_0)])) st108 ?_
  have f109 := ((f100.wr W102).ext E108)
  have f110 := ((((((((((((((((F_nextTight_a1_0.ext E13).other W17 (Or.inr (own_sn_49_23 hw))).other W26 (Or.inr (own_sn_49_29 hw))).other W36 (Or.inr (own_sn_49_29 hw))).other W46 (Or.inr (own_sn_49_29 hw))).ext E55).other W58 (Or.inr (own_sn_49_31 hw))).other W71 (Or.inl ne64)).other W75 (Or.inr (own_sn_49_33 hw))).ext E79).other W82 (Or.inr (own_sn_49_35 hw))).ext E86).other W89 (Or.inr (own_sn_49_37 hw))).ext E99).other W102 (Or.inr (own_sn_49_47 hw))).ext E108)
  obtain ⟨T111, h111, X111, e111, W111, st111⟩ := putF X108 hx hZ hown (host := "") (Or.inl ww48) Via.refl e108 f110 f109 (Or.inr ⟨ww49, rfl, hnm⟩) ww5 (ty := (.array .int)) (by decide +kernel) rfl rfl (g := (mkF m 173 #[.val (.ref a1_0), .val (.ref a1_1), .val (.long q1_2), .second, .val (.int 0)] [(.ref b108), (.ref a1_0)])) rfl rfl (hb hby d1_173)
  have f112 := f110.same W111
  have K111 := K108.wr W111 (Or.inl (List.mem_of_getElem? (i := 0) rfl))
  have N111 := Fr.snoc X111 N102 g_a1_0
  refine own_s (g' := (mkF m 176 #[.val (.ref a1_0), .val (.ref a1_1), .val (.long q1_2), .second, .val (.int 0)] [])) st111 ?_
  have f113 := (f109.wr W111)
  have f114 := ((((f94.ext E99).other W102 (Ne.symm ne20)).ext E108).other W111 (Ne.symm ne20))
  have f115 := ((((f91.ext E99).other W102 (Or.inr (own_sn_23_47 hw))).ext E108).other W111 (Or.inr (own_sn_23_49 hw)))
  have f116 := ((((f96.ext E99).other W102 (Or.inr (own_sn_29_47 hw))).ext E108).other W111 (Or.inr (own_sn_29_49 hw)))
  have f117 := ((((((((((f59.other W71 (Or.inl ne64)).other W75 (Or.inr (own_sn_31_33 hw))).ext E79).other W82 (Or.inr (own_sn_31_35 hw))).ext E86).other W89 (Or.inr (own_sn_31_37 hw))).ext E99).other W102 (Or.inr (own_sn_31_47 hw))).ext E108).other W111 (Or.inr (own_sn_31_49 hw)))
  have f118 := (((((((((f72.other W75 (Ne.symm ne64)).ext E79).other W82 (Ne.symm ne64)).ext E86).other W89 (Ne.symm ne64)).ext E99).other W102 (Ne.symm ne64)).ext E108).other W111 (Ne.symm ne64))
  have f119 := ((((((((f76.ext E79).other W82 (Or.inr (own_sn_33_35 hw))).ext E86).other W89 (Or.inr (own_sn_33_37 hw))).ext E99).other W102 (Or.inr (own_sn_33_47 hw))).ext E108).other W111 (Or.inr (own_sn_33_49 hw)))
  have ne120 : a1_0 ≠ b79 := Nat.ne_of_lt (Nat.lt_of_lt_of_le (f73.wr W75).lt (Nat.le_of_eq ga79.symm))
  have f121 := (((((((V79.other W82 (Ne.symm ne120)).ext E86).other W89 (Ne.symm ne120)).ext E99).other W102 (Ne.symm ne120)).ext E108).other W111 (Ne.symm ne120))
  have f122 := ((((((f83.ext E86).other W89 (Or.inr (own_sn_35_37 hw))).ext E99).other W102 (Or.inr (own_sn_35_47 hw))).ext E108).other W111 (Or.inr (own_sn_35_49 hw)))
  have ne123 : a1_0 ≠ b86 := Nat.ne_of_lt (Nat.lt_of_lt_of_le (f80.wr W82).lt (Nat.le_of_eq ga86.symm))
  have f124 := (((((V86.other W89 (Ne.symm ne123)).ext E99).other W102 (Ne.symm ne123)).ext E108).other W111 (Ne.symm ne123))
  have f125 := ((((f90.ext E99).other W102 (Or.inr (own_sn_37_47 hw))).ext E108).other W111 (Or.inr (own_sn_37_49 hw)))
  have f126 := ((f106.ext E108).other W111 (Ne.symm ne105))
  have f127 := ((f103.ext E108).other W111 (Or.inr (own_sn_47_49 hw)))
  have ne128 : a1_0 ≠ b108 := Nat.ne_of_lt (Nat.lt_of_lt_of_le (f100.wr W102).lt (Nat.le_of_eq ga108.symm))
  have f129 := (V108.other W111 (Ne.symm ne128))
  have ne130 : b13 ≠ b79 := Nat.ne_of_lt (Nat.lt_of_lt_of_le ((((((((Ex13.wr W17).wr W26).wr W36).wr W46).ext E55).wr W58).wr W71).wr W75).lt (Nat.le_of_eq ga79.symm))
  have ne131 : b13 ≠ b86 := Nat.ne_of_lt (Nat.lt_of_lt_of_le ((((((((((Ex13.wr W17).wr W26).wr W36).wr W46).ext E55).wr W58).wr W71).wr W75).ext E79).wr W82).lt (Nat.le_of_eq ga86.symm))
  have ne132 : b13 ≠ b99 := Nat.ne_of_lt (Nat.lt_of_lt_of_le ((((((((((((Ex13.wr W17).wr W26).wr W36).wr W46).ext E55).wr W58).wr W71).wr W75).ext E79).wr W82).ext E86).wr W89).lt (Nat.le_of_eq ga99.symm))
  have ne133 : b13 ≠ b108 := Nat.ne_of_lt (Nat.lt_of_lt_of_le ((((((((((((((Ex13.wr W17).wr W26).wr W36).wr W46).ext E55).wr W58).wr W71).wr W75).ext E79).wr W82).ext E86).wr W89).ext E99).wr W102).lt (Nat.le_of_eq ga108.symm))
  have ne134 : b55 ≠ b79 := Nat.ne_of_lt (Nat.lt_of_lt_of_le (((Ex55.wr W58).wr W71).wr W75).lt (Nat.le_of_eq ga79.symm))
  have ne135 : b55 ≠ b86 := Nat.ne_of_lt (Nat.lt_of_lt_of_le (((((Ex55.wr W58).wr W71).wr W75).ext E79).wr W82).lt (Nat.le_of_eq ga86.symm))
  have ne136 : b55 ≠ b99 := Nat.ne_of_lt (Nat.lt_of_lt_of_le (((((((Ex55.wr W58).wr W71).wr W75).ext E79).wr W82).ext E86).wr W89).lt (Nat.le_of_eq ga99.symm))
  have ne137 : b55 ≠ b108 := Nat.ne_of_lt (Nat.lt_of_lt_of_le (((((((((Ex55.wr W58).wr W71).wr W75).ext E79).wr W82).ext E86).wr W89).ext E99).wr W102).lt (Nat.le_of_eq ga108.symm))
  have ne138 : b79 ≠ b86 := Nat.ne_of_lt (Nat.lt_of_lt_of_le (Ex79.wr W82).lt (Nat.le_of_eq ga86.symm))
  have ne139 : b79 ≠ b99 := Nat.ne_of_lt (Nat.lt_of_lt_of_le (((Ex79.wr W82).ext E86).wr W89).lt (Nat.le_of_eq ga99.symm))
  have ne140 : b79 ≠ b108 := Nat.ne_of_lt (Nat.lt_of_lt_of_le (((((Ex79.wr W82).ext E86).wr W89).ext E99).wr W102).lt (Nat.le_of_eq ga108.symm))
  have ne141 : b86 ≠ b99 := Nat.ne_of_lt (Nat.lt_of_lt_of_le (Ex86.wr W89).lt (Nat.le_of_eq ga99.symm))
  have ne142 : b86 ≠ b108 := Nat.ne_of_lt (Nat.lt_of_lt_of_le (((Ex86.wr W89).ext E99).wr W102).lt (Nat.le_of_eq ga108.symm))
  have ne143 : b99 ≠ b108 := Nat.ne_of_lt (Nat.lt_of_lt_of_le (Ex99.wr W102).lt (Nat.le_of_eq ga108.symm))
  refine own_retV X111 hx hlk hret (hb hby d1_176) (by decide) (by decide) ?_
  show Q1L1 Z a1_0 a1_1 q1_2 u1_largest v1_sum ky y0 y1 y2 y3 h0 n0 _ T111.heap _
  rw [e111]
  exact ⟨b13, b55, b79, b86, b99, b108, _, _, _, _, _, _, sz_b13, sz_b55, sz_b79, sz_b86, sz_b99, sz_b108, ne93, ne130, ne131, ne132, ne133, ne134, ne135, ne136, ne137, ne138, ne139, ne140, ne141, ne142, ne143, rfl, N111, K111, f114, f118, f121, f124, f126, f129, f113, f115, f116, f117, f119, f122, f125, f127, f112⟩
theorem ef_1L2 (m : MethodId) (a1_0 : Addr) (a1_1 : Addr) (q1_2 : Int64) : entryFrame m #[(.ref a1_0), (.ref a1_1), (.long q1_2)] 5 = mkF m 0 #[.val (.ref a1_0), .val (.ref a1_1), .val (.long q1_2), .second, .unset] [] := by first | (simp [entryFrame, mkF, argsToLocals, Value.category]; done) | rfl
def Q1L2 (Z : State) (a1_0 : Addr) (a1_1 : Addr) (q1_2 : Int64) (u1_largest : Int32) (v1_sum : Int64) (ky : ClassId) (y0 : Int32) (y1 : Int32) (y2 : Int32) (y3 : Int32) (h0 : Heap) (n0 : Nat) (v : Option Value) (h : Heap) (L : List Loc) : Prop := ∃ (bf0 : Addr) (bf1 : Addr) (bf2 : Addr) (bf3 : Addr) (bf4 : Addr) (bf5 : Addr) (kf0 : ClassId) (kf1 : ClassId) (kf2 : ClassId) (kf3 : ClassId) (kf4 : ClassId) (kf5 : ClassId), h0.size ≤ bf0 ∧ h0.size ≤ bf1 ∧ h0.size ≤ bf2 ∧ h0.size ≤ bf3 ∧ h0.size ≤ bf4 ∧ h0.size ≤ bf5 ∧ bf0 ≠ bf1 ∧ bf0 ≠ bf2 ∧ bf0 ≠ bf3 ∧ bf0 ≠ bf4 ∧ bf0 ≠ bf5 ∧ bf1 ≠ bf2 ∧ bf1 ≠ bf3 ∧ bf1 ≠ bf4 ∧ bf1 ≠ bf5 ∧ bf2 ≠ bf3 ∧ bf2 ≠ bf4 ∧ bf2 ≠ bf5 ∧ bf3 ≠ bf4 ∧ bf3 ≠ bf5 ∧ bf4 ≠ bf5 ∧ v = none ∧ Fr n0 L ∧ Keep h0 h [a1_0] ∧ Arv Z h bf0 kf0 .int (4 : Int32) [(.int y0), (.int y1), (.int y2), (.int y3)] (.int (0 : Int32)) ∧ Arv Z h bf1 kf1 .int (4 : Int32) [(.int 0), (.int (((0 : Int32) + y2) + y1)), (.int ((0 : Int32) + y2)), (.int 0)] (.int 0) ∧ Arv Z h bf2 kf2 .int (3 : Int32) [(.int 0), (.int 0), (.int 0)] (.int 0) ∧ Arv Z h bf3 kf3 .int (3 : Int32) [(.int 0), (.int 0), (.int 0)] (.int 0) ∧ Arv Z h bf4 kf4 .long (3 : Int32) [(.long 0), (.long 0), (.long 0)] (.long 0) ∧ Arv Z h bf5 kf5 .int (4 : Int32) [(.int 0), (.int 0), (.int 0), (.int 0)] (.int 0) ∧ Exa Z h a1_0 "gallai/service/ResidualDegrees" ∧ Fld Z h a1_0 "gallai/service/ResidualDegrees" "countOf" "[I" (.ref bf0) ∧ Fld Z h a1_0 "gallai/service/ResidualDegrees" "largest" "I" (.int 2) ∧ Fld Z h a1_0 "gallai/service/ResidualDegrees" "atLeast" "[I" (.ref bf1) ∧ Fld Z h a1_0 "gallai/service/ResidualDegrees" "sum" "J" (.long q1_2) ∧ Fld Z h a1_0 "gallai/service/ResidualDegrees" "partnersOf" "[I" (.ref bf2) ∧ Fld Z h a1_0 "gallai/service/ResidualDegrees" "saved" "[I" (.ref bf3) ∧ Fld Z h a1_0 "gallai/service/ResidualDegrees" "slack" "[J" (.ref bf4) ∧ Fld Z h a1_0 "gallai/service/ResidualDegrees" "nextTight" "[I" (.ref bf5)
set_option maxRecDepth 65536 in
set_option maxHeartbeats 40000000 in
theorem rm1L2 (l : Launch) (Z : State) (a0 : Array Value) (hw : ∀ d ∈ tables_1, d.before a0 Z = true) (ws : List Jvm.Cond) (a1_0 : Addr) (a1_1 : Addr) (q1_2 : Int64) (u1_largest : Int32) (v1_sum : Int64) (ky : ClassId) (y0 : Int32) (y1 : Int32) (y2 : Int32) (y3 : Int32) (h0 : Heap) (n0 : Nat) (Z0 : n0 ≤ h0.size) (F_countOf_a1_0 : Fld Z h0 a1_0 "gallai/service/ResidualDegrees" "countOf" "[I" .null) (F_largest_a1_0 : Fld Z h0 a1_0 "gallai/service/ResidualDegrees" "largest" "I" (.int u1_largest)) (F_atLeast_a1_0 : Fld Z h0 a1_0 "gallai/service/ResidualDegrees" "atLeast" "[I" .null) (F_sum_a1_0 : Fld Z h0 a1_0 "gallai/service/ResidualDegrees" "sum" "J" (.long v1_sum)) (F_partnersOf_a1_0 : Fld Z h0 a1_0 "gallai/service/ResidualDegrees" "partnersOf" "[I" .null) (F_saved_a1_0 : Fld Z h0 a1_0 "gallai/service/ResidualDegrees" "saved" "[I" .null) (F_slack_a1_0 : Fld Z h0 a1_0 "gallai/service/ResidualDegrees" "slack" "[J" .null) (F_nextTight_a1_0 : Fld Z h0 a1_0 "gallai/service/ResidualDegrees" "nextTight" "[I" .null) (E_a1_1 : Exa Z h0 a1_1 "[I") (E_a1_0 : Exa Z h0 a1_0 "gallai/service/ResidualDegrees") (V_a1_1 : Arv Z h0 a1_1 ky .int (4 : Int32) [(.int y0), (.int y1), (.int y2), (.int y3)] (.int (0 : Int32))) (g_a1_0 : n0 ≤ a1_0) (hA0 : y3 = (0 : Int32)) (hA1 : ¬ y2 = (0 : Int32)) :
    MetFree l (⟨"gallai/service/ResidualDegrees", "<init>", "([IJ)V"⟩ : MethodName) (head1 (Jvm.Cond.code (⟨"gallai/service/ResidualDegrees", "<init>", "([IJ)V"⟩ : MethodName) prog_45_method_1_code 5 none :: ws) ({ frames := 2, cells := 6, slots := 21, locals := 27 } : Room)) (fun a U => a = #[(.ref a1_0), (.ref a1_1), (.long q1_2)] ∧ Z.Warmed39 U.vm ∧ U.heap = h0) (fun _ _ _ _ _ => True) (fun _ U o U' => ∃ v L, o = .returned v ∧ Q1L2 Z a1_0 a1_1 q1_2 u1_largest v1_sum ky y0 y1 y2 y3 h0 n0 v U'.heap L ∧ FrameEnd U o U' L ({ frames := 2, cells := 6, slots := 21, locals := 27 } : Room).cells ({ frames := 2, cells := 6, slots := 21, locals := 27 } : Room).slots) := by
  refine MetFree.of_bodySF (plainFor_of_name pn_gallai_service_ResidualDegrees) hisR ?_
  intro p e s m args below meth c s₁ Bd hml0 hP hK
  obtain ⟨rfl, hZ, hh⟩ := hP
  have hx := Bd.exec
  have hby := Bd.bytes
  have hlk := Bd.notSynchronized
  have hret := Bd.returns
  have hml : c.maxLocals = 5 := hml0
  have hown : s.vm.findClass "gallai/service/ResidualDegrees" = some m.cls := findClass_of_methodNamed Bd.named
  have hnm := (name_of_methodNamed Bd.named Bd.method).1
  have X0 : Stand p l e ({ frames := 2, cells := 6, slots := 21, locals := 27 } : Room) s m #[(.ref a1_0), (.ref a1_1), (.long q1_2)] below meth c s₁ [] 0 0 := Stand.of_body Bd
  have e0 : s₁.heap = h0 := by rw [← hh, Bd.state]; rfl
  have N0 := Fr.nil n0
  have K0 : Keep h0 h0 [a1_0] := Keep.refl _ _
  show own_G p e below s (Q1L2 Z a1_0 a1_1 q1_2 u1_largest v1_sum ky y0 y1 y2 y3 h0 n0) ({ frames := 2, cells := 6, slots := 21, locals := 27 } : Room).cells ({ frames := 2, cells := 6, slots := 21, locals := 27 } : Room).slots s₁ (entryFrame m #[(.ref a1_0), (.ref a1_1), (.long q1_2)] 5)
  have ww0 := hw _ (List.mem_of_getElem? (i := 0) rfl)
  have ww5 := hw _ (List.mem_of_getElem? (i := 5) rfl)
  have ww10 := hw _ (List.mem_of_getElem? (i := 10) rfl)
  have ww11 := hw _ (List.mem_of_getElem? (i := 11) rfl)
  have ww12 := hw _ (List.mem_of_getElem? (i := 12) rfl)
  have ww13 := hw _ (List.mem_of_getElem? (i := 13) rfl)
  have ww14 := hw _ (List.mem_of_getElem? (i := 14) rfl)
  have ww16 := hw _ (List.mem_of_getElem? (i := 16) rfl)
  have ww17 := hw _ (List.mem_of_getElem? (i := 17) rfl)
  have ww18 := hw _ (List.mem_of_getElem? (i := 18) rfl)
  have ww19 := hw _ (List.mem_of_getElem? (i := 19) rfl)
  have ww20 := hw _ (List.mem_of_getElem? (i := 20) rfl)
  have ww22 := hw _ (List.mem_of_getElem? (i := 22) rfl)
  have ww23 := hw _ (List.mem_of_getElem? (i := 23) rfl)
  have ww24 := hw _ (List.mem_of_getElem? (i := 24) rfl)
  have ww25 := hw _ (List.mem_of_getElem? (i := 25) rfl)
  have ww26 := hw _ (List.mem_of_getElem? (i := 26) rfl)
  have ww27 := hw _ (List.mem_of_getElem? (i := 27) rfl)
  have ww28 := hw _ (List.mem_of_getElem? (i := 28) rfl)
  have ww29 := hw _ (List.mem_of_getElem? (i := 29) rfl)
  have ww30 := hw _ (List.mem_of_getElem? (i := 30) rfl)
  have ww31 := hw _ (List.mem_of_getElem? (i := 31) rfl)
  have ww32 := hw _ (List.mem_of_getElem? (i := 32) rfl)
  have ww33 := hw _ (List.mem_of_getElem? (i := 33) rfl)
  have ww34 := hw _ (List.mem_of_getElem? (i := 34) rfl)
  have ww35 := hw _ (List.mem_of_getElem? (i := 35) rfl)
  have ww36 := hw _ (List.mem_of_getElem? (i := 36) rfl)
  have ww37 := hw _ (List.mem_of_getElem? (i := 37) rfl)
  have ww38 := hw _ (List.mem_of_getElem? (i := 38) rfl)
  have ww39 := hw _ (List.mem_of_getElem? (i := 39) rfl)
  have ww40 := hw _ (List.mem_of_getElem? (i := 40) rfl)
  have ww41 := hw _ (List.mem_of_getElem? (i := 41) rfl)
  have ww45 := hw _ (List.mem_of_getElem? (i := 45) rfl)
  have ww46 := hw _ (List.mem_of_getElem? (i := 46) rfl)
  have ww47 := hw _ (List.mem_of_getElem? (i := 47) rfl)
  have ww48 := hw _ (List.mem_of_getElem? (i := 48) rfl)
  have ww49 := hw _ (List.mem_of_getElem? (i := 49) rfl)
  refine own_cast (ef_1L2 m a1_0 a1_1 q1_2) ?_
  refine own_s (g' := (mkF m 1 #[.val (.ref a1_0), .val (.ref a1_1), .val (.long q1_2), .second, .unset] [(.ref a1_0)])) (fun _ kz => XS.aloadN X0.here hx rfl (hb hby d1_0) rfl rfl kz) ?_
  obtain ⟨T144, X144, e144, st144⟩ := initO X0 hx hZ hown ww10 ww11 ww12 e0 (g := (mkF m 1 #[.val (.ref a1_0), .val (.ref a1_1), .val (.long q1_2), .second, .unset] [(.ref a1_0)])) rfl (by rw [hml]; rfl) rfl (hb hby d1_1) (by decide) (W := 0) (by show 2 * 0 + _ ≤ _; exact Nat.le_of_eq rfl) (by decide)
  refine own_s (g' := (mkF m 4 #[.val (.ref a1_0), .val (.ref a1_1), .val (.long q1_2), .second, .unset] [])) st144 ?_
  refine own_s (g' := (mkF m 5 #[.val (.ref a1_0), .val (.ref a1_1), .val (.long q1_2), .second, .unset] [(.ref a1_0)])) (fun _ kz => XS.aloadN X144.here hx rfl (hb hby d1_4) rfl rfl kz) ?_
  refine own_s (g' := (mkF m 6 #[.val (.ref a1_0), .val (.ref a1_1), .val (.long q1_2), .second, .unset] [(.ref a1_1), (.ref a1_0)])) (fun _ kz => XS.aloadN X144.here hx rfl (hb hby d1_5) rfl rfl kz) ?_
  obtain ⟨T145, h145, X145, e145, E145, A145, Ex145, st145⟩ := cloneH X144 hx hZ hown ww13 ww14 ww18 ww16 ww17 ww19 e144 (Arv.arh V_a1_1) E_a1_1 (g := (mkF m 6 #[.val (.ref a1_0), .val (.ref a1_1), .val (.long q1_2), .second, .unset] [(.ref a1_1), (.ref a1_0)])) rfl (by rw [hml]; rfl) rfl (hb hby d1_6) (by decide) (W := 1) (cap := 4) (by show 2 * 0 + _ ≤ _; exact Nat.le_of_eq rfl) (by decide) (by decide) (by decide) (by decide)
  obtain ⟨b145, ga145⟩ : ∃ z, z = h0.size := ⟨_, rfl⟩
  rw [← ga145] at A145 Ex145 st145
  have g_b145 := Nat.le_trans Z0 (Nat.le_of_eq ga145.symm)
  have sz_b145 := Nat.le_trans K0.1 (Nat.le_of_eq ga145.symm)
  have V145 : Arv Z h145 b145 ky .int (4 : Int32) [(.int y0), (.int y1), (.int y2), (.int y3)] (.int (0 : Int32)) := A145
  have K145 := K0.ext E145
  refine own_s (g' := (mkF m 9 #[.val (.ref a1_0), .val (.ref a1_1), .val (.long q1_2), .second, .unset] [(.ref b145), (.ref a1_0)])) st145 ?_
  obtain ⟨T146, X146, e146, st146⟩ := castY X145 hx hZ hown ww20 e145 (Ins.self Ex145) (g := (mkF m 9 #[.val (.ref a1_0), .val (.ref a1_1), .val (.long q1_2), .second, .unset] [(.ref b145), (.ref a1_0)])) rfl rfl (hb hby d1_9)
  refine own_s (g' := (mkF m 12 #[.val (.ref a1_0), .val (.ref a1_1), .val (.long q1_2), .second, .unset] [(.ref b145), (.ref a1_0)])) st146 ?_
  have f147 := (E_a1_0.ext E145)
  have f148 := (F_countOf_a1_0.ext E145)
  obtain ⟨T149, h149, X149, e149, W149, st149⟩ := putF X146 hx hZ hown (host := "") (Or.inl ww22) Via.refl e146 f148 f147 (Or.inr ⟨ww23, rfl, hnm⟩) ww5 (ty := (.array .int)) (by decide +kernel) rfl rfl (g := (mkF m 12 #[.val (.ref a1_0), .val (.ref a1_1), .val (.long q1_2), .second, .unset] [(.ref b145), (.ref a1_0)])) rfl rfl (hb hby d1_12)
  have f150 := f148.same W149
  have K149 := K145.wr W149 (Or.inl (List.mem_of_getElem? (i := 0) rfl))
  have N149 := Fr.snoc X149 N0 g_a1_0
  refine own_s (g' := (mkF m 15 #[.val (.ref a1_0), .val (.ref a1_1), .val (.long q1_2), .second, .unset] [])) st149 ?_
  refine own_s (g' := (mkF m 16 #[.val (.ref a1_0), .val (.ref a1_1), .val (.long q1_2), .second, .unset] [(.ref a1_0)])) (fun _ kz => XS.aloadN X149.here hx rfl (hb hby d1_15) rfl rfl kz) ?_
  refine own_s (g' := (mkF m 17 #[.val (.ref a1_0), .val (.ref a1_1), .val (.long q1_2), .second, .unset] [(.ref a1_0), (.ref a1_0)])) (fun _ kz => XS.aloadN X149.here hx rfl (hb hby d1_16) rfl rfl kz) ?_
  obtain ⟨T151, X151, e151, st151⟩ := getF X149 hx hZ hown (host := "") (Or.inl ww22) Via.refl e149 f150 (g := (mkF m 17 #[.val (.ref a1_0), .val (.ref a1_1), .val (.long q1_2), .second, .unset] [(.ref a1_0), (.ref a1_0)])) rfl rfl (hb hby d1_17)
  refine own_s (g' := (mkF m 20 #[.val (.ref a1_0), .val (.ref a1_1), .val (.long q1_2), .second, .unset] [(.ref b145), (.ref a1_0)])) st151 ?_
  have ne152 : a1_0 ≠ b145 := Nat.ne_of_lt (Nat.lt_of_lt_of_le E_a1_0.lt (Nat.le_of_eq ga145.symm))
  have f153 := (V145.other W149 (Ne.symm ne152))
  obtain ⟨cl154, Ar154, -, S154, M154, -, -⟩ := id f153
  refine own_s (g' := (mkF m 21 #[.val (.ref a1_0), .val (.ref a1_1), .val (.long q1_2), .second, .unset] [(.int 4), (.ref a1_0)])) (fun t k => X151.arraylength hx (by rw [e151]; exact Ar154.1) (State.isArrayOf_alike hZ.alike Ar154.2.1) (g := (mkF m 20 #[.val (.ref a1_0), .val (.ref a1_1), .val (.long q1_2), .second, .unset] [(.ref b145), (.ref a1_0)])) rfl rfl (hb hby d1_20) _ (by rw [len_of S154 M154]; exact k)) ?_
  refine own_s (g' := (mkF m 22 #[.val (.ref a1_0), .val (.ref a1_1), .val (.long q1_2), .second, .unset] [(.int 1), (.int 4), (.ref a1_0)])) (fun _ kz => XS.iconst X151.here hx rfl (hb hby d1_21) kz) ?_
  refine own_s (g' := (mkF m 23 #[.val (.ref a1_0), .val (.ref a1_1), .val (.long q1_2), .second, .unset] [(.int ((4 : Int32) - (1 : Int32))), (.ref a1_0)])) (fun _ kz => XS.isub X151.here hx rfl (hb hby d1_22) rfl kz) ?_
  rw [show ((4 : Int32) - (1 : Int32)) = (3 : Int32) from by decide]
  refine own_s (g' := (mkF m 24 #[.val (.ref a1_0), .val (.ref a1_1), .val (.long q1_2), .second, .unset] [(.int 0), (.int 3), (.ref a1_0)])) (fun _ kz => XS.iconst X151.here hx rfl (hb hby d1_23) kz) ?_
  obtain ⟨_, _, ⟨T155, L155, k155, n155⟩, -, X155, ⟨Lc155, hQ155, l155, y155, z155⟩, st155⟩ := Jvm.LawKit.callS X151 hx (y := (⟨"java/lang/Math", "max", "(II)I"⟩ : MethodName)) hown (mvT hZ ww24) (mvT hZ ww25) (mvT hZ ww26) (mvT hZ ww27) (by decide) (backOf (W := 1) (rm3 l Z a0 hw [] (3 : Int32) (0 : Int32) h149 n0 (Nat.le_trans Z0 K149.1) ) hZ ww27 ww26 (by decide) (by decide)) (g := (mkF m 24 #[.val (.ref a1_0), .val (.ref a1_1), .val (.long q1_2), .second, .unset] [(.int 0), (.int 3), (.ref a1_0)])) rfl (by rw [hml]; rfl) (argsL := [(.int 3), (.int 0)]) (rest := [(.ref a1_0)]) (lenOf pd__II_I rfl) rfl (by show 2 * 0 + _ ≤ _; exact Nat.le_of_eq rfl) (hb hby d1_24) (fun _ _ => ⟨rfl, e151, (by decide : 1 + 0 ≤ _), (by decide : 4 + 0 ≤ _)⟩)
  dsimp only [Pt.U, Pt.locs, Pt.cells, Pt.slots] at X155 l155 y155 z155 st155 hQ155
  subst l155 y155 z155
  obtain ⟨rfl, N155q, eh155⟩ := hQ155
  have N155 := Fr.app N149 N155q
  refine own_s (g' := (mkF m 27 #[.val (.ref a1_0), .val (.ref a1_1), .val (.long q1_2), .second, .unset] [(.int (r3 (3 : Int32) (0 : Int32))), (.ref a1_0)])) st155 ?_
  rw [show (r3 (3 : Int32) (0 : Int32)) = (3 : Int32) from (if_neg ((by decide) : ¬ (3 : Int32) < (0 : Int32)))]
  have f156 := (f147.wr W149)
  have f157 := ((F_largest_a1_0.ext E145).other W149 (Or.inr (own_sn_29_23 hw)))
  obtain ⟨T158, h158, X158, e158, W158, st158⟩ := putF X155 hx hZ hown (host := "") (Or.inl ww28) Via.refl eh155 f157 f156 (Or.inl ww29) ww5 (ty := .int) (by decide +kernel) rfl rfl (g := (mkF m 27 #[.val (.ref a1_0), .val (.ref a1_1), .val (.long q1_2), .second, .unset] [(.int 3), (.ref a1_0)])) rfl rfl (hb hby d1_27)
  have f159 := f157.same W158
  have K158 := K149.wr W158 (Or.inl (List.mem_of_getElem? (i := 0) rfl))
  have N158 := Fr.snoc X158 N155 g_a1_0
  refine own_s (g' := (mkF m 30 #[.val (.ref a1_0), .val (.ref a1_1), .val (.long q1_2), .second, .unset] [])) st158 ?_
  refine own_s (g' := (mkF m 31 #[.val (.ref a1_0), .val (.ref a1_1), .val (.long q1_2), .second, .unset] [(.ref a1_0)])) (fun _ kz => XS.aloadN X158.here hx rfl (hb hby d1_30) rfl rfl kz) ?_
  obtain ⟨T160, X160, e160, st160⟩ := getF X158 hx hZ hown (host := "") (Or.inl ww28) Via.refl e158 f159 (g := (mkF m 31 #[.val (.ref a1_0), .val (.ref a1_1), .val (.long q1_2), .second, .unset] [(.ref a1_0)])) rfl rfl (hb hby d1_31)
  refine own_s (g' := (mkF m 34 #[.val (.ref a1_0), .val (.ref a1_1), .val (.long q1_2), .second, .unset] [(.int 3)])) st160 ?_
  refine own_s (g' := (mkF m 37 #[.val (.ref a1_0), .val (.ref a1_1), .val (.long q1_2), .second, .unset] [])) (fun _ kz => XS.ifNo X160.here hx rfl (hb hby d1_34) rfl ((if0 _ _).trans (tlt ((by decide) : (0 : Int32) < (3 : Int32))).2.2.2) kz) ?_
  refine own_s (g' := (mkF m 38 #[.val (.ref a1_0), .val (.ref a1_1), .val (.long q1_2), .second, .unset] [(.ref a1_0)])) (fun _ kz => XS.aloadN X160.here hx rfl (hb hby d1_37) rfl rfl kz) ?_
  have f161 := (f150.other W158 (Or.inr (own_sn_23_29 hw)))
  obtain ⟨T162, X162, e162, st162⟩ := getF X160 hx hZ hown (host := "") (Or.inl ww22) Via.refl e160 f161 (g := (mkF m 38 #[.val (.ref a1_0), .val (.ref a1_1), .val (.long q1_2), .second, .unset] [(.ref a1_0)])) rfl rfl (hb hby d1_38)
  refine own_s (g' := (mkF m 41 #[.val (.ref a1_0), .val (.ref a1_1), .val (.long q1_2), .second, .unset] [(.ref b145)])) st162 ?_
  refine own_s (g' := (mkF m 42 #[.val (.ref a1_0), .val (.ref a1_1), .val (.long q1_2), .second, .unset] [(.ref a1_0), (.ref b145)])) (fun _ kz => XS.aloadN X162.here hx rfl (hb hby d1_41) rfl rfl kz) ?_
  obtain ⟨T163, X163, e163, st163⟩ := getF X162 hx hZ hown (host := "") (Or.inl ww28) Via.refl e162 f159 (g := (mkF m 42 #[.val (.ref a1_0), .val (.ref a1_1), .val (.long q1_2), .second, .unset] [(.ref a1_0), (.ref b145)])) rfl rfl (hb hby d1_42)
  refine own_s (g' := (mkF m 45 #[.val (.ref a1_0), .val (.ref a1_1), .val (.long q1_2), .second, .unset] [(.int 3), (.ref b145)])) st163 ?_
  have f164 := (f153.other W158 (Ne.symm ne152))
  obtain ⟨cl165, Ar165, -, S165, -, H165, -⟩ := id f164
  have in165 := inb_of S165 (j := (3 : Int32)) ⟨by decide, by decide⟩
  refine own_s (g' := (mkF m 46 #[.val (.ref a1_0), .val (.ref a1_1), .val (.long q1_2), .second, .unset] [(.int y3)])) (X163.iaload hx (j := (3 : Int32)) (v := (.int y3)) (by rw [e163]; exact Ar165.1) (State.isArrayOf_alike hZ.alike Ar165.2.1) Ar165.2.2 in165 (Has.at H165 in165 rfl) (g := (mkF m 45 #[.val (.ref a1_0), .val (.ref a1_1), .val (.long q1_2), .second, .unset] [(.int 3), (.ref b145)])) rfl rfl (hb hby d1_45)) ?_
  refine own_s (g' := (mkF m 49 #[.val (.ref a1_0), .val (.ref a1_1), .val (.long q1_2), .second, .unset] [])) (fun _ kz => XS.ifNo X163.here hx rfl (hb hby d1_46) rfl ((if0 _ _).trans (teq hA0).2) kz) ?_
  refine own_s (g' := (mkF m 50 #[.val (.ref a1_0), .val (.ref a1_1), .val (.long q1_2), .second, .unset] [(.ref a1_0)])) (fun _ kz => XS.aloadN X163.here hx rfl (hb hby d1_49) rfl rfl kz) ?_
  refine own_s (g' := (mkF m 51 #[.val (.ref a1_0), .val (.ref a1_1), .val (.long q1_2), .second, .unset] [(.ref a1_0), (.ref a1_0)])) (fun _ kz => XS.dup X163.here hx rfl (hb hby d1_50) rfl rfl kz) ?_
  obtain ⟨T166, X166, e166, st166⟩ := getF X163 hx hZ hown (host := "") (Or.inl ww28) Via.refl e163 f159 (g := (mkF m 51 #[.val (.ref a1_0), .val (.ref a1_1), .val (.long q1_2), .second, .unset] [(.ref a1_0), (.ref a1_0)])) rfl rfl (hb hby d1_51)
  refine own_s (g' := (mkF m 54 #[.val (.ref a1_0), .val (.ref a1_1), .val (.long q1_2), .second, .unset] [(.int 3), (.ref a1_0)])) st166 ?_
  refine own_s (g' := (mkF m 55 #[.val (.ref a1_0), .val (.ref a1_1), .val (.long q1_2), .second, .unset] [(.int 1), (.int 3), (.ref a1_0)])) (fun _ kz => XS.iconst X166.here hx rfl (hb hby d1_54) kz) ?_
  refine own_s (g' := (mkF m 56 #[.val (.ref a1_0), .val (.ref a1_1), .val (.long q1_2), .second, .unset] [(.int ((3 : Int32) - (1 : Int32))), (.ref a1_0)])) (fun _ kz => XS.isub X166.here hx rfl (hb hby d1_55) rfl kz) ?_
  rw [show ((3 : Int32) - (1 : Int32)) = (2 : Int32) from by decide]
  have f167 := (f156.wr W158)
  obtain ⟨T168, h168, X168, e168, W168, st168⟩ := putF X166 hx hZ hown (host := "") (Or.inl ww28) Via.refl e166 f159 f167 (Or.inl ww29) ww5 (ty := .int) (by decide +kernel) rfl rfl (g := (mkF m 56 #[.val (.ref a1_0), .val (.ref a1_1), .val (.long q1_2), .second, .unset] [(.int 2), (.ref a1_0)])) rfl rfl (hb hby d1_56)
  have f169 := f159.same W168
  have K168 := K158.wr W168 (Or.inl (List.mem_of_getElem? (i := 0) rfl))
  have N168 := Fr.snoc X168 N158 g_a1_0
  refine own_s (g' := (mkF m 59 #[.val (.ref a1_0), .val (.ref a1_1), .val (.long q1_2), .second, .unset] [])) st168 ?_
  refine own_s (g' := (mkF m 30 #[.val (.ref a1_0), .val (.ref a1_1), .val (.long q1_2), .second, .unset] [])) (fun _ kz => XS.goto X168.here hx rfl (pc0 := 59) (pc' := 30) rfl (hb hby d1_59) (by decide) (by decide) kz) ?_
  refine own_s (g' := (mkF m 31 #[.val (.ref a1_0), .val (.ref a1_1), .val (.long q1_2), .second, .unset] [(.ref a1_0)])) (fun _ kz => XS.aloadN X168.here hx rfl (hb hby d1_30) rfl rfl kz) ?_
  obtain ⟨T170, X170, e170, st170⟩ := getF X168 hx hZ hown (host := "") (Or.inl ww28) Via.refl e168 f169 (g := (mkF m 31 #[.val (.ref a1_0), .val (.ref a1_1), .val (.long q1_2), .second, .unset] [(.ref a1_0)])) rfl rfl (hb hby d1_31)
  refine own_s (g' := (mkF m 34 #[.val (.ref a1_0), .val (.ref a1_1), .val (.long q1_2), .second, .unset] [(.int 2)])) st170 ?_
  refine own_s (g' := (mkF m 37 #[.val (.ref a1_0), .val (.ref a1_1), .val (.long q1_2), .second, .unset] [])) (fun _ kz => XS.ifNo X170.here hx rfl (hb hby d1_34) rfl ((if0 _ _).trans (tlt ((by decide) : (0 : Int32) < (2 : Int32))).2.2.2) kz) ?_
  refine own_s (g' := (mkF m 38 #[.val (.ref a1_0), .val (.ref a1_1), .val (.long q1_2), .second, .unset] [(.ref a1_0)])) (fun _ kz => XS.aloadN X170.here hx rfl (hb hby d1_37) rfl rfl kz) ?_
  have f171 := (f161.other W168 (Or.inr (own_sn_23_29 hw)))
  obtain ⟨T172, X172, e172, st172⟩ := getF X170 hx hZ hown (host := "") (Or.inl ww22) Via.refl e170 f171 (g := (mkF m 38 #[.val (.ref a1_0), .val (.ref a1_1), .val (.long q1_2), .second, .unset] [(.ref a1_0)])) rfl rfl (hb hby d1_38)
  refine own_s (g' := (mkF m 41 #[.val (.ref a1_0), .val (.ref a1_1), .val (.long q1_2), .second, .unset] [(.ref b145)])) st172 ?_
  refine own_s (g' := (mkF m 42 #[.val (.ref a1_0), .val (.ref a1_1), .val (.long q1_2), .second, .unset] [(.ref a1_0), (.ref b145)])) (fun _ kz => XS.aloadN X172.here hx rfl (hb hby d1_41) rfl rfl kz) ?_
  obtain ⟨T173, X173, e173, st173⟩ := getF X172 hx hZ hown (host := "") (Or.inl ww28) Via.refl e172 f169 (g := (mkF m 42 #[.val (.ref a1_0), .val (.ref a1_1), .val (.long q1_2), .second, .unset] [(.ref a1_0), (.ref b145)])) rfl rfl (hb hby d1_42)
  refine own_s (g' := (mkF m 45 #[.val (.ref a1_0), .val (.ref a1_1), .val (.long q1_2), .second, .unset] [(.int 2), (.ref b145)])) st173 ?_
  have f174 := (f164.other W168 (Ne.symm ne152))
  obtain ⟨cl175, Ar175, -, S175, -, H175, -⟩ := id f174
  have in175 := inb_of S175 (j := (2 : Int32)) ⟨by decide, by decide⟩
  refine own_s (g' := (mkF m 46 #[.val (.ref a1_0), .val (.ref a1_1), .val (.long q1_2), .second, .unset] [(.int y2)])) (X173.iaload hx (j := (2 : Int32)) (v := (.int y2)) (by rw [e173]; exact Ar175.1) (State.isArrayOf_alike hZ.alike Ar175.2.1) Ar175.2.2 in175 (Has.at H175 in175 rfl) (g := (mkF m 45 #[.val (.ref a1_0), .val (.ref a1_1), .val (.long q1_2), .second, .unset] [(.int 2), (.ref b145)])) rfl rfl (hb hby d1_45)) ?_
  refine own_s (g' := (mkF m 62 #[.val (.ref a1_0), .val (.ref a1_1), .val (.long q1_2), .second, .unset] [])) (fun _ kz => XS.ifYes X173.here hx rfl (pc0 := 46) (pc' := 62) rfl (hb hby d1_46) rfl ((if0 _ _).trans (feq hA1).2) (by decide) (by decide) kz) ?_
  refine own_s (g' := (mkF m 63 #[.val (.ref a1_0), .val (.ref a1_1), .val (.long q1_2), .second, .unset] [(.ref a1_0)])) (fun _ kz => XS.aloadN X173.here hx rfl (hb hby d1_62) rfl rfl kz) ?_
  refine own_s (g' := (mkF m 64 #[.val (.ref a1_0), .val (.ref a1_1), .val (.long q1_2), .second, .unset] [(.ref a1_0), (.ref a1_0)])) (fun _ kz => XS.aloadN X173.here hx rfl (hb hby d1_63) rfl rfl kz) ?_
  obtain ⟨T176, X176, e176, st176⟩ := getF X173 hx hZ hown (host := "") (Or.inl ww28) Via.refl e173 f169 (g := (mkF m 64 #[.val (.ref a1_0), .val (.ref a1_1), .val (.long q1_2), .second, .unset] [(.ref a1_0), (.ref a1_0)])) rfl rfl (hb hby d1_64)
  refine own_s (g' := (mkF m 67 #[.val (.ref a1_0), .val (.ref a1_1), .val (.long q1_2), .second, .unset] [(.int 2), (.ref a1_0)])) st176 ?_
  refine own_s (g' := (mkF m 68 #[.val (.ref a1_0), .val (.ref a1_1), .val (.long q1_2), .second, .unset] [(.int 2), (.int 2), (.ref a1_0)])) (fun _ kz => XS.iconst X176.here hx rfl (hb hby d1_67) kz) ?_
  refine own_s (g' := (mkF m 69 #[.val (.ref a1_0), .val (.ref a1_1), .val (.long q1_2), .second, .unset] [(.int ((2 : Int32) + (2 : Int32))), (.ref a1_0)])) (fun _ kz => XS.iadd X176.here hx rfl (hb hby d1_68) rfl kz) ?_
  rw [show ((2 : Int32) + (2 : Int32)) = (4 : Int32) from by decide]
  obtain ⟨T177, h177, k177, X177, e177, E177, A177, Ex177, st177⟩ := newPE (aty := .int) X176 hx hZ ww0 e176 (g := (mkF m 69 #[.val (.ref a1_0), .val (.ref a1_1), .val (.long q1_2), .second, .unset] [(.int 4), (.ref a1_0)])) rfl (hb hby d1_69) rfl (by decide) (cap := 4) (by decide) (by decide) (by decide) (by decide) (ad := "[I") (by decide)
  obtain ⟨b177, ga177⟩ : ∃ z, z = h168.size := ⟨_, rfl⟩
  rw [← ga177] at A177 Ex177 st177
  have g_b177 := Nat.le_trans (Nat.le_trans Z0 K168.1) (Nat.le_of_eq ga177.symm)
  have sz_b177 := Nat.le_trans K168.1 (Nat.le_of_eq ga177.symm)
  have V177 : Arv Z h177 b177 k177 .int (4 : Int32) [(.int 0), (.int 0), (.int 0), (.int 0)] (.int 0) := (Arv.new A177 (by decide)).pad (pad_rep [] (.int 0) 4)
  have K177 := K168.ext E177
  refine own_s (g' := (mkF m 71 #[.val (.ref a1_0), .val (.ref a1_1), .val (.long q1_2), .second, .unset] [(.ref b177), (.ref a1_0)])) st177 ?_
  have f178 := ((f167.wr W168).ext E177)
  have f179 := (((((F_atLeast_a1_0.ext E145).other W149 (Or.inr (own_sn_31_23 hw))).other W158 (Or.inr (own_sn_31_29 hw))).other W168 (Or.inr (own_sn_31_29 hw))).ext E177)
  obtain ⟨T180, h180, X180, e180, W180, st180⟩ := putF X177 hx hZ hown (host := "") (Or.inl ww30) Via.refl e177 f179 f178 (Or.inr ⟨ww31, rfl, hnm⟩) ww5 (ty := (.array .int)) (by decide +kernel) rfl rfl (g := (mkF m 71 #[.val (.ref a1_0), .val (.ref a1_1), .val (.long q1_2), .second, .unset] [(.ref b177), (.ref a1_0)])) rfl rfl (hb hby d1_71)
  have f181 := f179.same W180
  have K180 := K177.wr W180 (Or.inl (List.mem_of_getElem? (i := 0) rfl))
  have N180 := Fr.snoc X180 N168 g_a1_0
  refine own_s (g' := (mkF m 74 #[.val (.ref a1_0), .val (.ref a1_1), .val (.long q1_2), .second, .unset] [])) st180 ?_
  refine own_s (g' := (mkF m 75 #[.val (.ref a1_0), .val (.ref a1_1), .val (.long q1_2), .second, .unset] [(.ref a1_0)])) (fun _ kz => XS.aloadN X180.here hx rfl (hb hby d1_74) rfl rfl kz) ?_
  have f182 := ((f169.ext E177).other W180 (Or.inr (own_sn_29_31 hw)))
  obtain ⟨T183, X183, e183, st183⟩ := getF X180 hx hZ hown (host := "") (Or.inl ww28) Via.refl e180 f182 (g := (mkF m 75 #[.val (.ref a1_0), .val (.ref a1_1), .val (.long q1_2), .second, .unset] [(.ref a1_0)])) rfl rfl (hb hby d1_75)
  refine own_s (g' := (mkF m 78 #[.val (.ref a1_0), .val (.ref a1_1), .val (.long q1_2), .second, .unset] [(.int 2)])) st183 ?_
  refine own_s (g' := (mkF m 80 #[.val (.ref a1_0), .val (.ref a1_1), .val (.long q1_2), .second, .val (.int 2)] [])) (fun _ kz => XS.istore X183.here hx rfl (hb hby d1_78) rfl (l' := #[.val (.ref a1_0), .val (.ref a1_1), .val (.long q1_2), .second, .val (.int 2)]) rfl kz) ?_
  refine own_s (g' := (mkF m 82 #[.val (.ref a1_0), .val (.ref a1_1), .val (.long q1_2), .second, .val (.int 2)] [(.int 2)])) (fun _ kz => XS.iload X183.here hx rfl (hb hby d1_80) rfl kz) ?_
  refine own_s (g' := (mkF m 83 #[.val (.ref a1_0), .val (.ref a1_1), .val (.long q1_2), .second, .val (.int 2)] [(.int 1), (.int 2)])) (fun _ kz => XS.iconst X183.here hx rfl (hb hby d1_82) kz) ?_
  refine own_s (g' := (mkF m 86 #[.val (.ref a1_0), .val (.ref a1_1), .val (.long q1_2), .second, .val (.int 2)] [])) (fun _ kz => XS.icmpNo X183.here hx rfl (hb hby d1_83) rfl (flt ((by decide) : ¬ (2 : Int32) < (1 : Int32))).1 kz) ?_
  refine own_s (g' := (mkF m 87 #[.val (.ref a1_0), .val (.ref a1_1), .val (.long q1_2), .second, .val (.int 2)] [(.ref a1_0)])) (fun _ kz => XS.aloadN X183.here hx rfl (hb hby d1_86) rfl rfl kz) ?_
  obtain ⟨T184, X184, e184, st184⟩ := getF X183 hx hZ hown (host := "") (Or.inl ww30) Via.refl e183 f181 (g := (mkF m 87 #[.val (.ref a1_0), .val (.ref a1_1), .val (.long q1_2), .second, .val (.int 2)] [(.ref a1_0)])) rfl rfl (hb hby d1_87)
  refine own_s (g' := (mkF m 90 #[.val (.ref a1_0), .val (.ref a1_1), .val (.long q1_2), .second, .val (.int 2)] [(.ref b177)])) st184 ?_
  refine own_s (g' := (mkF m 92 #[.val (.ref a1_0), .val (.ref a1_1), .val (.long q1_2), .second, .val (.int 2)] [(.int 2), (.ref b177)])) (fun _ kz => XS.iload X184.here hx rfl (hb hby d1_90) rfl kz) ?_
  refine own_s (g' := (mkF m 93 #[.val (.ref a1_0), .val (.ref a1_1), .val (.long q1_2), .second, .val (.int 2)] [(.ref a1_0), (.int 2), (.ref b177)])) (fun _ kz => XS.aloadN X184.here hx rfl (hb hby d1_92) rfl rfl kz) ?_
  obtain ⟨T185, X185, e185, st185⟩ := getF X184 hx hZ hown (host := "") (Or.inl ww30) Via.refl e184 f181 (g := (mkF m 93 #[.val (.ref a1_0), .val (.ref a1_1), .val (.long q1_2), .second, .val (.int 2)] [(.ref a1_0), (.int 2), (.ref b177)])) rfl rfl (hb hby d1_93)
  refine own_s (g' := (mkF m 96 #[.val (.ref a1_0), .val (.ref a1_1), .val (.long q1_2), .second, .val (.int 2)] [(.ref b177), (.int 2), (.ref b177)])) st185 ?_
  refine own_s (g' := (mkF m 98 #[.val (.ref a1_0), .val (.ref a1_1), .val (.long q1_2), .second, .val (.int 2)] [(.int 2), (.ref b177), (.int 2), (.ref b177)])) (fun _ kz => XS.iload X185.here hx rfl (hb hby d1_96) rfl kz) ?_
  refine own_s (g' := (mkF m 99 #[.val (.ref a1_0), .val (.ref a1_1), .val (.long q1_2), .second, .val (.int 2)] [(.int 1), (.int 2), (.ref b177), (.int 2), (.ref b177)])) (fun _ kz => XS.iconst X185.here hx rfl (hb hby d1_98) kz) ?_
  refine own_s (g' := (mkF m 100 #[.val (.ref a1_0), .val (.ref a1_1), .val (.long q1_2), .second, .val (.int 2)] [(.int ((2 : Int32) + (1 : Int32))), (.ref b177), (.int 2), (.ref b177)])) (fun _ kz => XS.iadd X185.here hx rfl (hb hby d1_99) rfl kz) ?_
  rw [show ((2 : Int32) + (1 : Int32)) = (3 : Int32) from by decide]
  have ne186 : a1_0 ≠ b177 := Nat.ne_of_lt (Nat.lt_of_lt_of_le (f167.wr W168).lt (Nat.le_of_eq ga177.symm))
  have f187 := (V177.other W180 (Ne.symm ne186))
  obtain ⟨cl188, Ar188, -, S188, -, H188, -⟩ := id f187
  have in188 := inb_of S188 (j := (3 : Int32)) ⟨by decide, by decide⟩
  refine own_s (g' := (mkF m 101 #[.val (.ref a1_0), .val (.ref a1_1), .val (.long q1_2), .second, .val (.int 2)] [(.int 0), (.int 2), (.ref b177)])) (X185.iaload hx (j := (3 : Int32)) (v := (.int 0)) (by rw [e185]; exact Ar188.1) (State.isArrayOf_alike hZ.alike Ar188.2.1) Ar188.2.2 in188 (Has.at H188 in188 rfl) (g := (mkF m 100 #[.val (.ref a1_0), .val (.ref a1_1), .val (.long q1_2), .second, .val (.int 2)] [(.int 3), (.ref b177), (.int 2), (.ref b177)])) rfl rfl (hb hby d1_100)) ?_
  refine own_s (g' := (mkF m 102 #[.val (.ref a1_0), .val (.ref a1_1), .val (.long q1_2), .second, .val (.int 2)] [(.ref a1_0), (.int 0), (.int 2), (.ref b177)])) (fun _ kz => XS.aloadN X185.here hx rfl (hb hby d1_101) rfl rfl kz) ?_
  have f189 := ((f171.ext E177).other W180 (Or.inr (own_sn_23_31 hw)))
  obtain ⟨T190, X190, e190, st190⟩ := getF X185 hx hZ hown (host := "") (Or.inl ww22) Via.refl e185 f189 (g := (mkF m 102 #[.val (.ref a1_0), .val (.ref a1_1), .val (.long q1_2), .second, .val (.int 2)] [(.ref a1_0), (.int 0), (.int 2), (.ref b177)])) rfl rfl (hb hby d1_102)
  refine own_s (g' := (mkF m 105 #[.val (.ref a1_0), .val (.ref a1_1), .val (.long q1_2), .second, .val (.int 2)] [(.ref b145), (.int 0), (.int 2), (.ref b177)])) st190 ?_
  refine own_s (g' := (mkF m 107 #[.val (.ref a1_0), .val (.ref a1_1), .val (.long q1_2), .second, .val (.int 2)] [(.int 2), (.ref b145), (.int 0), (.int 2), (.ref b177)])) (fun _ kz => XS.iload X190.here hx rfl (hb hby d1_105) rfl kz) ?_
  have f191 := ((f174.ext E177).other W180 (Ne.symm ne152))
  obtain ⟨cl192, Ar192, -, S192, -, H192, -⟩ := id f191
  have in192 := inb_of S192 (j := (2 : Int32)) ⟨by decide, by decide⟩
  refine own_s (g' := (mkF m 108 #[.val (.ref a1_0), .val (.ref a1_1), .val (.long q1_2), .second, .val (.int 2)] [(.int y2), (.int 0), (.int 2), (.ref b177)])) (X190.iaload hx (j := (2 : Int32)) (v := (.int y2)) (by rw [e190]; exact Ar192.1) (State.isArrayOf_alike hZ.alike Ar192.2.1) Ar192.2.2 in192 (Has.at H192 in192 rfl) (g := (mkF m 107 #[.val (.ref a1_0), .val (.ref a1_1), .val (.long q1_2), .second, .val (.int 2)] [(.int 2), (.ref b145), (.int 0), (.int 2), (.ref b177)])) rfl rfl (hb hby d1_107)) ?_
  refine own_s (g' := (mkF m 109 #[.val (.ref a1_0), .val (.ref a1_1), .val (.long q1_2), .second, .val (.int 2)] [(.int ((0 : Int32) + y2)), (.int 2), (.ref b177)])) (fun _ kz => XS.iadd X190.here hx rfl (hb hby d1_108) rfl kz) ?_
  obtain ⟨cl193, Ar193, q193, S193, M193, H193, G193⟩ := id f187
  obtain ⟨T193, h193, X193, e193, W193, st193⟩ := stI X190 hx hZ e190 Ar193 (j := (2 : Int32)) (inb_of S193 ⟨by decide, by decide⟩) (g := (mkF m 109 #[.val (.ref a1_0), .val (.ref a1_1), .val (.long q1_2), .second, .val (.int 2)] [(.int ((0 : Int32) + y2)), (.int 2), (.ref b177)])) rfl rfl (hb hby d1_109)
  have f194 : Arv Z h193 b177 k177 .int (4 : Int32) [(.int 0), (.int 0), (.int ((0 : Int32) + y2)), (.int 0)] (.int 0) := Arv.set Ar193 q193 S193 M193 H193 G193 rfl W193 2 rfl (Nat.le_of_ble_eq_true rfl)
  have K193 := K180.wr W193 (Or.inr sz_b177)
  have N193 := Fr.snoc X193 N180 g_b177
  refine own_s (g' := (mkF m 110 #[.val (.ref a1_0), .val (.ref a1_1), .val (.long q1_2), .second, .val (.int 2)] [])) st193 ?_
  refine own_s (g' := (mkF m 113 #[.val (.ref a1_0), .val (.ref a1_1), .val (.long q1_2), .second, .val (.int ((2 : Int32) + (-1 : Int32)))] [])) (fun _ kz => XS.iinc X193.here hx rfl (hb hby d1_110) rfl (l' := #[.val (.ref a1_0), .val (.ref a1_1), .val (.long q1_2), .second, .val (.int ((2 : Int32) + (-1 : Int32)))]) rfl kz) ?_
  rw [show ((2 : Int32) + (-1 : Int32)) = (1 : Int32) from by decide]
  refine own_s (g' := (mkF m 80 #[.val (.ref a1_0), .val (.ref a1_1), .val (.long q1_2), .second, .val (.int 1)] [])) (fun _ kz => XS.goto X193.here hx rfl (pc0 := 113) (pc' := 80) rfl (hb hby d1_113) (by decide) (by decide) kz) ?_
  refine own_s (g' := (mkF m 82 #[.val (.ref a1_0), .val (.ref a1_1), .val (.long q1_2), .second, .val (.int 1)] [(.int 1)])) (fun _ kz => XS.iload X193.here hx rfl (hb hby d1_80) rfl kz) ?_
  refine own_s (g' := (mkF m 83 #[.val (.ref a1_0), .val (.ref a1_1), .val (.long q1_2), .second, .val (.int 1)] [(.int 1), (.int 1)])) (fun _ kz => XS.iconst X193.here hx rfl (hb hby d1_82) kz) ?_
  refine own_s (g' := (mkF m 86 #[.val (.ref a1_0), .val (.ref a1_1), .val (.long q1_2), .second, .val (.int 1)] [])) (fun _ kz => XS.icmpNo X193.here hx rfl (hb hby d1_83) rfl (flt ((by decide) : ¬ (1 : Int32) < (1 : Int32))).1 kz) ?_
  refine own_s (g' := (mkF m 87 #[.val (.ref a1_0), .val (.ref a1_1), .val (.long q1_2), .second, .val (.int 1)] [(.ref a1_0)])) (fun _ kz => XS.aloadN X193.here hx rfl (hb hby d1_86) rfl rfl kz) ?_
  have f195 := (f181.other W193 (Or.inl ne186))
  obtain ⟨T196, X196, e196, st196⟩ := getF X193 hx hZ hown (host := "") (Or.inl ww30) Via.refl e193 f195 (g := (mkF m 87 #[.val (.ref a1_0), .val (.ref a1_1), .val (.long q1_2), .second, .val (.int 1)] [(.ref a1_0)])) rfl rfl (hb hby d1_87)
  refine own_s (g' := (mkF m 90 #[.val (.ref a1_0), .val (.ref a1_1), .val (.long q1_2), .second, .val (.int 1)] [(.ref b177)])) st196 ?_
  refine own_s (g' := (mkF m 92 #[.val (.ref a1_0), .val (.ref a1_1), .val (.long q1_2), .second, .val (.int 1)] [(.int 1), (.ref b177)])) (fun _ kz => XS.iload X196.here hx rfl (hb hby d1_90) rfl kz) ?_
  refine own_s (g' := (mkF m 93 #[.val (.ref a1_0), .val (.ref a1_1), .val (.long q1_2), .second, .val (.int 1)] [(.ref a1_0), (.int 1), (.ref b177)])) (fun _ kz => XS.aloadN X196.here hx rfl (hb hby d1_92) rfl rfl kz) ?_
  obtain ⟨T197, X197, e197, st197⟩ := getF X196 hx hZ hown (host := "") (Or.inl ww30) Via.refl e196 f195 (g := (mkF m 93 #[.val (.ref a1_0), .val (.ref a1_1), .val (.long q1_2), .second, .val (.int 1)] [(.ref a1_0), (.int 1), (.ref b177)])) rfl rfl (hb hby d1_93)
  refine own_s (g' := (mkF m 96 #[.val (.ref a1_0), .val (.ref a1_1), .val (.long q1_2), .second, .val (.int 1)] [(.ref b177), (.int 1), (.ref b177)])) st197 ?_
  refine own_s (g' := (mkF m 98 #[.val (.ref a1_0), .val (.ref a1_1), .val (.long q1_2), .second, .val (.int 1)] [(.int 1), (.ref b177), (.int 1), (.ref b177)])) (fun _ kz => XS.iload X197.here hx rfl (hb hby d1_96) rfl kz) ?_
  refine own_s (g' := (mkF m 99 #[.val (.ref a1_0), .val (.ref a1_1), .val (.long q1_2), .second, .val (.int 1)] [(.int 1), (.int 1), (.ref b177), (.int 1), (.ref b177)])) (fun _ kz => XS.iconst X197.here hx rfl (hb hby d1_98) kz) ?_
  refine own_s (g' := (mkF m 100 #[.val (.ref a1_0), .val (.ref a1_1), .val (.long q1_2), .second, .val (.int 1)] [(.int ((1 : Int32) + (1 : Int32))), (.ref b177), (.int 1), (.ref b177)])) (fun _ kz => XS.iadd X197.here hx rfl (hb hby d1_99) rfl kz) ?_
  rw [show ((1 : Int32) + (1 : Int32)) = (2 : Int32) from by decide]
  obtain ⟨cl198, Ar198, -, S198, -, H198, -⟩ := id f194
  have in198 := inb_of S198 (j := (2 : Int32)) ⟨by decide, by decide⟩
  refine own_s (g' := (mkF m 101 #[.val (.ref a1_0), .val (.ref a1_1), .val (.long q1_2), .second, .val (.int 1)] [(.int ((0 : Int32) + y2)), (.int 1), (.ref b177)])) (X197.iaload hx (j := (2 : Int32)) (v := (.int ((0 : Int32) + y2))) (by rw [e197]; exact Ar198.1) (State.isArrayOf_alike hZ.alike Ar198.2.1) Ar198.2.2 in198 (Has.at H198 in198 rfl) (g := (mkF m 100 #[.val (.ref a1_0), .val (.ref a1_1), .val (.long q1_2), .second, .val (.int 1)] [(.int 2), (.ref b177), (.int 1), (.ref b177)])) rfl rfl (hb hby d1_100)) ?_
  refine own_s (g' := (mkF m 102 #[.val (.ref a1_0), .val (.ref a1_1), .val (.long q1_2), .second, .val (.int 1)] [(.ref a1_0), (.int ((0 : Int32) + y2)), (.int 1), (.ref b177)])) (fun _ kz => XS.aloadN X197.here hx rfl (hb hby d1_101) rfl rfl kz) ?_
  have f199 := (f189.other W193 (Or.inl ne186))
  obtain ⟨T200, X200, e200, st200⟩ := getF X197 hx hZ hown (host := "") (Or.inl ww22) Via.refl e197 f199 (g := (mkF m 102 #[.val (.ref a1_0), .val (.ref a1_1), .val (.long q1_2), .second, .val (.int 1)] [(.ref a1_0), (.int ((0 : Int32) + y2)), (.int 1), (.ref b177)])) rfl rfl (hb hby d1_102)
  refine own_s (g' := (mkF m 105 #[.val (.ref a1_0), .val (.ref a1_1), .val (.long q1_2), .second, .val (.int 1)] [(.ref b145), (.int ((0 : Int32) + y2)), (.int 1), (.ref b177)])) st200 ?_
  refine own_s (g' := (mkF m 107 #[.val (.ref a1_0), .val (.ref a1_1), .val (.long q1_2), .second, .val (.int 1)] [(.int 1), (.ref b145), (.int ((0 : Int32) + y2)), (.int 1), (.ref b177)])) (fun _ kz => XS.iload X200.here hx rfl (hb hby d1_105) rfl kz) ?_
  have ne201 : b145 ≠ b177 := Nat.ne_of_lt (Nat.lt_of_lt_of_le (((Ex145.wr W149).wr W158).wr W168).lt (Nat.le_of_eq ga177.symm))
  have f202 := (f191.other W193 ne201)
  obtain ⟨cl203, Ar203, -, S203, -, H203, -⟩ := id f202
  have in203 := inb_of S203 (j := (1 : Int32)) ⟨by decide, by decide⟩
  refine own_s (g' := (mkF m 108 #[.val (.ref a1_0), .val (.ref a1_1), .val (.long q1_2), .second, .val (.int 1)] [(.int y1), (.int ((0 : Int32) + y2)), (.int 1), (.ref b177)])) (X200.iaload hx (j := (1 : Int32)) (v := (.int y1)) (by rw [e200]; exact Ar203.1) (State.isArrayOf_alike hZ.alike Ar203.2.1) Ar203.2.2 in203 (Has.at H203 in203 rfl) (g := (mkF m 107 #[.val (.ref a1_0), .val (.ref a1_1), .val (.long q1_2), .second, .val (.int 1)] [(.int 1), (.ref b145), (.int ((0 : Int32) + y2)), (.int 1), (.ref b177)])) rfl rfl (hb hby d1_107)) ?_
  refine own_s (g' := (mkF m 109 #[.val (.ref a1_0), .val (.ref a1_1), .val (.long q1_2), .second, .val (.int 1)] [(.int (((0 : Int32) + y2) + y1)), (.int 1), (.ref b177)])) (fun _ kz => XS.iadd X200.here hx rfl (hb hby d1_108) rfl kz) ?_
  obtain ⟨cl204, Ar204, q204, S204, M204, H204, G204⟩ := id f194
  obtain ⟨T204, h204, X204, e204, W204, st204⟩ := stI X200 hx hZ e200 Ar204 (j := (1 : Int32)) (inb_of S204 ⟨by decide, by decide⟩) (g := (mkF m 109 #[.val (.ref a1_0), .val (.ref a1_1), .val (.long q1_2), .second, .val (.int 1)] [(.int (((0 : Int32) + y2) + y1)), (.int 1), (.ref b177)])) rfl rfl (hb hby d1_109)
  have f205 : Arv Z h204 b177 k177 .int (4 : Int32) [(.int 0), (.int (((0 : Int32) + y2) + y1)), (.int ((0 : Int32) + y2)), (.int 0)] (.int 0) := Arv.set Ar204 q204 S204 M204 H204 G204 rfl W204 1 rfl (Nat.le_of_ble_eq_true rfl)
  have K204 := K193.wr W204 (Or.inr sz_b177)
  have N204 := Fr.snoc X204 N193 g_b177
  refine own_s (g' := (mkF m 110 #[.val (.ref a1_0), .val (.ref a1_1), .val (.long q1_2), .second, .val (.int 1)] [])) st204 ?_
  refine own_s (g' := (mkF m 113 #[.val (.ref a1_0), .val (.ref a1_1), .val (.long q1_2), .second, .val (.int ((1 : Int32) + (-1 : Int32)))] [])) (fun _ kz => XS.iinc X204.here hx rfl (hb hby d1_110) rfl (l' := #[.val (.ref a1_0), .val (.ref a1_1), .val (.long q1_2), .second, .val (.int ((1 : Int32) + (-1 : Int32)))]) rfl kz) ?_
  rw [show ((1 : Int32) + (-1 : Int32)) = (0 : Int32) from by decide]
  refine own_s (g' := (mkF m 80 #[.val (.ref a1_0), .val (.ref a1_1), .val (.long q1_2), .second, .val (.int 0)] [])) (fun _ kz => XS.goto X204.here hx rfl (pc0 := 113) (pc' := 80) rfl (hb hby d1_113) (by decide) (by decide) kz) ?_
  refine own_s (g' := (mkF m 82 #[.val (.ref a1_0), .val (.ref a1_1), .val (.long q1_2), .second, .val (.int 0)] [(.int 0)])) (fun _ kz => XS.iload X204.here hx rfl (hb hby d1_80) rfl kz) ?_
  refine own_s (g' := (mkF m 83 #[.val (.ref a1_0), .val (.ref a1_1), .val (.long q1_2), .second, .val (.int 0)] [(.int 1), (.int 0)])) (fun _ kz => XS.iconst X204.here hx rfl (hb hby d1_82) kz) ?_
  refine own_s (g' := (mkF m 116 #[.val (.ref a1_0), .val (.ref a1_1), .val (.long q1_2), .second, .val (.int 0)] [])) (fun _ kz => XS.icmpYes X204.here hx rfl (pc0 := 83) (pc' := 116) rfl (hb hby d1_83) rfl (tlt ((by decide) : (0 : Int32) < (1 : Int32))).1 (by decide) (by decide) kz) ?_
  refine own_s (g' := (mkF m 117 #[.val (.ref a1_0), .val (.ref a1_1), .val (.long q1_2), .second, .val (.int 0)] [(.ref a1_0)])) (fun _ kz => XS.aloadN X204.here hx rfl (hb hby d1_116) rfl rfl kz) ?_
  refine own_s (g' := (mkF m 118 #[.val (.ref a1_0), .val (.ref a1_1), .val (.long q1_2), .second, .val (.int 0)] [(.long q1_2), (.ref a1_0)])) (fun _ kz => XS.lloadN X204.here hx rfl (hb hby d1_117) rfl kz) ?_
  have f206 := (((f178.wr W180).wr W193).wr W204)
  have f207 := ((((((((F_sum_a1_0.ext E145).other W149 (Or.inr (own_sn_33_23 hw))).other W158 (Or.inr (own_sn_33_29 hw))).other W168 (Or.inr (own_sn_33_29 hw))).ext E177).other W180 (Or.inr (own_sn_33_31 hw))).other W193 (Or.inl ne186)).other W204 (Or.inl ne186))
  obtain ⟨T208, h208, X208, e208, W208, st208⟩ := putF X204 hx hZ hown (host := "") (Or.inl ww32) Via.refl e204 f207 f206 (Or.inl ww33) ww5 (ty := .long) (by decide +kernel) rfl rfl (g := (mkF m 118 #[.val (.ref a1_0), .val (.ref a1_1), .val (.long q1_2), .second, .val (.int 0)] [(.long q1_2), (.ref a1_0)])) rfl rfl (hb hby d1_118)
  have f209 := f207.same W208
  have K208 := K204.wr W208 (Or.inl (List.mem_of_getElem? (i := 0) rfl))
  have N208 := Fr.snoc X208 N204 g_a1_0
  refine own_s (g' := (mkF m 121 #[.val (.ref a1_0), .val (.ref a1_1), .val (.long q1_2), .second, .val (.int 0)] [])) st208 ?_
  refine own_s (g' := (mkF m 122 #[.val (.ref a1_0), .val (.ref a1_1), .val (.long q1_2), .second, .val (.int 0)] [(.ref a1_0)])) (fun _ kz => XS.aloadN X208.here hx rfl (hb hby d1_121) rfl rfl kz) ?_
  refine own_s (g' := (mkF m 123 #[.val (.ref a1_0), .val (.ref a1_1), .val (.long q1_2), .second, .val (.int 0)] [(.ref a1_0), (.ref a1_0)])) (fun _ kz => XS.aloadN X208.here hx rfl (hb hby d1_122) rfl rfl kz) ?_
  have f210 := (((f182.other W193 (Or.inl ne186)).other W204 (Or.inl ne186)).other W208 (Or.inr (own_sn_29_33 hw)))
  obtain ⟨T211, X211, e211, st211⟩ := getF X208 hx hZ hown (host := "") (Or.inl ww28) Via.refl e208 f210 (g := (mkF m 123 #[.val (.ref a1_0), .val (.ref a1_1), .val (.long q1_2), .second, .val (.int 0)] [(.ref a1_0), (.ref a1_0)])) rfl rfl (hb hby d1_123)
  refine own_s (g' := (mkF m 126 #[.val (.ref a1_0), .val (.ref a1_1), .val (.long q1_2), .second, .val (.int 0)] [(.int 2), (.ref a1_0)])) st211 ?_
  refine own_s (g' := (mkF m 127 #[.val (.ref a1_0), .val (.ref a1_1), .val (.long q1_2), .second, .val (.int 0)] [(.int 1), (.int 2), (.ref a1_0)])) (fun _ kz => XS.iconst X211.here hx rfl (hb hby d1_126) kz) ?_
  refine own_s (g' := (mkF m 128 #[.val (.ref a1_0), .val (.ref a1_1), .val (.long q1_2), .second, .val (.int 0)] [(.int ((2 : Int32) + (1 : Int32))), (.ref a1_0)])) (fun _ kz => XS.iadd X211.here hx rfl (hb hby d1_127) rfl kz) ?_
  rw [show ((2 : Int32) + (1 : Int32)) = (3 : Int32) from by decide]
  obtain ⟨T212, h212, k212, X212, e212, E212, A212, Ex212, st212⟩ := newPE (aty := .int) X211 hx hZ ww0 e211 (g := (mkF m 128 #[.val (.ref a1_0), .val (.ref a1_1), .val (.long q1_2), .second, .val (.int 0)] [(.int 3), (.ref a1_0)])) rfl (hb hby d1_128) rfl (by decide) (cap := 3) (by decide) (by decide) (by decide) (by decide) (ad := "[I") (by decide)
  obtain ⟨b212, ga212⟩ : ∃ z, z = h208.size := ⟨_, rfl⟩
  rw [← ga212] at A212 Ex212 st212
  have g_b212 := Nat.le_trans (Nat.le_trans Z0 K208.1) (Nat.le_of_eq ga212.symm)
  have sz_b212 := Nat.le_trans K208.1 (Nat.le_of_eq ga212.symm)
  have V212 : Arv Z h212 b212 k212 .int (3 : Int32) [(.int 0), (.int 0), (.int 0)] (.int 0) := (Arv.new A212 (by decide)).pad (pad_rep [] (.int 0) 3)
  have K212 := K208.ext E212
  refine own_s (g' := (mkF m 130 #[.val (.ref a1_0), .val (.ref a1_1), .val (.long q1_2), .second, .val (.int 0)] [(.ref b212), (.ref a1_0)])) st212 ?_
  have f213 := ((f206.wr W208).ext E212)
  have f214 := ((((((((((F_partnersOf_a1_0.ext E145).other W149 (Or.inr (own_sn_35_23 hw))).other W158 (Or.inr (own_sn_35_29 hw))).other W168 (Or.inr (own_sn_35_29 hw))).ext E177).other W180 (Or.inr (own_sn_35_31 hw))).other W193 (Or.inl ne186)).other W204 (Or.inl ne186)).other W208 (Or.inr (own_sn_35_33 hw))).ext E212)
  obtain ⟨T215, h215, X215, e215, W215, st215⟩ := putF X212 hx hZ hown (host := "") (Or.inl ww34) Via.refl e212 f214 f213 (Or.inr ⟨ww35, rfl, hnm⟩) ww5 (ty := (.array .int)) (by decide +kernel) rfl rfl (g := (mkF m 130 #[.val (.ref a1_0), .val (.ref a1_1), .val (.long q1_2), .second, .val (.int 0)] [(.ref b212), (.ref a1_0)])) rfl rfl (hb hby d1_130)
  have f216 := f214.same W215
  have K215 := K212.wr W215 (Or.inl (List.mem_of_getElem? (i := 0) rfl))
  have N215 := Fr.snoc X215 N208 g_a1_0
  refine own_s (g' := (mkF m 133 #[.val (.ref a1_0), .val (.ref a1_1), .val (.long q1_2), .second, .val (.int 0)] [])) st215 ?_
  refine own_s (g' := (mkF m 134 #[.val (.ref a1_0), .val (.ref a1_1), .val (.long q1_2), .second, .val (.int 0)] [(.ref a1_0)])) (fun _ kz => XS.aloadN X215.here hx rfl (hb hby d1_133) rfl rfl kz) ?_
  refine own_s (g' := (mkF m 135 #[.val (.ref a1_0), .val (.ref a1_1), .val (.long q1_2), .second, .val (.int 0)] [(.ref a1_0), (.ref a1_0)])) (fun _ kz => XS.aloadN X215.here hx rfl (hb hby d1_134) rfl rfl kz) ?_
  have f217 := ((f210.ext E212).other W215 (Or.inr (own_sn_29_35 hw)))
  obtain ⟨T218, X218, e218, st218⟩ := getF X215 hx hZ hown (host := "") (Or.inl ww28) Via.refl e215 f217 (g := (mkF m 135 #[.val (.ref a1_0), .val (.ref a1_1), .val (.long q1_2), .second, .val (.int 0)] [(.ref a1_0), (.ref a1_0)])) rfl rfl (hb hby d1_135)
  refine own_s (g' := (mkF m 138 #[.val (.ref a1_0), .val (.ref a1_1), .val (.long q1_2), .second, .val (.int 0)] [(.int 2), (.ref a1_0)])) st218 ?_
  refine own_s (g' := (mkF m 139 #[.val (.ref a1_0), .val (.ref a1_1), .val (.long q1_2), .second, .val (.int 0)] [(.int 1), (.int 2), (.ref a1_0)])) (fun _ kz => XS.iconst X218.here hx rfl (hb hby d1_138) kz) ?_
  refine own_s (g' := (mkF m 140 #[.val (.ref a1_0), .val (.ref a1_1), .val (.long q1_2), .second, .val (.int 0)] [(.int ((2 : Int32) + (1 : Int32))), (.ref a1_0)])) (fun _ kz => XS.iadd X218.here hx rfl (hb hby d1_139) rfl kz) ?_
  rw [show ((2 : Int32) + (1 : Int32)) = (3 : Int32) from by decide]
  obtain ⟨T219, h219, k219, X219, e219, E219, A219, Ex219, st219⟩ := newPE (aty := .int) X218 hx hZ ww0 e218 (g := (mkF m 140 #[.val (.ref a1_0), .val (.ref a1_1), .val (.long q1_2), .second, .val (.int 0)] [(.int 3), (.ref a1_0)])) rfl (hb hby d1_140) rfl (by decide) (cap := 3) (by decide) (by decide) (by decide) (by decide) (ad := "[I") (by decide)
  obtain ⟨b219, ga219⟩ : ∃ z, z = h215.size := ⟨_, rfl⟩
  rw [← ga219] at A219 Ex219 st219
  have g_b219 := Nat.le_trans (Nat.le_trans Z0 K215.1) (Nat.le_of_eq ga219.symm)
  have sz_b219 := Nat.le_trans K215.1 (Nat.le_of_eq ga219.symm)
  have V219 : Arv Z h219 b219 k219 .int (3 : Int32) [(.int 0), (.int 0), (.int 0)] (.int 0) := (Arv.new A219 (by decide)).pad (pad_rep [] (.int 0) 3)
  have K219 := K215.ext E219
  refine own_s (g' := (mkF m 142 #[.val (.ref a1_0), .val (.ref a1_1), .val (.long q1_2), .second, .val (.int 0)] [(.ref b219), (.ref a1_0)])) st219 ?_
  have f220 := ((f213.wr W215).ext E219)
  have f221 := ((((((((((((F_saved_a1_0.ext E145).other W149 (Or.inr (own_sn_37_23 hw))).other W158 (Or.inr (own_sn_37_29 hw))).other W168 (Or.inr (own_sn_37_29 hw))).ext E177).other W180 (Or.inr (own_sn_37_31 hw))).other W193 (Or.inl ne186)).other W204 (Or.inl ne186)).other W208 (Or.inr (own_sn_37_33 hw))).ext E212).other W215 (Or.inr (own_sn_37_35 hw))).ext E219)
  obtain ⟨T222, h222, X222, e222, W222, st222⟩ := putF X219 hx hZ hown (host := "") (Or.inl ww36) Via.refl e219 f221 f220 (Or.inr ⟨ww37, rfl, hnm⟩) ww5 (ty := (.array .int)) (by decide +kernel) rfl rfl (g := (mkF m 142 #[.val (.ref a1_0), .val (.ref a1_1), .val (.long q1_2), .second, .val (.int 0)] [(.ref b219), (.ref a1_0)])) rfl rfl (hb hby d1_142)
  have f223 := f221.same W222
  have K222 := K219.wr W222 (Or.inl (List.mem_of_getElem? (i := 0) rfl))
  have N222 := Fr.snoc X222 N215 g_a1_0
  refine own_s (g' := (mkF m 145 #[.val (.ref a1_0), .val (.ref a1_1), .val (.long q1_2), .second, .val (.int 0)] [])) st222 ?_
  refine own_s (g' := (mkF m 146 #[.val (.ref a1_0), .val (.ref a1_1), .val (.long q1_2), .second, .val (.int 0)] [(.ref a1_0)])) (fun _ kz => XS.aloadN X222.here hx rfl (hb hby d1_145) rfl rfl kz) ?_
  refine own_s (g' := (mkF m 147 #[.val (.ref a1_0), .val (.ref a1_1), .val (.long q1_2), .second, .val (.int 0)] [(.ref a1_0), (.ref a1_0)])) (fun _ kz => XS.aloadN X222.here hx rfl (hb hby d1_146) rfl rfl kz) ?_
  have f224 := ((((((f199.other W204 (Or.inl ne186)).other W208 (Or.inr (own_sn_23_33 hw))).ext E212).other W215 (Or.inr (own_sn_23_35 hw))).ext E219).other W222 (Or.inr (own_sn_23_37 hw)))
  obtain ⟨T225, X225, e225, st225⟩ := getF X222 hx hZ hown (host := "") (Or.inl ww22) Via.refl e222 f224 (g := (mkF m 147 #[.val (.ref a1_0), .val (.ref a1_1), .val (.long q1_2), .second, .val (.int 0)] [(.ref a1_0), (.ref a1_0)])) rfl rfl (hb hby d1_147)
  refine own_s (g' := (mkF m 150 #[.val (.ref a1_0), .val (.ref a1_1), .val (.long q1_2), .second, .val (.int 0)] [(.ref b145), (.ref a1_0)])) st225 ?_
  have f226 := ((((((f202.other W204 ne201).other W208 (Ne.symm ne152)).ext E212).other W215 (Ne.symm ne152)).ext E219).other W222 (Ne.symm ne152))
  obtain ⟨cl227, Ar227, -, S227, M227, -, -⟩ := id f226
  refine own_s (g' := (mkF m 151 #[.val (.ref a1_0), .val (.ref a1_1), .val (.long q1_2), .second, .val (.int 0)] [(.int 4), (.ref a1_0)])) (fun t k => X225.arraylength hx (by rw [e225]; exact Ar227.1) (State.isArrayOf_alike hZ.alike Ar227.2.1) (g := (mkF m 150 #[.val (.ref a1_0), .val (.ref a1_1), .val (.long q1_2), .second, .val (.int 0)] [(.ref b145), (.ref a1_0)])) rfl rfl (hb hby d1_150) _ (by rw [len_of S227 M227]; exact k)) ?_
  refine own_s (g' := (mkF m 152 #[.val (.ref a1_0), .val (.ref a1_1), .val (.long q1_2), .second, .val (.int 0)] [(.ref a1_0), (.int 4), (.ref a1_0)])) (fun _ kz => XS.aloadN X225.here hx rfl (hb hby d1_151) rfl rfl kz) ?_
  have f228 := ((f217.ext E219).other W222 (Or.inr (own_sn_29_37 hw)))
  obtain ⟨T229, X229, e229, st229⟩ := getF X225 hx hZ hown (host := "") (Or.inl ww28) Via.refl e225 f228 (g := (mkF m 152 #[.val (.ref a1_0), .val (.ref a1_1), .val (.long q1_2), .second, .val (.int 0)] [(.ref a1_0), (.int 4), (.ref a1_0)])) rfl rfl (hb hby d1_152)
  refine own_s (g' := (mkF m 155 #[.val (.ref a1_0), .val (.ref a1_1), .val (.long q1_2), .second, .val (.int 0)] [(.int 2), (.int 4), (.ref a1_0)])) st229 ?_
  obtain ⟨_, _, ⟨T230, L230, k230, n230⟩, -, X230, ⟨Lc230, hQ230, l230, y230, z230⟩, st230⟩ := Jvm.LawKit.callS X229 hx (y := (⟨"gallai/service/Graphicality", "slackLength", "(II)I"⟩ : MethodName)) hown (mvT hZ ww38) (mvT hZ ww39) (mvT hZ ww40) (mvT hZ ww41) (by decide) (backOf (W := 1) (rm4 l Z a0 hw [] (4 : Int32) (2 : Int32) h222 n0 (Nat.le_trans Z0 K222.1) ) hZ ww41 ww40 (by decide) (by decide)) (g := (mkF m 155 #[.val (.ref a1_0), .val (.ref a1_1), .val (.long q1_2), .second, .val (.int 0)] [(.int 2), (.int 4), (.ref a1_0)])) rfl (by rw [hml]; rfl) (argsL := [(.int 4), (.int 2)]) (rest := [(.ref a1_0)]) (lenOf pd__II_I rfl) rfl (by show 2 * 0 + _ ≤ _; exact Nat.le_of_eq rfl) (hb hby d1_155) (fun _ _ => ⟨rfl, e229, (by decide : 4 + 0 ≤ _), (by decide : 14 + 0 ≤ _)⟩)
  dsimp only [Pt.U, Pt.locs, Pt.cells, Pt.slots] at X230 l230 y230 z230 st230 hQ230
  subst l230 y230 z230
  obtain ⟨rfl, N230q, eh230⟩ := hQ230
  have N230 := Fr.app N222 N230q
  refine own_s (g' := (mkF m 158 #[.val (.ref a1_0), .val (.ref a1_1), .val (.long q1_2), .second, .val (.int 0)] [(.int (r4 (4 : Int32) (2 : Int32))), (.ref a1_0)])) st230 ?_
  rw [show (r4 (4 : Int32) (2 : Int32)) = (3 : Int32) from by decide]
  obtain ⟨T231, h231, k231, X231, e231, E231, A231, Ex231, st231⟩ := newPE (aty := .long) X230 hx hZ ww45 eh230 (g := (mkF m 158 #[.val (.ref a1_0), .val (.ref a1_1), .val (.long q1_2), .second, .val (.int 0)] [(.int 3), (.ref a1_0)])) rfl (hb hby d1_158) rfl (by decide) (cap := 3) (by decide) (by decide) (by decide) (by decide) (ad := "[J") (by decide)
  obtain ⟨b231, ga231⟩ : ∃ z, z = h222.size := ⟨_, rfl⟩
  rw [← ga231] at A231 Ex231 st231
  have g_b231 := Nat.le_trans (Nat.le_trans Z0 K222.1) (Nat.le_of_eq ga231.symm)
  have sz_b231 := Nat.le_trans K222.1 (Nat.le_of_eq ga231.symm)
  have V231 : Arv Z h231 b231 k231 .long (3 : Int32) [(.long 0), (.long 0), (.long 0)] (.long 0) := (Arv.new A231 (by decide)).pad (pad_rep [] (.long 0) 3)
  have K231 := K222.ext E231
  refine own_s (g' := (mkF m 160 #[.val (.ref a1_0), .val (.ref a1_1), .val (.long q1_2), .second, .val (.int 0)] [(.ref b231), (.ref a1_0)])) st231 ?_
  have f232 := ((f220.wr W222).ext E231)
  have f233 := ((((((((((((((F_slack_a1_0.ext E145).other W149 (Or.inr (own_sn_47_23 hw))).other W158 (Or.inr (own_sn_47_29 hw))).other W168 (Or.inr (own_sn_47_29 hw))).ext E177).other W180 (Or.inr (own_sn_47_31 hw))).other W193 (Or.inl ne186)).other W204 (Or.inl ne186)).other W208 (Or.inr (own_sn_47_33 hw))).ext E212).other W215 (Or.inr (own_sn_47_35 hw))).ext E219).other W222 (Or.inr (own_sn_47_37 hw))).ext E231)
  obtain ⟨T234, h234, X234, e234, W234, st234⟩ := putF X231 hx hZ hown (host := "") (Or.inl ww46) Via.refl e231 f233 f232 (Or.inr ⟨ww47, rfl, hnm⟩) ww5 (ty := (.array .long)) (by decide +kernel) rfl rfl (g := (mkF m 160 #[.val (.ref a1_0), .val (.ref a1_1), .val (.long q1_2), .second, .val (.int 0)] [(.ref b231), (.ref a1_0)])) rfl rfl (hb hby d1_160)
  have f235 := f233.same W234
  have K234 := K231.wr W234 (Or.inl (List.mem_of_getElem? (i := 0) rfl))
  have N234 := Fr.snoc X234 N230 g_a1_0
  refine own_s (g' := (mkF m 163 #[.val (.ref a1_0), .val (.ref a1_1), .val (.long q1_2), .second, .val (.int 0)] [])) st234 ?_
  refine own_s (g' := (mkF m 164 #[.val (.ref a1_0), .val (.ref a1_1), .val (.long q1_2), .second, .val (.int 0)] [(.ref a1_0)])) (fun _ kz => XS.aloadN X234.here hx rfl (hb hby d1_163) rfl rfl kz) ?_
  refine own_s (g' := (mkF m 165 #[.val (.ref a1_0), .val (.ref a1_1), .val (.long q1_2), .second, .val (.int 0)] [(.ref a1_0), (.ref a1_0)])) (fun _ kz => XS.aloadN X234.here hx rfl (hb hby d1_164) rfl rfl kz) ?_
  obtain ⟨T236, X236, e236, st236⟩ := getF X234 hx hZ hown (host := "") (Or.inl ww46) Via.refl e234 f235 (g := (mkF m 165 #[.val (.ref a1_0), .val (.ref a1_1), .val (.long q1_2), .second, .val (.int 0)] [(.ref a1_0), (.ref a1_0)])) rfl rfl (hb hby d1_165)
  refine own_s (g' := (mkF m 168 #[.val (.ref a1_0), .val (.ref a1_1), .val (.long q1_2), .second, .val (.int 0)] [(.ref b231), (.ref a1_0)])) st236 ?_
  have ne237 : a1_0 ≠ b231 := Nat.ne_of_lt (Nat.lt_of_lt_of_le (f220.wr W222).lt (Nat.le_of_eq ga231.symm))
  have f238 := (V231.other W234 (Ne.symm ne237))
  obtain ⟨cl239, Ar239, -, S239, M239, -, -⟩ := id f238
  refine own_s (g' := (mkF m 169 #[.val (.ref a1_0), .val (.ref a1_1), .val (.long q1_2), .second, .val (.int 0)] [(.int 3), (.ref a1_0)])) (fun t k => X236.arraylength hx (by rw [e236]; exact Ar239.1) (State.isArrayOf_alike hZ.alike Ar239.2.1) (g := (mkF m 168 #[.val (.ref a1_0), .val (.ref a1_1), .val (.long q1_2), .second, .val (.int 0)] [(.ref b231), (.ref a1_0)])) rfl rfl (hb hby d1_168) _ (by rw [len_of S239 M239]; exact k)) ?_
  refine own_s (g' := (mkF m 170 #[.val (.ref a1_0), .val (.ref a1_1), .val (.long q1_2), .second, .val (.int 0)] [(.int 1), (.int 3), (.ref a1_0)])) (fun _ kz => XS.iconst X236.here hx rfl (hb hby d1_169) kz) ?_
  refine own_s (g' := (mkF m 171 #[.val (.ref a1_0), .val (.ref a1_1), .val (.long q1_2), .second, .val (.int 0)] [(.int ((3 : Int32) + (1 : Int32))), (.ref a1_0)])) (fun _ kz => XS.iadd X236.here hx rfl (hb hby d1_170) rfl kz) ?_
  rw [show ((3 : Int32) + (1 : Int32)) = (4 : Int32) from by decide]
  obtain ⟨T240, h240, k240, X240, e240, E240, A240, Ex240, st240⟩ := newPE (aty := .int) X236 hx hZ ww0 e236 (g := (mkF m 171 #[.val (.ref a1_0), .val (.ref a1_1), .val (.long q1_2), .second, .val (.int 0)] [(.int 4), (.ref a1_0)])) rfl (hb hby d1_171) rfl (by decide) (cap := 4) (by decide) (by decide) (by decide) (by decide) (ad := "[I") (by decide)
  obtain ⟨b240, ga240⟩ : ∃ z, z = h234.size := ⟨_, rfl⟩
  rw [← ga240] at A240 Ex240 st240
  have g_b240 := Nat.le_trans (Nat.le_trans Z0 K234.1) (Nat.le_of_eq ga240.symm)
  have sz_b240 := Nat.le_trans K234.1 (Nat.le_of_eq ga240.symm)
  have V240 : Arv Z h240 b240 k240 .int (4 : Int32) [(.int 0), (.int 0), (.int 0), (.int 0)] (.int 0) := (Arv.new A240 (by decide)).pad (pad_rep [] (.int 0) 4)
  have K240 := K234.ext E240
  refine own_s (g' := (mkF m 173 #[.val (.ref a1_0), .val (.ref a1_1), .val (.long q1_2), .second, .val (.int 0)] [(.ref b240), (.ref a1_0)])) st240 ?_
  have f241 := ((f232.wr W234).ext E240)
  have f242 := ((((((((((((((((F_nextTight_a1_0.ext E145).other W149 (Or.inr (own_sn_49_23 hw))).other W158 (Or.inr (own_sn_49_29 hw))).other W168 (Or.inr (own_sn_49_29 hw))).ext E177).other W180 (Or.inr (own_sn_49_31 hw))).other W193 (Or.inl ne186)).other W204 (Or.inl ne186)).other W208 (Or.inr (own_sn_49_33 hw))).ext E212).other W215 (Or.inr (own_sn_49_35 hw))).ext E219).other W222 (Or.inr (own_sn_49_37 hw))).ext E231).other W234 (Or.inr (own_sn_49_47 hw))).ext E240)
  obtain ⟨T243, h243, X243, e243, W243, st243⟩ := putF X240 hx hZ hown (host := "") (Or.inl ww48) Via.refl e240 f242 f241 (Or.inr ⟨ww49, rfl, hnm⟩) ww5 (ty := (.array .int)) (by decide +kernel) rfl rfl (g := (mkF m 173 #[.val (.ref a1_0), .val (.ref a1_1), .val (.long q1_2), .second, .val (.int 0)] [(.ref b240), (.ref a1_0)])) rfl rfl (hb hby d1_173)
  have f244 := f242.same W243
  have K243 := K240.wr W243 (Or.inl (List.mem_of_getElem? (i := 0) rfl))
  have N243 := Fr.snoc X243 N234 g_a1_0
  refine own_s (g' := (mkF m 176 #[.val (.ref a1_0), .val (.ref a1_1), .val (.long q1_2), .second, .val (.int 0)] [])) st243 ?_
  have f245 := (f241.wr W243)
  have f246 := ((((f226.ext E231).other W234 (Ne.symm ne152)).ext E240).other W243 (Ne.symm ne152))
  have f247 := ((((f224.ext E231).other W234 (Or.inr (own_sn_23_47 hw))).ext E240).other W243 (Or.inr (own_sn_23_49 hw)))
  have f248 := ((((f228.ext E231).other W234 (Or.inr (own_sn_29_47 hw))).ext E240).other W243 (Or.inr (own_sn_29_49 hw)))
  have f249 := ((((((((((f195.other W204 (Or.inl ne186)).other W208 (Or.inr (own_sn_31_33 hw))).ext E212).other W215 (Or.inr (own_sn_31_35 hw))).ext E219).other W222 (Or.inr (own_sn_31_37 hw))).ext E231).other W234 (Or.inr (own_sn_31_47 hw))).ext E240).other W243 (Or.inr (own_sn_31_49 hw)))
  have f250 := (((((((((f205.other W208 (Ne.symm ne186)).ext E212).other W215 (Ne.symm ne186)).ext E219).other W222 (Ne.symm ne186)).ext E231).other W234 (Ne.symm ne186)).ext E240).other W243 (Ne.symm ne186))
  have f251 := ((((((((f209.ext E212).other W215 (Or.inr (own_sn_33_35 hw))).ext E219).other W222 (Or.inr (own_sn_33_37 hw))).ext E231).other W234 (Or.inr (own_sn_33_47 hw))).ext E240).other W243 (Or.inr (own_sn_33_49 hw)))
  have ne252 : a1_0 ≠ b212 := Nat.ne_of_lt (Nat.lt_of_lt_of_le (f206.wr W208).lt (Nat.le_of_eq ga212.symm))
  have f253 := (((((((V212.other W215 (Ne.symm ne252)).ext E219).other W222 (Ne.symm ne252)).ext E231).other W234 (Ne.symm ne252)).ext E240).other W243 (Ne.symm ne252))
  have f254 := ((((((f216.ext E219).other W222 (Or.inr (own_sn_35_37 hw))).ext E231).other W234 (Or.inr (own_sn_35_47 hw))).ext E240).other W243 (Or.inr (own_sn_35_49 hw)))
  have ne255 : a1_0 ≠ b219 := Nat.ne_of_lt (Nat.lt_of_lt_of_le (f213.wr W215).lt (Nat.le_of_eq ga219.symm))
  have f256 := (((((V219.other W222 (Ne.symm ne255)).ext E231).other W234 (Ne.symm ne255)).ext E240).other W243 (Ne.symm ne255))
  have f257 := ((((f223.ext E231).other W234 (Or.inr (own_sn_37_47 hw))).ext E240).other W243 (Or.inr (own_sn_37_49 hw)))
  have f258 := ((f238.ext E240).other W243 (Ne.symm ne237))
  have f259 := ((f235.ext E240).other W243 (Or.inr (own_sn_47_49 hw)))
  have ne260 : a1_0 ≠ b240 := Nat.ne_of_lt (Nat.lt_of_lt_of_le (f232.wr W234).lt (Nat.le_of_eq ga240.symm))
  have f261 := (V240.other W243 (Ne.symm ne260))
  have ne262 : b145 ≠ b212 := Nat.ne_of_lt (Nat.lt_of_lt_of_le ((((((((Ex145.wr W149).wr W158).wr W168).ext E177).wr W180).wr W193).wr W204).wr W208).lt (Nat.le_of_eq ga212.symm))
  have ne263 : b145 ≠ b219 := Nat.ne_of_lt (Nat.lt_of_lt_of_le ((((((((((Ex145.wr W149).wr W158).wr W168).ext E177).wr W180).wr W193).wr W204).wr W208).ext E212).wr W215).lt (Nat.le_of_eq ga219.symm))
  have ne264 : b145 ≠ b231 := Nat.ne_of_lt (Nat.lt_of_lt_of_le ((((((((((((Ex145.wr W149).wr W158).wr W168).ext E177).wr W180).wr W193).wr W204).wr W208).ext E212).wr W215).ext E219).wr W222).lt (Nat.le_of_eq ga231.symm))
  have ne265 : b145 ≠ b240 := Nat.ne_of_lt (Nat.lt_of_lt_of_le ((((((((((((((Ex145.wr W149).wr W158).wr W168).ext E177).wr W180).wr W193).wr W204).wr W208).ext E212).wr W215).ext E219).wr W222).ext E231).wr W234).lt (Nat.le_of_eq ga240.symm))
  have ne266 : b177 ≠ b212 := Nat.ne_of_lt (Nat.lt_of_lt_of_le ((((Ex177.wr W180).wr W193).wr W204).wr W208).lt (Nat.le_of_eq ga212.symm))
  have ne267 : b177 ≠ b219 := Nat.ne_of_lt (Nat.lt_of_lt_of_le ((((((Ex177.wr W180).wr W193).wr W204).wr W208).ext E212).wr W215).lt (Nat.le_of_eq ga219.symm))
  have ne268 : b177 ≠ b231 := Nat.ne_of_lt (Nat.lt_of_lt_of_le ((((((((Ex177.wr W180).wr W193).wr W204).wr W208).ext E212).wr W215).ext E219).wr W222).lt (Nat.le_of_eq ga231.symm))
  have ne269 : b177 ≠ b240 := Nat.ne_of_lt (Nat.lt_of_lt_of_le ((((((((((Ex177.wr W180).wr W193).wr W204).wr W208).ext E212).wr W215).ext E219).wr W222).ext E231).wr W234).lt (Nat.le_of_eq ga240.symm))
  have ne270 : b212 ≠ b219 := Nat.ne_of_lt (Nat.lt_of_lt_of_le (Ex212.wr W215).lt (Nat.le_of_eq ga219.symm))
  have ne271 : b212 ≠ b231 := Nat.ne_of_lt (Nat.lt_of_lt_of_le (((Ex212.wr W215).ext E219).wr W222).lt (Nat.le_of_eq ga231.symm))
  have ne272 : b212 ≠ b240 := Nat.ne_of_lt (Nat.lt_of_lt_of_le (((((Ex212.wr W215).ext E219).wr W222).ext E231).wr W234).lt (Nat.le_of_eq ga240.symm))
  have ne273 : b219 ≠ b231 := Nat.ne_of_lt (Nat.lt_of_lt_of_le (Ex219.wr W222).lt (Nat.le_of_eq ga231.symm))
  have ne274 : b219 ≠ b240 := Nat.ne_of_lt (Nat.lt_of_lt_of_le (((Ex219.wr W222).ext E231).wr W234).lt (Nat.le_of_eq ga240.symm))
  have ne275 : b231 ≠ b240 := Nat.ne_of_lt (Nat.lt_of_lt_of_le (Ex231.wr W234).lt (Nat.le_of_eq ga240.symm))
  refine own_retV X243 hx hlk hret (hb hby d1_176) (by decide) (by decide) ?_
  show Q1L2 Z a1_0 a1_1 q1_2 u1_largest v1_sum ky y0 y1 y2 y3 h0 n0 _ T243.heap _
  rw [e243]
  exact ⟨b145, b177, b212, b219, b231, b240, _, _, _, _, _, _, sz_b145, sz_b177, sz_b212, sz_b219, sz_b231, sz_b240, ne201, ne262, ne263, ne264, ne265, ne266, ne267, ne268, ne269, ne270, ne271, ne272, ne273, ne274, ne275, rfl, N243, K243, f246, f250, f253, f256, f258, f261, f245, f247, f248, f249, f251, f254, f257, f259, f244⟩
theorem ef_1L3 (m : MethodId) (a1_0 : Addr) (a1_1 : Addr) (q1_2 : Int64) : entryFrame m #[(.ref a1_0), (.ref a1_1), (.long q1_2)] 5 = mkF m 0 #[.val (.ref a1_0), .val (.ref a1_1), .val (.long q1_2), .second, .unset] [] := by first | (simp [entryFrame, mkF, argsToLocals, Value.category]; done) | rfl
def Q1L3 (Z : State) (a1_0 : Addr) (a1_1 : Addr) (q1_2 : Int64) (u1_largest : Int32) (v1_sum : Int64) (ky : ClassId) (y0 : Int32) (y1 : Int32) (y2 : Int32) (y3 : Int32) (h0 : Heap) (n0 : Nat) (v : Option Value) (h : Heap) (L : List Loc) : Prop := ∃ (bf0 : Addr) (bf1 : Addr) (bf2 : Addr) (bf3 : Addr) (bf4 : Addr) (bf5 : Addr) (kf0 : ClassId) (kf1 : ClassId) (kf2 : ClassId) (kf3 : ClassId) (kf4 : ClassId) (kf5 : ClassId), h0.size ≤ bf0 ∧ h0.size ≤ bf1 ∧ h0.size ≤ bf2 ∧ h0.size ≤ bf3 ∧ h0.size ≤ bf4 ∧ h0.size ≤ bf5 ∧ bf0 ≠ bf1 ∧ bf0 ≠ bf2 ∧ bf0 ≠ bf3 ∧ bf0 ≠ bf4 ∧ bf0 ≠ bf5 ∧ bf1 ≠ bf2 ∧ bf1 ≠ bf3 ∧ bf1 ≠ bf4 ∧ bf1 ≠ bf5 ∧ bf2 ≠ bf3 ∧ bf2 ≠ bf4 ∧ bf2 ≠ bf5 ∧ bf3 ≠ bf4 ∧ bf3 ≠ bf5 ∧ bf4 ≠ bf5 ∧ v = none ∧ Fr n0 L ∧ Keep h0 h [a1_0] ∧ Arv Z h bf0 kf0 .int (4 : Int32) [(.int y0), (.int y1), (.int y2), (.int y3)] (.int (0 : Int32)) ∧ Arv Z h bf1 kf1 .int (5 : Int32) [(.int 0), (.int ((((0 : Int32) + y3) + y2) + y1)), (.int (((0 : Int32) + y3) + y2)), (.int ((0 : Int32) + y3)), (.int 0)] (.int 0) ∧ Arv Z h bf2 kf2 .int (4 : Int32) [(.int 0), (.int 0), (.int 0), (.int 0)] (.int 0) ∧ Arv Z h bf3 kf3 .int (4 : Int32) [(.int 0), (.int 0), (.int 0), (.int 0)] (.int 0) ∧ Arv Z h bf4 kf4 .long (4 : Int32) [(.long 0), (.long 0), (.long 0), (.long 0)] (.long 0) ∧ Arv Z h bf5 kf5 .int (5 : Int32) [(.int 0), (.int 0), (.int 0), (.int 0), (.int 0)] (.int 0) ∧ Exa Z h a1_0 "gallai/service/ResidualDegrees" ∧ Fld Z h a1_0 "gallai/service/ResidualDegrees" "countOf" "[I" (.ref bf0) ∧ Fld Z h a1_0 "gallai/service/ResidualDegrees" "largest" "I" (.int 3) ∧ Fld Z h a1_0 "gallai/service/ResidualDegrees" "atLeast" "[I" (.ref bf1) ∧ Fld Z h a1_0 "gallai/service/ResidualDegrees" "sum" "J" (.long q1_2) ∧ Fld Z h a1_0 "gallai/service/ResidualDegrees" "partnersOf" "[I" (.ref bf2) ∧ Fld Z h a1_0 "gallai/service/ResidualDegrees" "saved" "[I" (.ref bf3) ∧ Fld Z h a1_0 "gallai/service/ResidualDegrees" "slack" "[J" (.ref bf4) ∧ Fld Z h a1_0 "gallai/service/ResidualDegrees" "nextTight" "[I" (.ref bf5)
set_option maxRecDepth 65536 in
set_option maxHeartbeats 40000000 in
theorem rm1L3 (l : Launch) (Z : State) (a0 : Array Value) (hw : ∀ d ∈ tables_1, d.before a0 Z = true) (ws : List Jvm.Cond) (a1_0 : Addr) (a1_1 : Addr) (q1_2 : Int64) (u1_largest : Int32) (v1_sum : Int64) (ky : ClassId) (y0 : Int32) (y1 : Int32) (y2 : Int32) (y3 : Int32) (h0 : Heap) (n0 : Nat) (Z0 : n0 ≤ h0.size) (F_countOf_a1_0 : Fld Z h0 a1_0 "gallai/service/ResidualDegrees" "countOf" "[I" .null) (F_largest_a1_0 : Fld Z h0 a1_0 "gallai/service/ResidualDegrees" "largest" "I" (.int u1_largest)) (F_atLeast_a1_0 : Fld Z h0 a1_0 "gallai/service/ResidualDegrees" "atLeast" "[I" .null) (F_sum_a1_0 : Fld Z h0 a1_0 "gallai/service/ResidualDegrees" "sum" "J" (.long v1_sum)) (F_partnersOf_a1_0 : Fld Z h0 a1_0 "gallai/service/ResidualDegrees" "partnersOf" "[I" .null) (F_saved_a1_0 : Fld Z h0 a1_0 "gallai/service/ResidualDegrees" "saved" "[I" .null) (F_slack_a1_0 : Fld Z h0 a1_0 "gallai/service/ResidualDegrees" "slack" "[J" .null) (F_nextTight_a1_0 : Fld Z h0 a1_0 "gallai/service/ResidualDegrees" "nextTight" "[I" .null) (E_a1_1 : Exa Z h0 a1_1 "[I") (E_a1_0 : Exa Z h0 a1_0 "gallai/service/ResidualDegrees") (V_a1_1 : Arv Z h0 a1_1 ky .int (4 : Int32) [(.int y0), (.int y1), (.int y2), (.int y3)] (.int (0 : Int32))) (g_a1_0 : n0 ≤ a1_0) (hA0 : ¬ y3 = (0 : Int32)) :
    MetFree l (⟨"gallai/service/ResidualDegrees", "<init>", "([IJ)V"⟩ : MethodName) (head1 (Jvm.Cond.code (⟨"gallai/service/ResidualDegrees", "<init>", "([IJ)V"⟩ : MethodName) prog_45_method_1_code 5 none :: ws) ({ frames := 2, cells := 6, slots := 26, locals := 27 } : Room)) (fun a U => a = #[(.ref a1_0), (.ref a1_1), (.long q1_2)] ∧ Z.Warmed39 U.vm ∧ U.heap = h0) (fun _ _ _ _ _ => True) (fun _ U o U' => ∃ v L, o = .returned v ∧ Q1L3 Z a1_0 a1_1 q1_2 u1_largest v1_sum ky y0 y1 y2 y3 h0 n0 v U'.heap L ∧ FrameEnd U o U' L ({ frames := 2, cells := 6, slots := 26, locals := 27 } : Room).cells ({ frames := 2, cells := 6, slots := 26, locals := 27 } : Room).slots) := by
  refine MetFree.of_bodySF (plainFor_of_name pn_gallai_service_ResidualDegrees) hisR ?_
  intro p e s m args below meth c s₁ Bd hml0 hP hK
  obtain ⟨rfl, hZ, hh⟩ := hP
  have hx := Bd.exec
  have hby := Bd.bytes
  have hlk := Bd.notSynchronized
  have hret := Bd.returns
  have hml : c.maxLocals = 5 := hml0
  have hown : s.vm.findClass "gallai/service/ResidualDegrees" = some m.cls := findClass_of_methodNamed Bd.named
  have hnm := (name_of_methodNamed Bd.named Bd.method).1
  have X0 : Stand p l e ({ frames := 2, cells := 6, slots := 26, locals := 27 } : Room) s m #[(.ref a1_0), (.ref a1_1), (.long q1_2)] below meth c s₁ [] 0 0 := Stand.of_body Bd
  have e0 : s₁.heap = h0 := by rw [← hh, Bd.state]; rfl
  have N0 := Fr.nil n0
  have K0 : Keep h0 h0 [a1_0] := Keep.refl _ _
  show own_G p e below s (Q1L3 Z a1_0 a1_1 q1_2 u1_largest v1_sum ky y0 y1 y2 y3 h0 n0) ({ frames := 2, cells := 6, slots := 26, locals := 27 } : Room).cells ({ frames := 2, cells := 6, slots := 26, locals := 27 } : Room).slots s₁ (entryFrame m #[(.ref a1_0), (.ref a1_1), (.long q1_2)] 5)
  have ww0 := hw _ (List.mem_of_getElem? (i := 0) rfl)
  have ww5 := hw _ (List.mem_of_getElem? (i := 5) rfl)
  have ww10 := hw _ (List.mem_of_getElem? (i := 10) rfl)
  have ww11 := hw _ (List.mem_of_getElem? (i := 11) rfl)
  have ww12 := hw _ (List.mem_of_getElem? (i := 12) rfl)
  have ww13 := hw _ (List.mem_of_getElem? (i := 13) rfl)
  have ww14 := hw _ (List.mem_of_getElem? (i := 14) rfl)
  have ww16 := hw _ (List.mem_of_getElem? (i := 16) rfl)
  have ww17 := hw _ (List.mem_of_getElem? (i := 17) rfl)
  have ww18 := hw _ (List.mem_of_getElem? (i := 18) rfl)
  have ww19 := hw _ (List.mem_of_getElem? (i := 19) rfl)
  have ww20 := hw _ (List.mem_of_getElem? (i := 20) rfl)
  have ww22 := hw _ (List.mem_of_getElem? (i := 22) rfl)
  have ww23 := hw _ (List.mem_of_getElem? (i := 23) rfl)
  have ww24 := hw _ (List.mem_of_getElem? (i := 24) rfl)
  have ww25 := hw _ (List.mem_of_getElem? (i := 25) rfl)
  have ww26 := hw _ (List.mem_of_getElem? (i := 26) rfl)
  have ww27 := hw _ (List.mem_of_getElem? (i := 27) rfl)
  have ww28 := hw _ (List.mem_of_getElem? (i := 28) rfl)
  have ww29 := hw _ (List.mem_of_getElem? (i := 29) rfl)
  have ww30 := hw _ (List.mem_of_getElem? (i := 30) rfl)
  have ww31 := hw _ (List.mem_of_getElem? (i := 31) rfl)
  have ww32 := hw _ (List.mem_of_getElem? (i := 32) rfl)
  have ww33 := hw _ (List.mem_of_getElem? (i := 33) rfl)
  have ww34 := hw _ (List.mem_of_getElem? (i := 34) rfl)
  have ww35 := hw _ (List.mem_of_getElem? (i := 35) rfl)
  have ww36 := hw _ (List.mem_of_getElem? (i := 36) rfl)
  have ww37 := hw _ (List.mem_of_getElem? (i := 37) rfl)
  have ww38 := hw _ (List.mem_of_getElem? (i := 38) rfl)
  have ww39 := hw _ (List.mem_of_getElem? (i := 39) rfl)
  have ww40 := hw _ (List.mem_of_getElem? (i := 40) rfl)
  have ww41 := hw _ (List.mem_of_getElem? (i := 41) rfl)
  have ww45 := hw _ (List.mem_of_getElem? (i := 45) rfl)
  have ww46 := hw _ (List.mem_of_getElem? (i := 46) rfl)
  have ww47 := hw _ (List.mem_of_getElem? (i := 47) rfl)
  have ww48 := hw _ (List.mem_of_getElem? (i := 48) rfl)
  have ww49 := hw _ (List.mem_of_getElem? (i := 49) rfl)
  refine own_cast (ef_1L3 m a1_0 a1_1 q1_2) ?_
  refine own_s (g' := (mkF m 1 #[.val (.ref a1_0), .val (.ref a1_1), .val (.long q1_2), .second, .unset] [(.ref a1_0)])) (fun _ kz => XS.aloadN X0.here hx rfl (hb hby d1_0) rfl rfl kz) ?_
  obtain ⟨T276, X276, e276, st276⟩ := initO X0 hx hZ hown ww10 ww11 ww12 e0 (g := (mkF m 1 #[.val (.ref a1_0), .val (.ref a1_1), .val (.long q1_2), .second, .unset] [(.ref a1_0)])) rfl (by rw [hml]; rfl) rfl (hb hby d1_1) (by decide) (W := 0) (by show 2 * 0 + _ ≤ _; exact Nat.le_of_eq rfl) (by decide)
  refine own_s (g' := (mkF m 4 #[.val (.ref a1_0), .val (.ref a1_1), .val (.long q1_2), .second, .unset] [])) st276 ?_
  refine own_s (g' := (mkF m 5 #[.val (.ref a1_0), .val (.ref a1_1), .val (.long q1_2), .second, .unset] [(.ref a1_0)])) (fun _ kz => XS.aloadN X276.here hx rfl (hb hby d1_4) rfl rfl kz) ?_
  refine own_s (g' := (mkF m 6 #[.val (.ref a1_0), .val (.ref a1_1), .val (.long q1_2), .second, .unset] [(.ref a1_1), (.ref a1_0)])) (fun _ kz => XS.aloadN X276.here hx rfl (hb hby d1_5) rfl rfl kz) ?_
  obtain ⟨T277, h277, X277, e277, E277, A277, Ex277, st277⟩ := cloneH X276 hx hZ hown ww13 ww14 ww18 ww16 ww17 ww19 e276 (Arv.arh V_a1_1) E_a1_1 (g := (mkF m 6 #[.val (.ref a1_0), .val (.ref a1_1), .val (.long q1_2), .second, .unset] [(.ref a1_1), (.ref a1_0)])) rfl (by rw [hml]; rfl) rfl (hb hby d1_6) (by decide) (W := 1) (cap := 4) (by show 2 * 0 + _ ≤ _; exact Nat.le_of_eq rfl) (by decide) (by decide) (by decide) (by decide)
  obtain ⟨b277, ga277⟩ : ∃ z, z = h0.size := ⟨_, rfl⟩
  rw [← ga277] at A277 Ex277 st277
  have g_b277 := Nat.le_trans Z0 (Nat.le_of_eq ga277.symm)
  have sz_b277 := Nat.le_trans K0.1 (Nat.le_of_eq ga277.symm)
  have V277 : Arv Z h277 b277 ky .int (4 : Int32) [(.int y0), (.int y1), (.int y2), (.int y3)] (.int (0 : Int32)) := A277
  have K277 := K0.ext E277
  refine own_s (g' := (mkF m 9 #[.val (.ref a1_0), .val (.ref a1_1), .val (.long q1_2), .second, .unset] [(.ref b277), (.ref a1_0)])) st277 ?_
  obtain ⟨T278, X278, e278, st278⟩ := castY X277 hx hZ hown ww20 e277 (Ins.self Ex277) (g := (mkF m 9 #[.val (.ref a1_0), .val (.ref a1_1), .val (.long q1_2), .second, .unset] [(.ref b277), (.ref a1_0)])) rfl rfl (hb hby d1_9)
  refine own_s (g' := (mkF m 12 #[.val (.ref a1_0), .val (.ref a1_1), .val (.long q1_2), .second, .unset] [(.ref b277), (.ref a1_0)])) st278 ?_
  have f279 := (E_a1_0.ext E277)
  have f280 := (F_countOf_a1_0.ext E277)
  obtain ⟨T281, h281, X281, e281, W281, st281⟩ := putF X278 hx hZ hown (host := "") (Or.inl ww22) Via.refl e278 f280 f279 (Or.inr ⟨ww23, rfl, hnm⟩) ww5 (ty := (.array .int)) (by decide +kernel) rfl rfl (g := (mkF m 12 #[.val (.ref a1_0), .val (.ref a1_1), .val (.long q1_2), .second, .unset] [(.ref b277), (.ref a1_0)])) rfl rfl (hb hby d1_12)
  have f282 := f280.same W281
  have K281 := K277.wr W281 (Or.inl (List.mem_of_getElem? (i := 0) rfl))
  have N281 := Fr.snoc X281 N0 g_a1_0
  refine own_s (g' := (mkF m 15 #[.val (.ref a1_0), .val (.ref a1_1), .val (.long q1_2), .second, .unset] [])) st281 ?_
  refine own_s (g' := (mkF m 16 #[.val (.ref a1_0), .val (.ref a1_1), .val (.long q1_2), .second, .unset] [(.ref a1_0)])) (fun _ kz => XS.aloadN X281.here hx rfl (hb hby d1_15) rfl rfl kz) ?_
  refine own_s (g' := (mkF m 17 #[.val (.ref a1_0), .val (.ref a1_1), .val (.long q1_2), .second, .unset] [(.ref a1_0), (.ref a1_0)])) (fun _ kz => XS.aloadN X281.here hx rfl (hb hby d1_16) rfl rfl kz) ?_
  obtain ⟨T283, X283, e283, st283⟩ := getF X281 hx hZ hown (host := "") (Or.inl ww22) Via.refl e281 f282 (g := (mkF m 17 #[.val (.ref a1_0), .val (.ref a1_1), .val (.long q1_2), .second, .unset] [(.ref a1_0), (.ref a1_0)])) rfl rfl (hb hby d1_17)
  refine own_s (g' := (mkF m 20 #[.val (.ref a1_0), .val (.ref a1_1), .val (.long q1_2), .second, .unset] [(.ref b277), (.ref a1_0)])) st283 ?_
  have ne284 : a1_0 ≠ b277 := Nat.ne_of_lt (Nat.lt_of_lt_of_le E_a1_0.lt (Nat.le_of_eq ga277.symm))
  have f285 := (V277.other W281 (Ne.symm ne284))
  obtain ⟨cl286, Ar286, -, S286, M286, -, -⟩ := id f285
  refine own_s (g' := (mkF m 21 #[.val (.ref a1_0), .val (.ref a1_1), .val (.long q1_2), .second, .unset] [(.int 4), (.ref a1_0)])) (fun t k => X283.arraylength hx (by rw [e283]; exact Ar286.1) (State.isArrayOf_alike hZ.alike Ar286.2.1) (g := (mkF m 20 #[.val (.ref a1_0), .val (.ref a1_1), .val (.long q1_2), .second, .unset] [(.ref b277), (.ref a1_0)])) rfl rfl (hb hby d1_20) _ (by rw [len_of S286 M286]; exact k)) ?_
  refine own_s (g' := (mkF m 22 #[.val (.ref a1_0), .val (.ref a1_1), .val (.long q1_2), .second, .unset] [(.int 1), (.int 4), (.ref a1_0)])) (fun _ kz => XS.iconst X283.here hx rfl (hb hby d1_21) kz) ?_
  refine own_s (g' := (mkF m 23 #[.val (.ref a1_0), .val (.ref a1_1), .val (.long q1_2), .second, .unset] [(.int ((4 : Int32) - (1 : Int32))), (.ref a1_0)])) (fun _ kz => XS.isub X283.here hx rfl (hb hby d1_22) rfl kz) ?_
  rw [show ((4 : Int32) - (1 : Int32)) = (3 : Int32) from by decide]
  refine own_s (g' := (mkF m 24 #[.val (.ref a1_0), .val (.ref a1_1), .val (.long q1_2), .second, .unset] [(.int 0), (.int 3), (.ref a1_0)])) (fun _ kz => XS.iconst X283.here hx rfl (hb hby d1_23) kz) ?_
  obtain ⟨_, _, ⟨T287, L287, k287, n287⟩, -, X287, ⟨Lc287, hQ287, l287, y287, z287⟩, st287⟩ := Jvm.LawKit.callS X283 hx (y := (⟨"java/lang/Math", "max", "(II)I"⟩ : MethodName)) hown (mvT hZ ww24) (mvT hZ ww25) (mvT hZ ww26) (mvT hZ ww27) (by decide) (backOf (W := 1) (rm3 l Z a0 hw [] (3 : Int32) (0 : Int32) h281 n0 (Nat.le_trans Z0 K281.1) ) hZ ww27 ww26 (by decide) (by decide)) (g := (mkF m 24 #[.val (.ref a1_0), .val (.ref a1_1), .val (.long q1_2), .second, .unset] [(.int 0), (.int 3), (.ref a1_0)])) rfl (by rw [hml]; rfl) (argsL := [(.int 3), (.int 0)]) (rest := [(.ref a1_0)]) (lenOf pd__II_I rfl) rfl (by show 2 * 0 + _ ≤ _; exact Nat.le_of_eq rfl) (hb hby d1_24) (fun _ _ => ⟨rfl, e283, (by decide : 1 + 0 ≤ _), (by decide : 4 + 0 ≤ _)⟩)
  dsimp only [Pt.U, Pt.locs, Pt.cells, Pt.slots] at X287 l287 y287 z287 st287 hQ287
  subst l287 y287 z287
  obtain ⟨rfl, N287q, eh287⟩ := hQ287
  have N287 := Fr.app N281 N287q
  refine own_s (g' := (mkF m 27 #[.val (.ref a1_0), .val (.ref a1_1), .val (.long q1_2), .second, .unset] [(.int (r3 (3 : Int32) (0 : Int32))), (.ref a1_0)])) st287 ?_
  rw [show (r3 (3 : Int32) (0 : Int32)) = (3 : Int32) from (if_neg ((by decide) : ¬ (3 : Int32) < (0 : Int32)))]
  have f288 := (f279.wr W281)
  have f289 := ((F_largest_a1_0.ext E277).other W281 (Or.inr (own_sn_29_23 hw)))
  obtain ⟨T290, h290, X290, e290, W290, st290⟩ := putF X287 hx hZ hown (host := "") (Or.inl ww28) Via.refl eh287 f289 f288 (Or.inl ww29) ww5 (ty := .int) (by decide +kernel) rfl rfl (g := (mkF m 27 #[.val (.ref a1_0), .val (.ref a1_1), .val (.long q1_2), .second, .unset] [(.int 3), (.ref a1_0)])) rfl rfl (hb hby d1_27)
  have f291 := f289.same W290
  have K290 := K281.wr W290 (Or.inl (List.mem_of_getElem? (i := 0) rfl))
  have N290 := Fr.snoc X290 N287 g_a1_0
  refine own_s (g' := (mkF m 30 #[.val (.ref a1_0), .val (.ref a1_1), .val (.long q1_2), .second, .unset] [])) st290 ?_
  refine own_s (g' := (mkF m 31 #[.val (.ref a1_0), .val (.ref a1_1), .val (.long q1_2), .second, .unset] [(.ref a1_0)])) (fun _ kz => XS.aloadN X290.here hx rfl (hb hby d1_30) rfl rfl kz) ?_
  obtain ⟨T292, X292, e292, st292⟩ := getF X290 hx hZ hown (host := "") (Or.inl ww28) Via.refl e290 f291 (g := (mkF m 31 #[.val (.ref a1_0), .val (.ref a1_1), .val (.long q1_2), .second, .unset] [(.ref a1_0)])) rfl rfl (hb hby d1_31)
  refine own_s (g' := (mkF m 34 #[.val (.ref a1_0), .val (.ref a1_1), .val (.long q1_2), .second, .unset] [(.int 3)])) st292 ?_
  refine own_s (g' := (mkF m 37 #[.val (.ref a1_0), .val (.ref a1_1), .val (.long q1_2), .second, .unset] [])) (fun _ kz => XS.ifNo X292.here hx rfl (hb hby d1_34) rfl ((if0 _ _).trans (tlt ((by decide) : (0 : Int32) < (3 : Int32))).2.2.2) kz) ?_
  refine own_s (g' := (mkF m 38 #[.val (.ref a1_0), .val (.ref a1_1), .val (.long q1_2), .second, .unset] [(.ref a1_0)])) (fun _ kz => XS.aloadN X292.here hx rfl (hb hby d1_37) rfl rfl kz) ?_
  have f293 := (f282.other W290 (Or.inr (own_sn_23_29 hw)))
  obtain ⟨T294, X294, e294, st294⟩ := getF X292 hx hZ hown (host := "") (Or.inl ww22) Via.refl e292 f293 (g := (mkF m 38 #[.val (.ref a1_0), .val (.ref a1_1), .val (.long q1_2), .second, .unset] [(.ref a1_0)])) rfl rfl (hb hby d1_38)
  refine own_s (g' := (mkF m 41 #[.val (.ref a1_0), .val (.ref a1_1), .val (.long q1_2), .second, .unset] [(.ref b277)])) st294 ?_
  refine own_s (g' := (mkF m 42 #[.val (.ref a1_0), .val (.ref a1_1), .val (.long q1_2), .second, .unset] [(.ref a1_0), (.ref b277)])) (fun _ kz => XS.aloadN X294.here hx rfl (hb hby d1_41) rfl rfl kz) ?_
  obtain ⟨T295, X295, e295, st295⟩ := getF X294 hx hZ hown (host := "") (Or.inl ww28) Via.refl e294 f291 (g := (mkF m 42 #[.val (.ref a1_0), .val (.ref a1_1), .val (.long q1_2), .second, .unset] [(.ref a1_0), (.ref b277)])) rfl rfl (hb hby d1_42)
  refine own_s (g' := (mkF m 45 #[.val (.ref a1_0), .val (.ref a1_1), .val (.long q1_2), .second, .unset] [(.int 3), (.ref b277)])) st295 ?_
  have f296 := (f285.other W290 (Ne.symm ne284))
  obtain ⟨cl297, Ar297, -, S297, -, H297, -⟩ := id f296
  have in297 := inb_of S297 (j := (3 : Int32)) ⟨by decide, by decide⟩
  refine own_s (g' := (mkF m 46 #[.val (.ref a1_0), .val (.ref a1_1), .val (.long q1_2), .second, .unset] [(.int y3)])) (X295.iaload hx (j := (3 : Int32)) (v := (.int y3)) (by rw [e295]; exact Ar297.1) (State.isArrayOf_alike hZ.alike Ar297.2.1) Ar297.2.2 in297 (Has.at H297 in297 rfl) (g := (mkF m 45 #[.val (.ref a1_0), .val (.ref a1_1), .val (.long q1_2), .second, .unset] [(.int 3), (.ref b277)])) rfl rfl (hb hby d1_45)) ?_
  refine own_s (g' := (mkF m 62 #[.val (.ref a1_0), .val (.ref a1_1), .val (.long q1_2), .second, .unset] [])) (fun _ kz => XS.ifYes X295.here hx rfl (pc0 := 46) (pc' := 62) rfl (hb hby d1_46) rfl ((if0 _ _).trans (feq hA0).2) (by decide) (by decide) kz) ?_
  refine own_s (g' := (mkF m 63 #[.val (.ref a1_0), .val (.ref a1_1), .val (.long q1_2), .second, .unset] [(.ref a1_0)])) (fun _ kz => XS.aloadN X295.here hx rfl (hb hby d1_62) rfl rfl kz) ?_
  refine own_s (g' := (mkF m 64 #[.val (.ref a1_0), .val (.ref a1_1), .val (.long q1_2), .second, .unset] [(.ref a1_0), (.ref a1_0)])) (fun _ kz => XS.aloadN X295.here hx rfl (hb hby d1_63) rfl rfl kz) ?_
  obtain ⟨T298, X298, e298, st298⟩ := getF X295 hx hZ hown (host := "") (Or.inl ww28) Via.refl e295 f291 (g := (mkF m 64 #[.val (.ref a1_0), .val (.ref a1_1), .val (.long q1_2), .second, .unset] [(.ref a1_0), (.ref a1_0)])) rfl rfl (hb hby d1_64)
  refine own_s (g' := (mkF m 67 #[.val (.ref a1_0), .val (.ref a1_1), .val (.long q1_2), .second, .unset] [(.int 3), (.ref a1_0)])) st298 ?_
  refine own_s (g' := (mkF m 68 #[.val (.ref a1_0), .val (.ref a1_1), .val (.long q1_2), .second, .unset] [(.int 2), (.int 3), (.ref a1_0)])) (fun _ kz => XS.iconst X298.here hx rfl (hb hby d1_67) kz) ?_
  refine own_s (g' := (mkF m 69 #[.val (.ref a1_0), .val (.ref a1_1), .val (.long q1_2), .second, .unset] [(.int ((3 : Int32) + (2 : Int32))), (.ref a1_0)])) (fun _ kz => XS.iadd X298.here hx rfl (hb hby d1_68) rfl kz) ?_
  rw [show ((3 : Int32) + (2 : Int32)) = (5 : Int32) from by decide]
  obtain ⟨T299, h299, k299, X299, e299, E299, A299, Ex299, st299⟩ := newPE (aty := .int) X298 hx hZ ww0 e298 (g := (mkF m 69 #[.val (.ref a1_0), .val (.ref a1_1), .val (.long q1_2), .second, .unset] [(.int 5), (.ref a1_0)])) rfl (hb hby d1_69) rfl (by decide) (cap := 5) (by decide) (by decide) (by decide) (by decide) (ad := "[I") (by decide)
  obtain ⟨b299, ga299⟩ : ∃ z, z = h290.size := ⟨_, rfl⟩
  rw [← ga299] at A299 Ex299 st299
  have g_b299 := Nat.le_trans (Nat.le_trans Z0 K290.1) (Nat.le_of_eq ga299.symm)
  have sz_b299 := Nat.le_trans K290.1 (Nat.le_of_eq ga299.symm)
  have V299 : Arv Z h299 b299 k299 .int (5 : Int32) [(.int 0), (.int 0), (.int 0), (.int 0), (.int 0)] (.int 0) := (Arv.new A299 (by decide)).pad (pad_rep [] (.int 0) 5)
  have K299 := K290.ext E299
  refine own_s (g' := (mkF m 71 #[.val (.ref a1_0), .val (.ref a1_1), .val (.long q1_2), .second, .unset] [(.ref b299), (.ref a1_0)])) st299 ?_
  have f300 := ((f288.wr W290).ext E299)
  have f301 := ((((F_atLeast_a1_0.ext E277).other W281 (Or.inr (own_sn_31_23 hw))).other W290 (Or.inr (own_sn_31_29 hw))).ext E299)
  obtain ⟨T302, h302, X302, e302, W302, st302⟩ := putF X299 hx hZ hown (host := "") (Or.inl ww30) Via.refl e299 f301 f300 (Or.inr ⟨ww31, rfl, hnm⟩) ww5 (ty := (.array .int)) (by decide +kernel) rfl rfl (g := (mkF m 71 #[.val (.ref a1_0), .val (.ref a1_1), .val (.long q1_2), .second, .unset] [(.ref b299), (.ref a1_0)])) rfl rfl (hb hby d1_71)
  have f303 := f301.same W302
  have K302 := K299.wr W302 (Or.inl (List.mem_of_getElem? (i := 0) rfl))
  have N302 := Fr.snoc X302 N290 g_a1_0
  refine own_s (g' := (mkF m 74 #[.val (.ref a1_0), .val (.ref a1_1), .val (.long q1_2), .second, .unset] [])) st302 ?_
  refine own_s (g' := (mkF m 75 #[.val (.ref a1_0), .val (.ref a1_1), .val (.long q1_2), .second, .unset] [(.ref a1_0)])) (fun _ kz => XS.aloadN X302.here hx rfl (hb hby d1_74) rfl rfl kz) ?_
  have f304 := ((f291.ext E299).other W302 (Or.inr (own_sn_29_31 hw)))
  obtain ⟨T305, X305, e305, st305⟩ := getF X302 hx hZ hown (host := "") (Or.inl ww28) Via.refl e302 f304 (g := (mkF m 75 #[.val (.ref a1_0), .val (.ref a1_1), .val (.long q1_2), .second, .unset] [(.ref a1_0)])) rfl rfl (hb hby d1_75)
  refine own_s (g' := (mkF m 78 #[.val (.ref a1_0), .val (.ref a1_1), .val (.long q1_2), .second, .unset] [(.int 3)])) st305 ?_
  refine own_s (g' := (mkF m 80 #[.val (.ref a1_0), .val (.ref a1_1), .val (.long q1_2), .second, .val (.int 3)] [])) (fun _ kz => XS.istore X305.here hx rfl (hb hby d1_78) rfl (l' := #[.val (.ref a1_0), .val (.ref a1_1), .val (.long q1_2), .second, .val (.int 3)]) rfl kz) ?_
  refine own_s (g' := (mkF m 82 #[.val (.ref a1_0), .val (.ref a1_1), .val (.long q1_2), .second, .val (.int 3)] [(.int 3)])) (fun _ kz => XS.iload X305.here hx rfl (hb hby d1_80) rfl kz) ?_
  refine own_s (g' := (mkF m 83 #[.val (.ref a1_0), .val (.ref a1_1), .val (.long q1_2), .second, .val (.int 3)] [(.int 1), (.int 3)])) (fun _ kz => XS.iconst X305.here hx rfl (hb hby d1_82) kz) ?_
  refine own_s (g' := (mkF m 86 #[.val (.ref a1_0), .val (.ref a1_1), .val (.long q1_2), .second, .val (.int 3)] [])) (fun _ kz => XS.icmpNo X305.here hx rfl (hb hby d1_83) rfl (flt ((by decide) : ¬ (3 : Int32) < (1 : Int32))).1 kz) ?_
  refine own_s (g' := (mkF m 87 #[.val (.ref a1_0), .val (.ref a1_1), .val (.long q1_2), .second, .val (.int 3)] [(.ref a1_0)])) (fun _ kz => XS.aloadN X305.here hx rfl (hb hby d1_86) rfl rfl kz) ?_
  obtain ⟨T306, X306, e306, st306⟩ := getF X305 hx hZ hown (host := "") (Or.inl ww30) Via.refl e305 f303 (g := (mkF m 87 #[.val (.ref a1_0), .val (.ref a1_1), .val (.long q1_2), .second, .val (.int 3)] [(.ref a1_0)])) rfl rfl (hb hby d1_87)
  refine own_s (g' := (mkF m 90 #[.val (.ref a1_0), .val (.ref a1_1), .val (.long q1_2), .second, .val (.int 3)] [(.ref b299)])) st306 ?_
  refine own_s (g' := (mkF m 92 #[.val (.ref a1_0), .val (.ref a1_1), .val (.long q1_2), .second, .val (.int 3)] [(.int 3), (.ref b299)])) (fun _ kz => XS.iload X306.here hx rfl (hb hby d1_90) rfl kz) ?_
  refine own_s (g' := (mkF m 93 #[.val (.ref a1_0), .val (.ref a1_1), .val (.long q1_2), .second, .val (.int 3)] [(.ref a1_0), (.int 3), (.ref b299)])) (fun _ kz => XS.aloadN X306.here hx rfl (hb hby d1_92) rfl rfl kz) ?_
  obtain ⟨T307, X307, e307, st307⟩ := getF X306 hx hZ hown (host := "") (Or.inl ww30) Via.refl e306 f303 (g := (mkF m 93 #[.val (.ref a1_0), .val (.ref a1_1), .val (.long q1_2), .second, .val (.int 3)] [(.ref a1_0), (.int 3), (.ref b299)])) rfl rfl (hb hby d1_93)
  refine own_s (g' := (mkF m 96 #[.val (.ref a1_0), .val (.ref a1_1), .val (.long q1_2), .second, .val (.int 3)] [(.ref b299), (.int 3), (.ref b299)])) st307 ?_
  refine own_s (g' := (mkF m 98 #[.val (.ref a1_0), .val (.ref a1_1), .val (.long q1_2), .second, .val (.int 3)] [(.int 3), (.ref b299), (.int 3), (.ref b299)])) (fun _ kz => XS.iload X307.here hx rfl (hb hby d1_96) rfl kz) ?_
  refine own_s (g' := (mkF m 99 #[.val (.ref a1_0), .val (.ref a1_1), .val (.long q1_2), .second, .val (.int 3)] [(.int 1), (.int 3), (.ref b299), (.int 3), (.ref b299)])) (fun _ kz => XS.iconst X307.here hx rfl (hb hby d1_98) kz) ?_
  refine own_s (g' := (mkF m 100 #[.val (.ref a1_0), .val (.ref a1_1), .val (.long q1_2), .second, .val (.int 3)] [(.int ((3 : Int32) + (1 : Int32))), (.ref b299), (.int 3), (.ref b299)])) (fun _ kz => XS.iadd X307.here hx rfl (hb hby d1_99) rfl kz) ?_
  rw [show ((3 : Int32) + (1 : Int32)) = (4 : Int32) from by decide]
  have ne308 : a1_0 ≠ b299 := Nat.ne_of_lt (Nat.lt_of_lt_of_le (f288.wr W290).lt (Nat.le_of_eq ga299.symm))
  have f309 := (V299.other W302 (Ne.symm ne308))
  obtain ⟨cl310, Ar310, -, S310, -, H310, -⟩ := id f309
  have in310 := inb_of S310 (j := (4 : Int32)) ⟨by decide, by decide⟩
  refine own_s (g' := (mkF m 101 #[.val (.ref a1_0), .val (.ref a1_1), .val (.long q1_2), .second, .val (.int 3)] [(.int 0), (.int 3), (.ref b299)])) (X307.iaload hx (j := (4 : Int32)) (v := (.int 0)) (by rw [e307]; exact Ar310.1) (State.isArrayOf_alike hZ.alike Ar310.2.1) Ar310.2.2 in310 (Has.at H310 in310 rfl) (g := (mkF m 100 #[.val (.ref a1_0), .val (.ref a1_1), .val (.long q1_2), .second, .val (.int 3)] [(.int 4), (.ref b299), (.int 3), (.ref b299)])) rfl rfl (hb hby d1_100)) ?_
  refine own_s (g' := (mkF m 102 #[.val (.ref a1_0), .val (.ref a1_1), .val (.long q1_2), .second, .val (.int 3)] [(.ref a1_0), (.int 0), (.int 3), (.ref b299)])) (fun _ kz => XS.aloadN X307.here hx rfl (hb hby d1_101) rfl rfl kz) ?_
  have f311 := ((f293.ext E299).other W302 (Or.inr (own_sn_23_31 hw)))
  obtain ⟨T312, X312, e312, st312⟩ := getF X307 hx hZ hown (host := "") (Or.inl ww22) Via.refl e307 f311 (g := (mkF m 102 #[.val (.ref a1_0), .val (.ref a1_1), .val (.long q1_2), .second, .val (.int 3)] [(.ref a1_0), (.int 0), (.int 3), (.ref b299)])) rfl rfl (hb hby d1_102)
  refine own_s (g' := (mkF m 105 #[.val (.ref a1_0), .val (.ref a1_1), .val (.long q1_2), .second, .val (.int 3)] [(.ref b277), (.int 0), (.int 3), (.ref b299)])) st312 ?_
  refine own_s (g' := (mkF m 107 #[.val (.ref a1_0), .val (.ref a1_1), .val (.long q1_2), .second, .val (.int 3)] [(.int 3), (.ref b277), (.int 0), (.int 3), (.ref b299)])) (fun _ kz => XS.iload X312.here hx rfl (hb hby d1_105) rfl kz) ?_
  have f313 := ((f296.ext E299).other W302 (Ne.symm ne284))
  obtain ⟨cl314, Ar314, -, S314, -, H314, -⟩ := id f313
  have in314 := inb_of S314 (j := (3 : Int32)) ⟨by decide, by decide⟩
  refine own_s (g' := (mkF m 108 #[.val (.ref a1_0), .val (.ref a1_1), .val (.long q1_2), .second, .val (.int 3)] [(.int y3), (.int 0), (.int 3), (.ref b299)])) (X312.iaload hx (j := (3 : Int32)) (v := (.int y3)) (by rw [e312]; exact Ar314.1) (State.isArrayOf_alike hZ.alike Ar314.2.1) Ar314.2.2 in314 (Has.at H314 in314 rfl) (g := (mkF m 107 #[.val (.ref a1_0), .val (.ref a1_1), .val (.long q1_2), .second, .val (.int 3)] [(.int 3), (.ref b277), (.int 0), (.int 3), (.ref b299)])) rfl rfl (hb hby d1_107)) ?_
  refine own_s (g' := (mkF m 109 #[.val (.ref a1_0), .val (.ref a1_1), .val (.long q1_2), .second, .val (.int 3)] [(.int ((0 : Int32) + y3)), (.int 3), (.ref b299)])) (fun _ kz => XS.iadd X312.here hx rfl (hb hby d1_108) rfl kz) ?_
  obtain ⟨cl315, Ar315, q315, S315, M315, H315, G315⟩ := id f309
  obtain ⟨T315, h315, X315, e315, W315, st315⟩ := stI X312 hx hZ e312 Ar315 (j := (3 : Int32)) (inb_of S315 ⟨by decide, by decide⟩) (g := (mkF m 109 #[.val (.ref a1_0), .val (.ref a1_1), .val (.long q1_2), .second, .val (.int 3)] [(.int ((0 : Int32) + y3)), (.int 3), (.ref b299)])) rfl rfl (hb hby d1_109)
  have f316 : Arv Z h315 b299 k299 .int (5 : Int32) [(.int 0), (.int 0), (.int 0), (.int ((0 : Int32) + y3)), (.int 0)] (.int 0) := Arv.set Ar315 q315 S315 M315 H315 G315 rfl W315 3 rfl (Nat.le_of_ble_eq_true rfl)
  have K315 := K302.wr W315 (Or.inr sz_b299)
  have N315 := Fr.snoc X315 N302 g_b299
  refine own_s (g' := (mkF m 110 #[.val (.ref a1_0), .val (.ref a1_1), .val (.long q1_2), .second, .val (.int 3)] [])) st315 ?_
  refine own_s (g' := (mkF m 113 #[.val (.ref a1_0), .val (.ref a1_1), .val (.long q1_2), .second, .val (.int ((3 : Int32) + (-1 : Int32)))] [])) (fun _ kz => XS.iinc X315.here hx rfl (hb hby d1_110) rfl (l' := #[.val (.ref a1_0), .val (.ref a1_1), .val (.long q1_2), .second, .val (.int ((3 : Int32) + (-1 : Int32)))]) rfl kz) ?_
  rw [show ((3 : Int32) + (-1 : Int32)) = (2 : Int32) from by decide]
  refine own_s (g' := (mkF m 80 #[.val (.ref a1_0), .val (.ref a1_1), .val (.long q1_2), .second, .val (.int 2)] [])) (fun _ kz => XS.goto X315.here hx rfl (pc0 := 113) (pc' := 80) rfl (hb hby d1_113) (by decide) (by decide) kz) ?_
  refine own_s (g' := (mkF m 82 #[.val (.ref a1_0), .val (.ref a1_1), .val (.long q1_2), .second, .val (.int 2)] [(.int 2)])) (fun _ kz => XS.iload X315.here hx rfl (hb hby d1_80) rfl kz) ?_
  refine own_s (g' := (mkF m 83 #[.val (.ref a1_0), .val (.ref a1_1), .val (.long q1_2), .second, .val (.int 2)] [(.int 1), (.int 2)])) (fun _ kz => XS.iconst X315.here hx rfl (hb hby d1_82) kz) ?_
  refine own_s (g' := (mkF m 86 #[.val (.ref a1_0), .val (.ref a1_1), .val (.long q1_2), .second, .val (.int 2)] [])) (fun _ kz => XS.icmpNo X315.here hx rfl (hb hby d1_83) rfl (flt ((by decide) : ¬ (2 : Int32) < (1 : Int32))).1 kz) ?_
  refine own_s (g' := (mkF m 87 #[.val (.ref a1_0), .val (.ref a1_1), .val (.long q1_2), .second, .val (.int 2)] [(.ref a1_0)])) (fun _ kz => XS.aloadN X315.here hx rfl (hb hby d1_86) rfl rfl kz) ?_
  have f317 := (f303.other W315 (Or.inl ne308))
  obtain ⟨T318, X318, e318, st318⟩ := getF X315 hx hZ hown (host := "") (Or.inl ww30) Via.refl e315 f317 (g := (mkF m 87 #[.val (.ref a1_0), .val (.ref a1_1), .val (.long q1_2), .second, .val (.int 2)] [(.ref a1_0)])) rfl rfl (hb hby d1_87)
  refine own_s (g' := (mkF m 90 #[.val (.ref a1_0), .val (.ref a1_1), .val (.long q1_2), .second, .val (.int 2)] [(.ref b299)])) st318 ?_
  refine own_s (g' := (mkF m 92 #[.val (.ref a1_0), .val (.ref a1_1), .val (.long q1_2), .second, .val (.int 2)] [(.int 2), (.ref b299)])) (fun _ kz => XS.iload X318.here hx rfl (hb hby d1_90) rfl kz) ?_
  refine own_s (g' := (mkF m 93 #[.val (.ref a1_0), .val (.ref a1_1), .val (.long q1_2), .second, .val (.int 2)] [(.ref a1_0), (.int 2), (.ref b299)])) (fun _ kz => XS.aloadN X318.here hx rfl (hb hby d1_92) rfl rfl kz) ?_
  obtain ⟨T319, X319, e319, st319⟩ := getF X318 hx hZ hown (host := "") (Or.inl ww30) Via.refl e318 f317 (g := (mkF m 93 #[.val (.ref a1_0), .val (.ref a1_1), .val (.long q1_2), .second, .val (.int 2)] [(.ref a1_0), (.int 2), (.ref b299)])) rfl rfl (hb hby d1_93)
  refine own_s (g' := (mkF m 96 #[.val (.ref a1_0), .val (.ref a1_1), .val (.long q1_2), .second, .val (.int 2)] [(.ref b299), (.int 2), (.ref b299)])) st319 ?_
  refine own_s (g' := (mkF m 98 #[.val (.ref a1_0), .val (.ref a1_1), .val (.long q1_2), .second, .val (.int 2)] [(.int 2), (.ref b299), (.int 2), (.ref b299)])) (fun _ kz => XS.iload X319.here hx rfl (hb hby d1_96) rfl kz) ?_
  refine own_s (g' := (mkF m 99 #[.val (.ref a1_0), .val (.ref a1_1), .val (.long q1_2), .second, .val (.int 2)] [(.int 1), (.int 2), (.ref b299), (.int 2), (.ref b299)])) (fun _ kz => XS.iconst X319.here hx rfl (hb hby d1_98) kz) ?_
  refine own_s (g' := (mkF m 100 #[.val (.ref a1_0), .val (.ref a1_1), .val (.long q1_2), .second, .val (.int 2)] [(.int ((2 : Int32) + (1 : Int32))), (.ref b299), (.int 2), (.ref b299)])) (fun _ kz => XS.iadd X319.here hx rfl (hb hby d1_99) rfl kz) ?_
  rw [show ((2 : Int32) + (1 : Int32)) = (3 : Int32) from by decide]
  obtain ⟨cl320, Ar320, -, S320, -, H320, -⟩ := id f316
  have in320 := inb_of S320 (j := (3 : Int32)) ⟨by decide, by decide⟩
  refine own_s (g' := (mkF m 101 #[.val (.ref a1_0), .val (.ref a1_1), .val (.long q1_2), .second, .val (.int 2)] [(.int ((0 : Int32) + y3)), (.int 2), (.ref b299)])) (X319.iaload hx (j := (3 : Int32)) (v := (.int ((0 : Int32) + y3))) (by rw [e319]; exact Ar320.1) (State.isArrayOf_alike hZ.alike Ar320.2.1) Ar320.2.2 in320 (Has.at H320 in320 rfl) (g := (mkF m 100 #[.val (.ref a1_0), .val (.ref a1_1), .val (.long q1_2), .second, .val (.int 2)] [(.int 3), (.ref b299), (.int 2), (.ref b299)])) rfl rfl (hb hby d1_100)) ?_
  refine own_s (g' := (mkF m 102 #[.val (.ref a1_0), .val (.ref a1_1), .val (.long q1_2), .second, .val (.int 2)] [(.ref a1_0), (.int ((0 : Int32) + y3)), (.int 2), (.ref b299)])) (fun _ kz => XS.aloadN X319.here hx rfl (hb hby d1_101) rfl rfl kz) ?_
  have f321 := (f311.other W315 (Or.inl ne308))
  obtain ⟨T322, X322, e322, st322⟩ := getF X319 hx hZ hown (host := "") (Or.inl ww22) Via.refl e319 f321 (g := (mkF m 102 #[.val (.ref a1_0), .val (.ref a1_1), .val (.long q1_2), .second, .val (.int 2)] [(.ref a1_0), (.int ((0 : Int32) + y3)), (.int 2), (.ref b299)])) rfl rfl (hb hby d1_102)
  refine own_s (g' := (mkF m 105 #[.val (.ref a1_0), .val (.ref a1_1), .val (.long q1_2), .second, .val (.int 2)] [(.ref b277), (.int ((0 : Int32) + y3)), (.int 2), (.ref b299)])) st322 ?_
  refine own_s (g' := (mkF m 107 #[.val (.ref a1_0), .val (.ref a1_1), .val (.long q1_2), .second, .val (.int 2)] [(.int 2), (.ref b277), (.int ((0 : Int32) + y3)), (.int 2), (.ref b299)])) (fun _ kz => XS.iload X322.here hx rfl (hb hby d1_105) rfl kz) ?_
  have ne323 : b277 ≠ b299 := Nat.ne_of_lt (Nat.lt_of_lt_of_le ((Ex277.wr W281).wr W290).lt (Nat.le_of_eq ga299.symm))
  have f324 := (f313.other W315 ne323)
  obtain ⟨cl325, Ar325, -, S325, -, H325, -⟩ := id f324
  have in325 := inb_of S325 (j := (2 : Int32)) ⟨by decide, by decide⟩
  refine own_s (g' := (mkF m 108 #[.val (.ref a1_0), .val (.ref a1_1), .val (.long q1_2), .second, .val (.int 2)] [(.int y2), (.int ((0 : Int32) + y3)), (.int 2), (.ref b299)])) (X322.iaload hx (j := (2 : Int32)) (v := (.int y2)) (by rw [e322]; exact Ar325.1) (State.isArrayOf_alike hZ.alike Ar325.2.1) Ar325.2.2 in325 (Has.at H325 in325 rfl) (g := (mkF m 107 #[.val (.ref a1_0), .val (.ref a1_1), .val (.long q1_2), .second, .val (.int 2)] [(.int 2), (.ref b277), (.int ((0 : Int32) + y3)), (.int 2), (.ref b299)])) rfl rfl (hb hby d1_107)) ?_
  refine own_s (g' := (mkF m 109 #[.val (.ref a1_0), .val (.ref a1_1), .val (.long q1_2), .second, .val (.int 2)] [(.int (((0 : Int32) + y3) + y2)), (.int 2), (.ref b299)])) (fun _ kz => XS.iadd X322.here hx rfl (hb hby d1_108) rfl kz) ?_
  obtain ⟨cl326, Ar326, q326, S326, M326, H326, G326⟩ := id f316
  obtain ⟨T326, h326, X326, e326, W326, st326⟩ := stI X322 hx hZ e322 Ar326 (j := (2 : Int32)) (inb_of S326 ⟨by decide, by decide⟩) (g := (mkF m 109 #[.val (.ref a1_0), .val (.ref a1_1), .val (.long q1_2), .second, .val (.int 2)] [(.int (((0 : Int32) + y3) + y2)), (.int 2), (.ref b299)])) rfl rfl (hb hby d1_109)
  have f327 : Arv Z h326 b299 k299 .int (5 : Int32) [(.int 0), (.int 0), (.int (((0 : Int32) + y3) + y2)), (.int ((0 : Int32) + y3)), (.int 0)] (.int 0) := Arv.set Ar326 q326 S326 M326 H326 G326 rfl W326 2 rfl (Nat.le_of_ble_eq_true rfl)
  have K326 := K315.wr W326 (Or.inr sz_b299)
  have N326 := Fr.snoc X326 N315 g_b299
  refine own_s (g' := (mkF m 110 #[.val (.ref a1_0), .val (.ref a1_1), .val (.long q1_2), .second, .val (.int 2)] [])) st326 ?_
  refine own_s (g' := (mkF m 113 #[.val (.ref a1_0), .val (.ref a1_1), .val (.long q1_2), .second, .val (.int ((2 : Int32) + (-1 : Int32)))] [])) (fun _ kz => XS.iinc X326.here hx rfl (hb hby d1_110) rfl (l' := #[.val (.ref a1_0), .val (.ref a1_1), .val (.long q1_2), .second, .val (.int ((2 : Int32) + (-1 : Int32)))]) rfl kz) ?_
  rw [show ((2 : Int32) + (-1 : Int32)) = (1 : Int32) from by decide]
  refine own_s (g' := (mkF m 80 #[.val (.ref a1_0), .val (.ref a1_1), .val (.long q1_2), .second, .val (.int 1)] [])) (fun _ kz => XS.goto X326.here hx rfl (pc0 := 113) (pc' := 80) rfl (hb hby d1_113) (by decide) (by decide) kz) ?_
  refine own_s (g' := (mkF m 82 #[.val (.ref a1_0), .val (.ref a1_1), .val (.long q1_2), .second, .val (.int 1)] [(.int 1)])) (fun _ kz => XS.iload X326.here hx rfl (hb hby d1_80) rfl kz) ?_
  refine own_s (g' := (mkF m 83 #[.val (.ref a1_0), .val (.ref a1_1), .val (.long q1_2), .second, .val (.int 1)] [(.int 1), (.int 1)])) (fun _ kz => XS.iconst X326.here hx rfl (hb hby d1_82) kz) ?_
  refine own_s (g' := (mkF m 86 #[.val (.ref a1_0), .val (.ref a1_1), .val (.long q1_2), .second, .val (.int 1)] [])) (fun _ kz => XS.icmpNo X326.here hx rfl (hb hby d1_83) rfl (flt ((by decide) : ¬ (1 : Int32) < (1 : Int32))).1 kz) ?_
  refine own_s (g' := (mkF m 87 #[.val (.ref a1_0), .val (.ref a1_1), .val (.long q1_2), .second, .val (.int 1)] [(.ref a1_0)])) (fun _ kz => XS.aloadN X326.here hx rfl (hb hby d1_86) rfl rfl kz) ?_
  have f328 := (f317.other W326 (Or.inl ne308))
  obtain ⟨T329, X329, e329, st329⟩ := getF X326 hx hZ hown (host := "") (Or.inl ww30) Via.refl e326 f328 (g := (mkF m 87 #[.val (.ref a1_0), .val (.ref a1_1), .val (.long q1_2), .second, .val (.int 1)] [(.ref a1_0)])) rfl rfl (hb hby d1_87)
  refine own_s (g' := (mkF m 90 #[.val (.ref a1_0), .val (.ref a1_1), .val (.long q1_2), .second, .val (.int 1)] [(.ref b299)])) st329 ?_
  refine own_s (g' := (mkF m 92 #[.val (.ref a1_0), .val (.ref a1_1), .val (.long q1_2), .second, .val (.int 1)] [(.int 1), (.ref b299)])) (fun _ kz => XS.iload X329.here hx rfl (hb hby d1_90) rfl kz) ?_
  refine own_s (g' := (mkF m 93 #[.val (.ref a1_0), .val (.ref a1_1), .val (.long q1_2), .second, .val (.int 1)] [(.ref a1_0), (.int 1), (.ref b299)])) (fun _ kz => XS.aloadN X329.here hx rfl (hb hby d1_92) rfl rfl kz) ?_
  obtain ⟨T330, X330, e330, st330⟩ := getF X329 hx hZ hown (host := "") (Or.inl ww30) Via.refl e329 f328 (g := (mkF m 93 #[.val (.ref a1_0), .val (.ref a1_1), .val (.long q1_2), .second, .val (.int 1)] [(.ref a1_0), (.int 1), (.ref b299)])) rfl rfl (hb hby d1_93)
  refine own_s (g' := (mkF m 96 #[.val (.ref a1_0), .val (.ref a1_1), .val (.long q1_2), .second, .val (.int 1)] [(.ref b299), (.int 1), (.ref b299)])) st330 ?_
  refine own_s (g' := (mkF m 98 #[.val (.ref a1_0), .val (.ref a1_1), .val (.long q1_2), .second, .val (.int 1)] [(.int 1), (.ref b299), (.int 1), (.ref b299)])) (fun _ kz => XS.iload X330.here hx rfl (hb hby d1_96) rfl kz) ?_
  refine own_s (g' := (mkF m 99 #[.val (.ref a1_0), .val (.ref a1_1), .val (.long q1_2), .second, .val (.int 1)] [(.int 1), (.int 1), (.ref b299), (.int 1), (.ref b299)])) (fun _ kz => XS.iconst X330.here hx rfl (hb hby d1_98) kz) ?_
  refine own_s (g' := (mkF m 100 #[.val (.ref a1_0), .val (.ref a1_1), .val (.long q1_2), .second, .val (.int 1)] [(.int ((1 : Int32) + (1 : Int32))), (.ref b299), (.int 1), (.ref b299)])) (fun _ kz => XS.iadd X330.here hx rfl (hb hby d1_99) rfl kz) ?_
  rw [show ((1 : Int32) + (1 : Int32)) = (2 : Int32) from by decide]
  obtain ⟨cl331, Ar331, -, S331, -, H331, -⟩ := id f327
  have in331 := inb_of S331 (j := (2 : Int32)) ⟨by decide, by decide⟩
  refine own_s (g' := (mkF m 101 #[.val (.ref a1_0), .val (.ref a1_1), .val (.long q1_2), .second, .val (.int 1)] [(.int (((0 : Int32) + y3) + y2)), (.int 1), (.ref b299)])) (X330.iaload hx (j := (2 : Int32)) (v := (.int (((0 : Int32) + y3) + y2))) (by rw [e330]; exact Ar331.1) (State.isArrayOf_alike hZ.alike Ar331.2.1) Ar331.2.2 in331 (Has.at H331 in331 rfl) (g := (mkF m 100 #[.val (.ref a1_0), .val (.ref a1_1), .val (.long q1_2), .second, .val (.int 1)] [(.int 2), (.ref b299), (.int 1), (.ref b299)])) rfl rfl (hb hby d1_100)) ?_
  refine own_s (g' := (mkF m 102 #[.val (.ref a1_0), .val (.ref a1_1), .val (.long q1_2), .second, .val (.int 1)] [(.ref a1_0), (.int (((0 : Int32) + y3) + y2)), (.int 1), (.ref b299)])) (fun _ kz => XS.aloadN X330.here hx rfl (hb hby d1_101) rfl rfl kz) ?_
  have f332 := (f321.other W326 (Or.inl ne308))
  obtain ⟨T333, X333, e333, st333⟩ := getF X330 hx hZ hown (host := "") (Or.inl ww22) Via.refl e330 f332 (g := (mkF m 102 #[.val (.ref a1_0), .val (.ref a1_1), .val (.long q1_2), .second, .val (.int 1)] [(.ref a1_0), (.int (((0 : Int32) + y3) + y2)), (.int 1), (.ref b299)])) rfl rfl (hb hby d1_102)
  refine own_s (g' := (mkF m 105 #[.val (.ref a1_0), .val (.ref a1_1), .val (.long q1_2), .second, .val (.int 1)] [(.ref b277), (.int (((0 : Int32) + y3) + y2)), (.int 1), (.ref b299)])) st333 ?_
  refine own_s (g' := (mkF m 107 #[.val (.ref a1_0), .val (.ref a1_1), .val (.long q1_2), .second, .val (.int 1)] [(.int 1), (.ref b277), (.int (((0 : Int32) + y3) + y2)), (.int 1), (.ref b299)])) (fun _ kz => XS.iload X333.here hx rfl (hb hby d1_105) rfl kz) ?_
  have f334 := (f324.other W326 ne323)
  obtain ⟨cl335, Ar335, -, S335, -, H335, -⟩ := id f334
  have in335 := inb_of S335 (j := (1 : Int32)) ⟨by decide, by decide⟩
  refine own_s (g' := (mkF m 108 #[.val (.ref a1_0), .val (.ref a1_1), .val (.long q1_2), .second, .val (.int 1)] [(.int y1), (.int (((0 : Int32) + y3) + y2)), (.int 1), (.ref b299)])) (X333.iaload hx (j := (1 : Int32)) (v := (.int y1)) (by rw [e333]; exact Ar335.1) (State.isArrayOf_alike hZ.alike Ar335.2.1) Ar335.2.2 in335 (Has.at H335 in335 rfl) (g := (mkF m 107 #[.val (.ref a1_0), .val (.ref a1_1), .val (.long q1_2), .second, .val (.int 1)] [(.int 1), (.ref b277), (.int (((0 : Int32) + y3) + y2)), (.int 1), (.ref b299)])) rfl rfl (hb hby d1_107)) ?_
  refine own_s (g' := (mkF m 109 #[.val (.ref a1_0), .val (.ref a1_1), .val (.long q1_2), .second, .val (.int 1)] [(.int ((((0 : Int32) + y3) + y2) + y1)), (.int 1), (.ref b299)])) (fun _ kz => XS.iadd X333.here hx rfl (hb hby d1_108) rfl kz) ?_
  obtain ⟨cl336, Ar336, q336, S336, M336, H336, G336⟩ := id f327
  obtain ⟨T336, h336, X336, e336, W336, st336⟩ := stI X333 hx hZ e333 Ar336 (j := (1 : Int32)) (inb_of S336 ⟨by decide, by decide⟩) (g := (mkF m 109 #[.val (.ref a1_0), .val (.ref a1_1), .val (.long q1_2), .second, .val (.int 1)] [(.int ((((0 : Int32) + y3) + y2) + y1)), (.int 1), (.ref b299)])) rfl rfl (hb hby d1_109)
  have f337 : Arv Z h336 b299 k299 .int (5 : Int32) [(.int 0), (.int ((((0 : Int32) + y3) + y2) + y1)), (.int (((0 : Int32) + y3) + y2)), (.int ((0 : Int32) + y3)), (.int 0)] (.int 0) := Arv.set Ar336 q336 S336 M336 H336 G336 rfl W336 1 rfl (Nat.le_of_ble_eq_true rfl)
  have K336 := K326.wr W336 (Or.inr sz_b299)
  have N336 := Fr.snoc X336 N326 g_b299
  refine own_s (g' := (mkF m 110 #[.val (.ref a1_0), .val (.ref a1_1), .val (.long q1_2), .second, .val (.int 1)] [])) st336 ?_
  refine own_s (g' := (mkF m 113 #[.val (.ref a1_0), .val (.ref a1_1), .val (.long q1_2), .second, .val (.int ((1 : Int32) + (-1 : Int32)))] [])) (fun _ kz => XS.iinc X336.here hx rfl (hb hby d1_110) rfl (l' := #[.val (.ref a1_0), .val (.ref a1_1), .val (.long q1_2), .second, .val (.int ((1 : Int32) + (-1 : Int32)))]) rfl kz) ?_
  rw [show ((1 : Int32) + (-1 : Int32)) = (0 : Int32) from by decide]
  refine own_s (g' := (mkF m 80 #[.val (.ref a1_0), .val (.ref a1_1), .val (.long q1_2), .second, .val (.int 0)] [])) (fun _ kz => XS.goto X336.here hx rfl (pc0 := 113) (pc' := 80) rfl (hb hby d1_113) (by decide) (by decide) kz) ?_
  refine own_s (g' := (mkF m 82 #[.val (.ref a1_0), .val (.ref a1_1), .val (.long q1_2), .second, .val (.int 0)] [(.int 0)])) (fun _ kz => XS.iload X336.here hx rfl (hb hby d1_80) rfl kz) ?_
  refine own_s (g' := (mkF m 83 #[.val (.ref a1_0), .val (.ref a1_1), .val (.long q1_2), .second, .val (.int 0)] [(.int 1), (.int 0)])) (fun _ kz => XS.iconst X336.here hx rfl (hb hby d1_82) kz) ?_
  refine own_s (g' := (mkF m 116 #[.val (.ref a1_0), .val (.ref a1_1), .val (.long q1_2), .second, .val (.int 0)] [])) (fun _ kz => XS.icmpYes X336.here hx rfl (pc0 := 83) (pc' := 116) rfl (hb hby d1_83) rfl (tlt ((by decide) : (0 : Int32) < (1 : Int32))).1 (by decide) (by decide) kz) ?_
  refine own_s (g' := (mkF m 117 #[.val (.ref a1_0), .val (.ref a1_1), .val (.long q1_2), .second, .val (.int 0)] [(.ref a1_0)])) (fun _ kz => XS.aloadN X336.here hx rfl (hb hby d1_116) rfl rfl kz) ?_
  refine own_s (g' := (mkF m 118 #[.val (.ref a1_0), .val (.ref a1_1), .val (.long q1_2), .second, .val (.int 0)] [(.long q1_2), (.ref a1_0)])) (fun _ kz => XS.lloadN X336.here hx rfl (hb hby d1_117) rfl kz) ?_
  have f338 := ((((f300.wr W302).wr W315).wr W326).wr W336)
  have f339 := ((((((((F_sum_a1_0.ext E277).other W281 (Or.inr (own_sn_33_23 hw))).other W290 (Or.inr (own_sn_33_29 hw))).ext E299).other W302 (Or.inr (own_sn_33_31 hw))).other W315 (Or.inl ne308)).other W326 (Or.inl ne308)).other W336 (Or.inl ne308))
  obtain ⟨T340, h340, X340, e340, W340, st340⟩ := putF X336 hx hZ hown (host := "") (Or.inl ww32) Via.refl e336 f339 f338 (Or.inl ww33) ww5 (ty := .long) (by decide +kernel) rfl rfl (g := (mkF m 118 #[.val (.ref a1_0), .val (.ref a1_1), .val (.long q1_2), .second, .val (.int 0)] [(.long q1_2), (.ref a1_0)])) rfl rfl (hb hby d1_118)
  have f341 := f339.same W340
  have K340 := K336.wr W340 (Or.inl (List.mem_of_getElem? (i := 0) rfl))
  have N340 := Fr.snoc X340 N336 g_a1_0
  refine own_s (g' := (mkF m 121 #[.val (.ref a1_0), .val (.ref a1_1), .val (.long q1_2), .second, .val (.int 0)] [])) st340 ?_
  refine own_s (g' := (mkF m 122 #[.val (.ref a1_0), .val (.ref a1_1), .val (.long q1_2), .second, .val (.int 0)] [(.ref a1_0)])) (fun _ kz => XS.aloadN X340.here hx rfl (hb hby d1_121) rfl rfl kz) ?_
  refine own_s (g' := (mkF m 123 #[.val (.ref a1_0), .val (.ref a1_1), .val (.long q1_2), .second, .val (.int 0)] [(.ref a1_0), (.ref a1_0)])) (fun _ kz => XS.aloadN X340.here hx rfl (hb hby d1_122) rfl rfl kz) ?_
  have f342 := ((((f304.other W315 (Or.inl ne308)).other W326 (Or.inl ne308)).other W336 (Or.inl ne308)).other W340 (Or.inr (own_sn_29_33 hw)))
  obtain ⟨T343, X343, e343, st343⟩ := getF X340 hx hZ hown (host := "") (Or.inl ww28) Via.refl e340 f342 (g := (mkF m 123 #[.val (.ref a1_0), .val (.ref a1_1), .val (.long q1_2), .second, .val (.int 0)] [(.ref a1_0), (.ref a1_0)])) rfl rfl (hb hby d1_123)
  refine own_s (g' := (mkF m 126 #[.val (.ref a1_0), .val (.ref a1_1), .val (.long q1_2), .second, .val (.int 0)] [(.int 3), (.ref a1_0)])) st343 ?_
  refine own_s (g' := (mkF m 127 #[.val (.ref a1_0), .val (.ref a1_1), .val (.long q1_2), .second, .val (.int 0)] [(.int 1), (.int 3), (.ref a1_0)])) (fun _ kz => XS.iconst X343.here hx rfl (hb hby d1_126) kz) ?_
  refine own_s (g' := (mkF m 128 #[.val (.ref a1_0), .val (.ref a1_1), .val (.long q1_2), .second, .val (.int 0)] [(.int ((3 : Int32) + (1 : Int32))), (.ref a1_0)])) (fun _ kz => XS.iadd X343.here hx rfl (hb hby d1_127) rfl kz) ?_
  rw [show ((3 : Int32) + (1 : Int32)) = (4 : Int32) from by decide]
  obtain ⟨T344, h344, k344, X344, e344, E344, A344, Ex344, st344⟩ := newPE (aty := .int) X343 hx hZ ww0 e343 (g := (mkF m 128 #[.val (.ref a1_0), .val (.ref a1_1), .val (.long q1_2), .second, .val (.int 0)] [(.int 4), (.ref a1_0)])) rfl (hb hby d1_128) rfl (by decide) (cap := 4) (by decide) (by decide) (by decide) (by decide) (ad := "[I") (by decide)
  obtain ⟨b344, ga344⟩ : ∃ z, z = h340.size := ⟨_, rfl⟩
  rw [← ga344] at A344 Ex344 st344
  have g_b344 := Nat.le_trans (Nat.le_trans Z0 K340.1) (Nat.le_of_eq ga344.symm)
  have sz_b344 := Nat.le_trans K340.1 (Nat.le_of_eq ga344.symm)
  have V344 : Arv Z h344 b344 k344 .int (4 : Int32) [(.int 0), (.int 0), (.int 0), (.int 0)] (.int 0) := (Arv.new A344 (by decide)).pad (pad_rep [] (.int 0) 4)
  have K344 := K340.ext E344
  refine own_s (g' := (mkF m 130 #[.val (.ref a1_0), .val (.ref a1_1), .val (.long q1_2), .second, .val (.int 0)] [(.ref b344), (.ref a1_0)])) st344 ?_
  have f345 := ((f338.wr W340).ext E344)
  have f346 := ((((((((((F_partnersOf_a1_0.ext E277).other W281 (Or.inr (own_sn_35_23 hw))).other W290 (Or.inr (own_sn_35_29 hw))).ext E299).other W302 (Or.inr (own_sn_35_31 hw))).other W315 (Or.inl ne308)).other W326 (Or.inl ne308)).other W336 (Or.inl ne308)).other W340 (Or.inr (own_sn_35_33 hw))).ext E344)
  obtain ⟨T347, h347, X347, e347, W347, st347⟩ := putF X344 hx hZ hown (host := "") (Or.inl ww34) Via.refl e344 f346 f345 (Or.inr ⟨ww35, rfl, hnm⟩) ww5 (ty := (.array .int)) (by decide +kernel) rfl rfl (g := (mkF m 130 #[.val (.ref a1_0), .val (.ref a1_1), .val (.long q1_2), .second, .val (.int 0)] [(.ref b344), (.ref a1_0)])) rfl rfl (hb hby d1_130)
  have f348 := f346.same W347
  have K347 := K344.wr W347 (Or.inl (List.mem_of_getElem? (i := 0) rfl))
  have N347 := Fr.snoc X347 N340 g_a1_0
  refine own_s (g' := (mkF m 133 #[.val (.ref a1_0), .val (.ref a1_1), .val (.long q1_2), .second, .val (.int 0)] [])) st347 ?_
  refine own_s (g' := (mkF m 134 #[.val (.ref a1_0), .val (.ref a1_1), .val (.long q1_2), .second, .val (.int 0)] [(.ref a1_0)])) (fun _ kz => XS.aloadN X347.here hx rfl (hb hby d1_133) rfl rfl kz) ?_
  refine own_s (g' := (mkF m 135 #[.val (.ref a1_0), .val (.ref a1_1), .val (.long q1_2), .second, .val (.int 0)] [(.ref a1_0), (.ref a1_0)])) (fun _ kz => XS.aloadN X347.here hx rfl (hb hby d1_134) rfl rfl kz) ?_
  have f349 := ((f342.ext E344).other W347 (Or.inr (own_sn_29_35 hw)))
  obtain ⟨T350, X350, e350, st350⟩ := getF X347 hx hZ hown (host := "") (Or.inl ww28) Via.refl e347 f349 (g := (mkF m 135 #[.val (.ref a1_0), .val (.ref a1_1), .val (.long q1_2), .second, .val (.int 0)] [(.ref a1_0), (.ref a1_0)])) rfl rfl (hb hby d1_135)
  refine own_s (g' := (mkF m 138 #[.val (.ref a1_0), .val (.ref a1_1), .val (.long q1_2), .second, .val (.int 0)] [(.int 3), (.ref a1_0)])) st350 ?_
  refine own_s (g' := (mkF m 139 #[.val (.ref a1_0), .val (.ref a1_1), .val (.long q1_2), .second, .val (.int 0)] [(.int 1), (.int 3), (.ref a1_0)])) (fun _ kz => XS.iconst X350.here hx rfl (hb hby d1_138) kz) ?_
  refine own_s (g' := (mkF m 140 #[.val (.ref a1_0), .val (.ref a1_1), .val (.long q1_2), .second, .val (.int 0)] [(.int ((3 : Int32) + (1 : Int32))), (.ref a1_0)])) (fun _ kz => XS.iadd X350.here hx rfl (hb hby d1_139) rfl kz) ?_
  rw [show ((3 : Int32) + (1 : Int32)) = (4 : Int32) from by decide]
  obtain ⟨T351, h351, k351, X351, e351, E351, A351, Ex351, st351⟩ := newPE (aty := .int) X350 hx hZ ww0 e350 (g := (mkF m 140 #[.val (.ref a1_0), .val (.ref a1_1), .val (.long q1_2), .second, .val (.int 0)] [(.int 4), (.ref a1_0)])) rfl (hb hby d1_140) rfl (by decide) (cap := 4) (by decide) (by decide) (by decide) (by decide) (ad := "[I") (by decide)
  obtain ⟨b351, ga351⟩ : ∃ z, z = h347.size := ⟨_, rfl⟩
  rw [← ga351] at A351 Ex351 st351
  have g_b351 := Nat.le_trans (Nat.le_trans Z0 K347.1) (Nat.le_of_eq ga351.symm)
  have sz_b351 := Nat.le_trans K347.1 (Nat.le_of_eq ga351.symm)
  have V351 : Arv Z h351 b351 k351 .int (4 : Int32) [(.int 0), (.int 0), (.int 0), (.int 0)] (.int 0) := (Arv.new A351 (by decide)).pad (pad_rep [] (.int 0) 4)
  have K351 := K347.ext E351
  refine own_s (g' := (mkF m 142 #[.val (.ref a1_0), .val (.ref a1_1), .val (.long q1_2), .second, .val (.int 0)] [(.ref b351), (.ref a1_0)])) st351 ?_
  have f352 := ((f345.wr W347).ext E351)
  have f353 := ((((((((((((F_saved_a1_0.ext E277).other W281 (Or.inr (own_sn_37_23 hw))).other W290 (Or.inr (own_sn_37_29 hw))).ext E299).other W302 (Or.inr (own_sn_37_31 hw))).other W315 (Or.inl ne308)).other W326 (Or.inl ne308)).other W336 (Or.inl ne308)).other W340 (Or.inr (own_sn_37_33 hw))).ext E344).other W347 (Or.inr (own_sn_37_35 hw))).ext E351)
  obtain ⟨T354, h354, X354, e354, W354, st354⟩ := putF X351 hx hZ hown (host := "") (Or.inl ww36) Via.refl e351 f353 f352 (Or.inr ⟨ww37, rfl, hnm⟩) ww5 (ty := (.array .int)) (by decide +kernel) rfl rfl (g := (mkF m 142 #[.val (.ref a1_0), .val (.ref a1_1), .val (.long q1_2), .second, .val (.int 0)] [(.ref b351), (.ref a1_0)])) rfl rfl (hb hby d1_142)
  have f355 := f353.same W354
  have K354 := K351.wr W354 (Or.inl (List.mem_of_getElem? (i := 0) rfl))
  have N354 := Fr.snoc X354 N347 g_a1_0
  refine own_s (g' := (mkF m 145 #[.val (.ref a1_0), .val (.ref a1_1), .val (.long q1_2), .second, .val (.int 0)] [])) st354 ?_
  refine own_s (g' := (mkF m 146 #[.val (.ref a1_0), .val (.ref a1_1), .val (.long q1_2), .second, .val (.int 0)] [(.ref a1_0)])) (fun _ kz => XS.aloadN X354.here hx rfl (hb hby d1_145) rfl rfl kz) ?_
  refine own_s (g' := (mkF m 147 #[.val (.ref a1_0), .val (.ref a1_1), .val (.long q1_2), .second, .val (.int 0)] [(.ref a1_0), (.ref a1_0)])) (fun _ kz => XS.aloadN X354.here hx rfl (hb hby d1_146) rfl rfl kz) ?_
  have f356 := ((((((f332.other W336 (Or.inl ne308)).other W340 (Or.inr (own_sn_23_33 hw))).ext E344).other W347 (Or.inr (own_sn_23_35 hw))).ext E351).other W354 (Or.inr (own_sn_23_37 hw)))
  obtain ⟨T357, X357, e357, st357⟩ := getF X354 hx hZ hown (host := "") (Or.inl ww22) Via.refl e354 f356 (g := (mkF m 147 #[.val (.ref a1_0), .val (.ref a1_1), .val (.long q1_2), .second, .val (.int 0)] [(.ref a1_0), (.ref a1_0)])) rfl rfl (hb hby d1_147)
  refine own_s (g' := (mkF m 150 #[.val (.ref a1_0), .val (.ref a1_1), .val (.long q1_2), .second, .val (.int 0)] [(.ref b277), (.ref a1_0)])) st357 ?_
  have f358 := ((((((f334.other W336 ne323).other W340 (Ne.symm ne284)).ext E344).other W347 (Ne.symm ne284)).ext E351).other W354 (Ne.symm ne284))
  obtain ⟨cl359, Ar359, -, S359, M359, -, -⟩ := id f358
  refine own_s (g' := (mkF m 151 #[.val (.ref a1_0), .val (.ref a1_1), .val (.long q1_2), .second, .val (.int 0)] [(.int 4), (.ref a1_0)])) (fun t k => X357.arraylength hx (by rw [e357]; exact Ar359.1) (State.isArrayOf_alike hZ.alike Ar359.2.1) (g := (mkF m 150 #[.val (.ref a1_0), .val (.ref a1_1), .val (.long q1_2), .second, .val (.int 0)] [(.ref b277), (.ref a1_0)])) rfl rfl (hb hby d1_150) _ (by rw [len_of S359 M359]; exact k)) ?_
  refine own_s (g' := (mkF m 152 #[.val (.ref a1_0), .val (.ref a1_1), .val (.long q1_2), .second, .val (.int 0)] [(.ref a1_0), (.int 4), (.ref a1_0)])) (fun _ kz => XS.aloadN X357.here hx rfl (hb hby d1_151) rfl rfl kz) ?_
  have f360 := ((f349.ext E351).other W354 (Or.inr (own_sn_29_37 hw)))
  obtain ⟨T361, X361, e361, st361⟩ := getF X357 hx hZ hown (host := "") (Or.inl ww28) Via.refl e357 f360 (g := (mkF m 152 #[.val (.ref a1_0), .val (.ref a1_1), .val (.long q1_2), .second, .val (.int 0)] [(.ref a1_0), (.int 4), (.ref a1_0)])) rfl rfl (hb hby d1_152)
  refine own_s (g' := (mkF m 155 #[.val (.ref a1_0), .val (.ref a1_1), .val (.long q1_2), .second, .val (.int 0)] [(.int 3), (.int 4), (.ref a1_0)])) st361 ?_
  obtain ⟨_, _, ⟨T362, L362, k362, n362⟩, -, X362, ⟨Lc362, hQ362, l362, y362, z362⟩, st362⟩ := Jvm.LawKit.callS X361 hx (y := (⟨"gallai/service/Graphicality", "slackLength", "(II)I"⟩ : MethodName)) hown (mvT hZ ww38) (mvT hZ ww39) (mvT hZ ww40) (mvT hZ ww41) (by decide) (backOf (W := 1) (rm4 l Z a0 hw [] (4 : Int32) (3 : Int32) h354 n0 (Nat.le_trans Z0 K354.1) ) hZ ww41 ww40 (by decide) (by decide)) (g := (mkF m 155 #[.val (.ref a1_0), .val (.ref a1_1), .val (.long q1_2), .second, .val (.int 0)] [(.int 3), (.int 4), (.ref a1_0)])) rfl (by rw [hml]; rfl) (argsL := [(.int 4), (.int 3)]) (rest := [(.ref a1_0)]) (lenOf pd__II_I rfl) rfl (by show 2 * 0 + _ ≤ _; exact Nat.le_of_eq rfl) (hb hby d1_155) (fun _ _ => ⟨rfl, e361, (by decide : 4 + 0 ≤ _), (by decide : 17 + 0 ≤ _)⟩)
  dsimp only [Pt.U, Pt.locs, Pt.cells, Pt.slots] at X362 l362 y362 z362 st362 hQ362
  subst l362 y362 z362
  obtain ⟨rfl, N362q, eh362⟩ := hQ362
  have N362 := Fr.app N354 N362q
  refine own_s (g' := (mkF m 158 #[.val (.ref a1_0), .val (.ref a1_1), .val (.long q1_2), .second, .val (.int 0)] [(.int (r4 (4 : Int32) (3 : Int32))), (.ref a1_0)])) st362 ?_
  rw [show (r4 (4 : Int32) (3 : Int32)) = (4 : Int32) from by decide]
  obtain ⟨T363, h363, k363, X363, e363, E363, A363, Ex363, st363⟩ := newPE (aty := .long) X362 hx hZ ww45 eh362 (g := (mkF m 158 #[.val (.ref a1_0), .val (.ref a1_1), .val (.long q1_2), .second, .val (.int 0)] [(.int 4), (.ref a1_0)])) rfl (hb hby d1_158) rfl (by decide) (cap := 4) (by decide) (by decide) (by decide) (by decide) (ad := "[J") (by decide)
  obtain ⟨b363, ga363⟩ : ∃ z, z = h354.size := ⟨_, rfl⟩
  rw [← ga363] at A363 Ex363 st363
  have g_b363 := Nat.le_trans (Nat.le_trans Z0 K354.1) (Nat.le_of_eq ga363.symm)
  have sz_b363 := Nat.le_trans K354.1 (Nat.le_of_eq ga363.symm)
  have V363 : Arv Z h363 b363 k363 .long (4 : Int32) [(.long 0), (.long 0), (.long 0), (.long 0)] (.long 0) := (Arv.new A363 (by decide)).pad (pad_rep [] (.long 0) 4)
  have K363 := K354.ext E363
  refine own_s (g' := (mkF m 160 #[.val (.ref a1_0), .val (.ref a1_1), .val (.long q1_2), .second, .val (.int 0)] [(.ref b363), (.ref a1_0)])) st363 ?_
  have f364 := ((f352.wr W354).ext E363)
  have f365 := ((((((((((((((F_slack_a1_0.ext E277).other W281 (Or.inr (own_sn_47_23 hw))).other W290 (Or.inr (own_sn_47_29 hw))).ext E299).other W302 (Or.inr (own_sn_47_31 hw))).other W315 (Or.inl ne308)).other W326 (Or.inl ne308)).other W336 (Or.inl ne308)).other W340 (Or.inr (own_sn_47_33 hw))).ext E344).other W347 (Or.inr (own_sn_47_35 hw))).ext E351).other W354 (Or.inr (own_sn_47_37 hw))).ext E363)
  obtain ⟨T366, h366, X366, e366, W366, st366⟩ := putF X363 hx hZ hown (host := "") (Or.inl ww46) Via.refl e363 f365 f364 (Or.inr ⟨ww47, rfl, hnm⟩) ww5 (ty := (.array .long)) (by decide +kernel) rfl rfl (g := (mkF m 160 #[.val (.ref a1_0), .val (.ref a1_1), .val (.long q1_2), .second, .val (.int 0)] [(.ref b363), (.ref a1_0)])) rfl rfl (hb hby d1_160)
  have f367 := f365.same W366
  have K366 := K363.wr W366 (Or.inl (List.mem_of_getElem? (i := 0) rfl))
  have N366 := Fr.snoc X366 N362 g_a1_0
  refine own_s (g' := (mkF m 163 #[.val (.ref a1_0), .val (.ref a1_1), .val (.long q1_2), .second, .val (.int 0)] [])) st366 ?_
  refine own_s (g' := (mkF m 164 #[.val (.ref a1_0), .val (.ref a1_1), .val (.long q1_2), .second, .val (.int 0)] [(.ref a1_0)])) (fun _ kz => XS.aloadN X366.here hx rfl (hb hby d1_163) rfl rfl kz) ?_
  refine own_s (g' := (mkF m 165 #[.val (.ref a1_0), .val (.ref a1_1), .val (.long q1_2), .second, .val (.int 0)] [(.ref a1_0), (.ref a1_0)])) (fun _ kz => XS.aloadN X366.here hx rfl (hb hby d1_164) rfl rfl kz) ?_
  obtain ⟨T368, X368, e368, st368⟩ := getF X366 hx hZ hown (host := "") (Or.inl ww46) Via.refl e366 f367 (g := (mkF m 165 #[.val (.ref a1_0), .val (.ref a1_1), .val (.long q1_2), .second, .val (.int 0)] [(.ref a1_0), (.ref a1_0)])) rfl rfl (hb hby d1_165)
  refine own_s (g' := (mkF m 168 #[.val (.ref a1_0), .val (.ref a1_1), .val (.long q1_2), .second, .val (.int 0)] [(.ref b363), (.ref a1_0)])) st368 ?_
  have ne369 : a1_0 ≠ b363 := Nat.ne_of_lt (Nat.lt_of_lt_of_le (f352.wr W354).lt (Nat.le_of_eq ga363.symm))
  have f370 := (V363.other W366 (Ne.symm ne369))
  obtain ⟨cl371, Ar371, -, S371, M371, -, -⟩ := id f370
  refine own_s (g' := (mkF m 169 #[.val (.ref a1_0), .val (.ref a1_1), .val (.long q1_2), .second, .val (.int 0)] [(.int 4), (.ref a1_0)])) (fun t k => X368.arraylength hx (by rw [e368]; exact Ar371.1) (State.isArrayOf_alike hZ.alike Ar371.2.1) (g := (mkF m 168 #[.val (.ref a1_0), .val (.ref a1_1), .val (.long q1_2), .second, .val (.int 0)] [(.ref b363), (.ref a1_0)])) rfl rfl (hb hby d1_168) _ (by rw [len_of S371 M371]; exact k)) ?_
  refine own_s (g' := (mkF m 170 #[.val (.ref a1_0), .val (.ref a1_1), .val (.long q1_2), .second, .val (.int 0)] [(.int 1), (.int 4), (.ref a1_0)])) (fun _ kz => XS.iconst X368.here hx rfl (hb hby d1_169) kz) ?_
  refine own_s (g' := (mkF m 171 #[.val (.ref a1_0), .val (.ref a1_1), .val (.long q1_2), .second, .val (.int 0)] [(.int ((4 : Int32) + (1 : Int32))), (.ref a1_0)])) (fun _ kz => XS.iadd X368.here hx rfl (hb hby d1_170) rfl kz) ?_
  rw [show ((4 : Int32) + (1 : Int32)) = (5 : Int32) from by decide]
  obtain ⟨T372, h372, k372, X372, e372, E372, A372, Ex372, st372⟩ := newPE (aty := .int) X368 hx hZ ww0 e368 (g := (mkF m 171 #[.val (.ref a1_0), .val (.ref a1_1), .val (.long q1_2), .second, .val (.int 0)] [(.int 5), (.ref a1_0)])) rfl (hb hby d1_171) rfl (by decide) (cap := 5) (by decide) (by decide) (by decide) (by decide) (ad := "[I") (by decide)
  obtain ⟨b372, ga372⟩ : ∃ z, z = h366.size := ⟨_, rfl⟩
  rw [← ga372] at A372 Ex372 st372
  have g_b372 := Nat.le_trans (Nat.le_trans Z0 K366.1) (Nat.le_of_eq ga372.symm)
  have sz_b372 := Nat.le_trans K366.1 (Nat.le_of_eq ga372.symm)
  have V372 : Arv Z h372 b372 k372 .int (5 : Int32) [(.int 0), (.int 0), (.int 0), (.int 0), (.int 0)] (.int 0) := (Arv.new A372 (by decide)).pad (pad_rep [] (.int 0) 5)
  have K372 := K366.ext E372
  refine own_s (g' := (mkF m 173 #[.val (.ref a1_0), .val (.ref a1_1), .val (.long q1_2), .second, .val (.int 0)] [(.ref b372), (.ref a1_0)])) st372 ?_
  have f373 := ((f364.wr W366).ext E372)
  have f374 := ((((((((((((((((F_nextTight_a1_0.ext E277).other W281 (Or.inr (own_sn_49_23 hw))).other W290 (Or.inr (own_sn_49_29 hw))).ext E299).other W302 (Or.inr (own_sn_49_31 hw))).other W315 (Or.inl ne308)).other W326 (Or.inl ne308)).other W336 (Or.inl ne308)).other W340 (Or.inr (own_sn_49_33 hw))).ext E344).other W347 (Or.inr (own_sn_49_35 hw))).ext E351).other W354 (Or.inr (own_sn_49_37 hw))).ext E363).other W366 (Or.inr (own_sn_49_47 hw))).ext E372)
  obtain ⟨T375, h375, X375, e375, W375, st375⟩ := putF X372 hx hZ hown (host := "") (Or.inl ww48) Via.refl e372 f374 f373 (Or.inr ⟨ww49, rfl, hnm⟩) ww5 (ty := (.array .int)) (by decide +kernel) rfl rfl (g := (mkF m 173 #[.val (.ref a1_0), .val (.ref a1_1), .val (.long q1_2), .second, .val (.int 0)] [(.ref b372), (.ref a1_0)])) rfl rfl (hb hby d1_173)
  have f376 := f374.same W375
  have K375 := K372.wr W375 (Or.inl (List.mem_of_getElem? (i := 0) rfl))
  have N375 := Fr.snoc X375 N366 g_a1_0
  refine own_s (g' := (mkF m 176 #[.val (.ref a1_0), .val (.ref a1_1), .val (.long q1_2), .second, .val (.int 0)] [])) st375 ?_
  have f377 := (f373.wr W375)
  have f378 := ((((f358.ext E363).other W366 (Ne.symm ne284)).ext E372).other W375 (Ne.symm ne284))
  have f379 := ((((f356.ext E363).other W366 (Or.inr (own_sn_23_47 hw))).ext E372).other W375 (Or.inr (own_sn_23_49 hw)))
  have f380 := ((((f360.ext E363).other W366 (Or.inr (own_sn_29_47 hw))).ext E372).other W375 (Or.inr (own_sn_29_49 hw)))
  have f381 := ((((((((((f328.other W336 (Or.inl ne308)).other W340 (Or.inr (own_sn_31_33 hw))).ext E344).other W347 (Or.inr (own_sn_31_35 hw))).ext E351).other W354 (Or.inr (own_sn_31_37 hw))).ext E363).other W366 (Or.inr (own_sn_31_47 hw))).ext E372).other W375 (Or.inr (own_sn_31_49 hw)))
  have f382 := (((((((((f337.other W340 (Ne.symm ne308)).ext E344).other W347 (Ne.symm ne308)).ext E351).other W354 (Ne.symm ne308)).ext E363).other W366 (Ne.symm ne308)).ext E372).other W375 (Ne.symm ne308))
  have f383 := ((((((((f341.ext E344).other W347 (Or.inr (own_sn_33_35 hw))).ext E351).other W354 (Or.inr (own_sn_33_37 hw))).ext E363).other W366 (Or.inr (own_sn_33_47 hw))).ext E372).other W375 (Or.inr (own_sn_33_49 hw)))
  have ne384 : a1_0 ≠ b344 := Nat.ne_of_lt (Nat.lt_of_lt_of_le (f338.wr W340).lt (Nat.le_of_eq ga344.symm))
  have f385 := (((((((V344.other W347 (Ne.symm ne384)).ext E351).other W354 (Ne.symm ne384)).ext E363).other W366 (Ne.symm ne384)).ext E372).other W375 (Ne.symm ne384))
  have f386 := ((((((f348.ext E351).other W354 (Or.inr (own_sn_35_37 hw))).ext E363).other W366 (Or.inr (own_sn_35_47 hw))).ext E372).other W375 (Or.inr (own_sn_35_49 hw)))
  have ne387 : a1_0 ≠ b351 := Nat.ne_of_lt (Nat.lt_of_lt_of_le (f345.wr W347).lt (Nat.le_of_eq ga351.symm))
  have f388 := (((((V351.other W354 (Ne.symm ne387)).ext E363).other W366 (Ne.symm ne387)).ext E372).other W375 (Ne.symm ne387))
  have f389 := ((((f355.ext E363).other W366 (Or.inr (own_sn_37_47 hw))).ext E372).other W375 (Or.inr (own_sn_37_49 hw)))
  have f390 := ((f370.ext E372).other W375 (Ne.symm ne369))
  have f391 := ((f367.ext E372).other W375 (Or.inr (own_sn_47_49 hw)))
  have ne392 : a1_0 ≠ b372 := Nat.ne_of_lt (Nat.lt_of_lt_of_le (f364.wr W366).lt (Nat.le_of_eq ga372.symm))
  have f393 := (V372.other W375 (Ne.symm ne392))
  have ne394 : b277 ≠ b344 := Nat.ne_of_lt (Nat.lt_of_lt_of_le ((((((((Ex277.wr W281).wr W290).ext E299).wr W302).wr W315).wr W326).wr W336).wr W340).lt (Nat.le_of_eq ga344.symm))
  have ne395 : b277 ≠ b351 := Nat.ne_of_lt (Nat.lt_of_lt_of_le ((((((((((Ex277.wr W281).wr W290).ext E299).wr W302).wr W315).wr W326).wr W336).wr W340).ext E344).wr W347).lt (Nat.le_of_eq ga351.symm))
  have ne396 : b277 ≠ b363 := Nat.ne_of_lt (Nat.lt_of_lt_of_le ((((((((((((Ex277.wr W281).wr W290).ext E299).wr W302).wr W315).wr W326).wr W336).wr W340).ext E344).wr W347).ext E351).wr W354).lt (Nat.le_of_eq ga363.symm))
  have ne397 : b277 ≠ b372 := Nat.ne_of_lt (Nat.lt_of_lt_of_le ((((((((((((((Ex277.wr W281).wr W290).ext E299).wr W302).wr W315).wr W326).wr W336).wr W340).ext E344).wr W347).ext E351).wr W354).ext E363).wr W366).lt (Nat.le_of_eq ga372.symm))
  have ne398 : b299 ≠ b344 := Nat.ne_of_lt (Nat.lt_of_lt_of_le (((((Ex299.wr W302).wr W315).wr W326).wr W336).wr W340).lt (Nat.le_of_eq ga344.symm))
  have ne399 : b299 ≠ b351 := Nat.ne_of_lt (Nat.lt_of_lt_of_le (((((((Ex299.wr W302).wr W315).wr W326).wr W336).wr W340).ext E344).wr W347).lt (Nat.le_of_eq ga351.symm))
  have ne400 : b299 ≠ b363 := Nat.ne_of_lt (Nat.lt_of_lt_of_le (((((((((Ex299.wr W302).wr W315).wr W326).wr W336).wr W340).ext E344).wr W347).ext E351).wr W354).lt (Nat.le_of_eq ga363.symm))
  have ne401 : b299 ≠ b372 := Nat.ne_of_lt (Nat.lt_of_lt_of_le (((((((((((Ex299.wr W302).wr W315).wr W326).wr W336).wr W340).ext E344).wr W347).ext E351).wr W354).ext E363).wr W366).lt (Nat.le_of_eq ga372.symm))
  have ne402 : b344 ≠ b351 := Nat.ne_of_lt (Nat.lt_of_lt_of_le (Ex344.wr W347).lt (Nat.le_of_eq ga351.symm))
  have ne403 : b344 ≠ b363 := Nat.ne_of_lt (Nat.lt_of_lt_of_le (((Ex344.wr W347).ext E351).wr W354).lt (Nat.le_of_eq ga363.symm))
  have ne404 : b344 ≠ b372 := Nat.ne_of_lt (Nat.lt_of_lt_of_le (((((Ex344.wr W347).ext E351).wr W354).ext E363).wr W366).lt (Nat.le_of_eq ga372.symm))
  have ne405 : b351 ≠ b363 := Nat.ne_of_lt (Nat.lt_of_lt_of_le (Ex351.wr W354).lt (Nat.le_of_eq ga363.symm))
  have ne406 : b351 ≠ b372 := Nat.ne_of_lt (Nat.lt_of_lt_of_le (((Ex351.wr W354).ext E363).wr W366).lt (Nat.le_of_eq ga372.symm))
  have ne407 : b363 ≠ b372 := Nat.ne_of_lt (Nat.lt_of_lt_of_le (Ex363.wr W366).lt (Nat.le_of_eq ga372.symm))
  refine own_retV X375 hx hlk hret (hb hby d1_176) (by decide) (by decide) ?_
  show Q1L3 Z a1_0 a1_1 q1_2 u1_largest v1_sum ky y0 y1 y2 y3 h0 n0 _ T375.heap _
  rw [e375]
  exact ⟨b277, b299, b344, b351, b363, b372, _, _, _, _, _, _, sz_b277, sz_b299, sz_b344, sz_b351, sz_b363, sz_b372, ne323, ne394, ne395, ne396, ne397, ne398, ne399, ne400, ne401, ne402, ne403, ne404, ne405, ne406, ne407, rfl, N375, K375, f378, f382, f385, f388, f390, f393, f377, f379, f380, f381, f383, f386, f389, f391, f376⟩
theorem d6_0 : decode prog_45_method_5_code 0 = .ok (.aload_n 0, 1) := by decide +kernel
theorem d6_1 : decode prog_45_method_5_code 1 = .ok (.getfield 13, 3) := by decide +kernel
theorem d6_4 : decode prog_45_method_5_code 4 = .ok (.iload_n 1, 1) := by decide +kernel
theorem d6_5 : decode prog_45_method_5_code 5 = .ok (.dup2, 1) := by decide +kernel
theorem d6_6 : decode prog_45_method_5_code 6 = .ok (.iaload, 1) := by decide +kernel
theorem d6_7 : decode prog_45_method_5_code 7 = .ok (.iconst 1, 1) := by decide +kernel
theorem d6_8 : decode prog_45_method_5_code 8 = .ok (.isub, 1) := by decide +kernel
theorem d6_9 : decode prog_45_method_5_code 9 = .ok (.iastore, 1) := by decide +kernel
theorem d6_10 : decode prog_45_method_5_code 10 = .ok (.aload_n 0, 1) := by decide +kernel
theorem d6_11 : decode prog_45_method_5_code 11 = .ok (.getfield 13, 3) := by decide +kernel
theorem d6_14 : decode prog_45_method_5_code 14 = .ok (.iload_n 1, 1) := by decide +kernel
theorem d6_15 : decode prog_45_method_5_code 15 = .ok (.iconst 1, 1) := by decide +kernel
theorem d6_16 : decode prog_45_method_5_code 16 = .ok (.isub, 1) := by decide +kernel
theorem d6_17 : decode prog_45_method_5_code 17 = .ok (.dup2, 1) := by decide +kernel
theorem d6_18 : decode prog_45_method_5_code 18 = .ok (.iaload, 1) := by decide +kernel
theorem d6_19 : decode prog_45_method_5_code 19 = .ok (.iconst 1, 1) := by decide +kernel
theorem d6_20 : decode prog_45_method_5_code 20 = .ok (.iadd, 1) := by decide +kernel
theorem d6_21 : decode prog_45_method_5_code 21 = .ok (.iastore, 1) := by decide +kernel
theorem d6_22 : decode prog_45_method_5_code 22 = .ok (.aload_n 0, 1) := by decide +kernel
theorem d6_23 : decode prog_45_method_5_code 23 = .ok (.getfield 28, 3) := by decide +kernel
theorem d6_26 : decode prog_45_method_5_code 26 = .ok (.iload_n 1, 1) := by decide +kernel
theorem d6_27 : decode prog_45_method_5_code 27 = .ok (.dup2, 1) := by decide +kernel
theorem d6_28 : decode prog_45_method_5_code 28 = .ok (.iaload, 1) := by decide +kernel
theorem d6_29 : decode prog_45_method_5_code 29 = .ok (.iconst 1, 1) := by decide +kernel
theorem d6_30 : decode prog_45_method_5_code 30 = .ok (.isub, 1) := by decide +kernel
theorem d6_31 : decode prog_45_method_5_code 31 = .ok (.iastore, 1) := by decide +kernel
theorem d6_32 : decode prog_45_method_5_code 32 = .ok (.aload_n 0, 1) := by decide +kernel
theorem d6_33 : decode prog_45_method_5_code 33 = .ok (.dup, 1) := by decide +kernel
theorem d6_34 : decode prog_45_method_5_code 34 = .ok (.getfield 31, 3) := by decide +kernel
theorem d6_37 : decode prog_45_method_5_code 37 = .ok (.lconst 1, 1) := by decide +kernel
theorem d6_38 : decode prog_45_method_5_code 38 = .ok (.lsub, 1) := by decide +kernel
theorem d6_39 : decode prog_45_method_5_code 39 = .ok (.putfield 31, 3) := by decide +kernel
theorem d6_42 : decode prog_45_method_5_code 42 = .ok (.aload_n 0, 1) := by decide +kernel
theorem d6_43 : decode prog_45_method_5_code 43 = .ok (.getfield 24, 3) := by decide +kernel
theorem d6_46 : decode prog_45_method_5_code 46 = .ok (.ifCond .le 28, 3) := by decide +kernel
theorem d6_49 : decode prog_45_method_5_code 49 = .ok (.aload_n 0, 1) := by decide +kernel
theorem d6_50 : decode prog_45_method_5_code 50 = .ok (.getfield 13, 3) := by decide +kernel
theorem d6_53 : decode prog_45_method_5_code 53 = .ok (.aload_n 0, 1) := by decide +kernel
theorem d6_54 : decode prog_45_method_5_code 54 = .ok (.getfield 24, 3) := by decide +kernel
theorem d6_57 : decode prog_45_method_5_code 57 = .ok (.iaload, 1) := by decide +kernel
theorem d6_58 : decode prog_45_method_5_code 58 = .ok (.ifCond .ne 16, 3) := by decide +kernel
theorem d6_61 : decode prog_45_method_5_code 61 = .ok (.aload_n 0, 1) := by decide +kernel
theorem d6_62 : decode prog_45_method_5_code 62 = .ok (.dup, 1) := by decide +kernel
theorem d6_63 : decode prog_45_method_5_code 63 = .ok (.getfield 24, 3) := by decide +kernel
theorem d6_66 : decode prog_45_method_5_code 66 = .ok (.iconst 1, 1) := by decide +kernel
theorem d6_67 : decode prog_45_method_5_code 67 = .ok (.isub, 1) := by decide +kernel
theorem d6_68 : decode prog_45_method_5_code 68 = .ok (.putfield 24, 3) := by decide +kernel
theorem d6_71 : decode prog_45_method_5_code 71 = .ok (.goto (-29), 3) := by decide +kernel
theorem d6_74 : decode prog_45_method_5_code 74 = .ok (.return_, 1) := by decide +kernel
theorem ef_6L1d1 (m : MethodId) (a6_0 : Addr) : entryFrame m #[(.ref a6_0), (.int 1)] 2 = mkF m 0 #[.val (.ref a6_0), .val (.int 1)] [] := by first | (simp [entryFrame, mkF, argsToLocals, Value.category]; done) | rfl
def w6L1d1_largest (y1 : Int32) : Int32 := (if (y1 - (1 : Int32)) = (0 : Int32) then (0 : Int32) else (1 : Int32))
def Q6L1d1 (Z : State) (a6_0 : Addr) (b6_countOf : Addr) (b6_atLeast : Addr) (v6_sum : Int64) (b6_partnersOf : Addr) (b6_saved : Addr) (b6_slack : Addr) (b6_nextTight : Addr) (ky : ClassId) (y0 : Int32) (y1 : Int32) (y2 : Int32) (y3 : Int32) (kx : ClassId) (na : Int32) (x0 : Int32) (x1 : Int32) (x2 : Int32) (x3 : Int32) (x4 : Int32) (h0 : Heap) (n0 : Nat) (v : Option Value) (h : Heap) (L : List Loc) : Prop := v = none ∧ Fr n0 L ∧ Keep h0 h [b6_countOf, b6_atLeast, a6_0] ∧ Arv Z h b6_countOf ky .int (4 : Int32) [(.int (y0 + (1 : Int32))), (.int (y1 - (1 : Int32))), (.int y2), (.int y3)] (.int (0 : Int32)) ∧ Arv Z h b6_atLeast kx .int na [(.int x0), (.int (x1 - (1 : Int32))), (.int x2), (.int x3), (.int x4)] (.int (0 : Int32)) ∧ Exa Z h a6_0 "gallai/service/ResidualDegrees" ∧ Fld Z h a6_0 "gallai/service/ResidualDegrees" "countOf" "[I" (.ref b6_countOf) ∧ Fld Z h a6_0 "gallai/service/ResidualDegrees" "atLeast" "[I" (.ref b6_atLeast) ∧ Fld Z h a6_0 "gallai/service/ResidualDegrees" "partnersOf" "[I" (.ref b6_partnersOf) ∧ Fld Z h a6_0 "gallai/service/ResidualDegrees" "saved" "[I" (.ref b6_saved) ∧ Fld Z h a6_0 "gallai/service/ResidualDegrees" "slack" "[J" (.ref b6_slack) ∧ Fld Z h a6_0 "gallai/service/ResidualDegrees" "nextTight" "[I" (.ref b6_nextTight) ∧ Fld Z h a6_0 "gallai/service/ResidualDegrees" "sum" "J" (.long (v6_sum - (1 : Int64))) ∧ Fld Z h a6_0 "gallai/service/ResidualDegrees" "largest" "I" (.int (w6L1d1_largest y1))
set_option maxRecDepth 65536 in
set_option maxHeartbeats 40000000 in
theorem rm6L1d1 (l : Launch) (Z : State) (a0 : Array Value) (hw : ∀ d ∈ tables_1, d.before a0 Z = true) (ws : List Jvm.Cond) (a6_0 : Addr) (b6_countOf : Addr) (b6_atLeast : Addr) (v6_sum : Int64) (b6_partnersOf : Addr) (b6_saved : Addr) (b6_slack : Addr) (b6_nextTight : Addr) (ky : ClassId) (y0 : Int32) (y1 : Int32) (y2 : Int32) (y3 : Int32) (kx : ClassId) (na : Int32) (x0 : Int32) (x1 : Int32) (x2 : Int32) (x3 : Int32) (x4 : Int32) (h0 : Heap) (n0 : Nat) (Z0 : n0 ≤ h0.size) (F_countOf_a6_0 : Fld Z h0 a6_0 "gallai/service/ResidualDegrees" "countOf" "[I" (.ref b6_countOf)) (F_atLeast_a6_0 : Fld Z h0 a6_0 "gallai/service/ResidualDegrees" "atLeast" "[I" (.ref b6_atLeast)) (F_sum_a6_0 : Fld Z h0 a6_0 "gallai/service/ResidualDegrees" "sum" "J" (.long v6_sum)) (F_largest_a6_0 : Fld Z h0 a6_0 "gallai/service/ResidualDegrees" "largest" "I" (.int 1)) (F_partnersOf_a6_0 : Fld Z h0 a6_0 "gallai/service/ResidualDegrees" "partnersOf" "[I" (.ref b6_partnersOf)) (F_saved_a6_0 : Fld Z h0 a6_0 "gallai/service/ResidualDegrees" "saved" "[I" (.ref b6_saved)) (F_slack_a6_0 : Fld Z h0 a6_0 "gallai/service/ResidualDegrees" "slack" "[J" (.ref b6_slack)) (F_nextTight_a6_0 : Fld Z h0 a6_0 "gallai/service/ResidualDegrees" "nextTight" "[I" (.ref b6_nextTight)) (E_a6_0 : Exa Z h0 a6_0 "gallai/service/ResidualDegrees") (V_b6_countOf : Arv Z h0 b6_countOf ky .int (4 : Int32) [(.int y0), (.int y1), (.int y2), (.int y3)] (.int (0 : Int32))) (V_b6_atLeast : Arv Z h0 b6_atLeast kx .int na [(.int x0), (.int x1), (.int x2), (.int x3), (.int x4)] (.int (0 : Int32))) (g_b6_countOf : n0 ≤ b6_countOf) (g_b6_atLeast : n0 ≤ b6_atLeast) (g_a6_0 : n0 ≤ a6_0) (ne_a6_0_b6_countOf : a6_0 ≠ b6_countOf) (ne_b6_atLeast_b6_countOf : b6_atLeast ≠ b6_countOf) (ne_a6_0_b6_atLeast : a6_0 ≠ b6_atLeast) (hna : (1 : Int32) < na) :
    MetFree l (⟨"gallai/service/ResidualDegrees", "lower", "(I)V"⟩ : MethodName) (head1 (Jvm.Cond.code (⟨"gallai/service/ResidualDegrees", "lower", "(I)V"⟩ : MethodName) prog_45_method_5_code 2 none :: ws) ({ frames := 0, cells := 0, slots := 0, locals := 0 } : Room)) (fun a U => a = #[(.ref a6_0), (.int 1)] ∧ Z.Warmed39 U.vm ∧ U.heap = h0) (fun _ _ _ _ _ => True) (fun _ U o U' => ∃ v L, o = .returned v ∧ Q6L1d1 Z a6_0 b6_countOf b6_atLeast v6_sum b6_partnersOf b6_saved b6_slack b6_nextTight ky y0 y1 y2 y3 kx na x0 x1 x2 x3 x4 h0 n0 v U'.heap L ∧ FrameEnd U o U' L ({ frames := 0, cells := 0, slots := 0, locals := 0 } : Room).cells ({ frames := 0, cells := 0, slots := 0, locals := 0 } : Room).slots) := by
  refine MetFree.of_bodySF (plainFor_of_name pn_gallai_service_ResidualDegrees) hisR ?_
  intro p e s m args below meth c s₁ Bd hml0 hP hK
  obtain ⟨rfl, hZ, hh⟩ := hP
  have hx := Bd.exec
  have hby := Bd.bytes
  have hlk := Bd.notSynchronized
  have hret := Bd.returns
  have hml : c.maxLocals = 2 := hml0
  have hown : s.vm.findClass "gallai/service/ResidualDegrees" = some m.cls := findClass_of_methodNamed Bd.named
  have hnm := (name_of_methodNamed Bd.named Bd.method).1
  have X0 : Stand p l e ({ frames := 0, cells := 0, slots := 0, locals := 0 } : Room) s m #[(.ref a6_0), (.int 1)] below meth c s₁ [] 0 0 := Stand.of_body Bd
  have e0 : s₁.heap = h0 := by rw [← hh, Bd.state]; rfl
  have N0 := Fr.nil n0
  have K0 : Keep h0 h0 [b6_countOf, b6_atLeast, a6_0] := Keep.refl _ _
  show own_G p e below s (Q6L1d1 Z a6_0 b6_countOf b6_atLeast v6_sum b6_partnersOf b6_saved b6_slack b6_nextTight ky y0 y1 y2 y3 kx na x0 x1 x2 x3 x4 h0 n0) ({ frames := 0, cells := 0, slots := 0, locals := 0 } : Room).cells ({ frames := 0, cells := 0, slots := 0, locals := 0 } : Room).slots s₁ (entryFrame m #[(.ref a6_0), (.int 1)] 2)
  have ww5 := hw _ (List.mem_of_getElem? (i := 5) rfl)
  have ww22 := hw _ (List.mem_of_getElem? (i := 22) rfl)
  have ww28 := hw _ (List.mem_of_getElem? (i := 28) rfl)
  have ww29 := hw _ (List.mem_of_getElem? (i := 29) rfl)
  have ww30 := hw _ (List.mem_of_getElem? (i := 30) rfl)
  have ww32 := hw _ (List.mem_of_getElem? (i := 32) rfl)
  have ww33 := hw _ (List.mem_of_getElem? (i := 33) rfl)
  refine own_cast (ef_6L1d1 m a6_0) ?_
  refine own_s (g' := (mkF m 1 #[.val (.ref a6_0), .val (.int 1)] [(.ref a6_0)])) (fun _ kz => XS.aloadN X0.here hx rfl (hb hby d6_0) rfl rfl kz) ?_
  obtain ⟨T408, X408, e408, st408⟩ := getF X0 hx hZ hown (host := "") (Or.inl ww22) Via.refl e0 F_countOf_a6_0 (g := (mkF m 1 #[.val (.ref a6_0), .val (.int 1)] [(.ref a6_0)])) rfl rfl (hb hby d6_1)
  refine own_s (g' := (mkF m 4 #[.val (.ref a6_0), .val (.int 1)] [(.ref b6_countOf)])) st408 ?_
  refine own_s (g' := (mkF m 5 #[.val (.ref a6_0), .val (.int 1)] [(.int 1), (.ref b6_countOf)])) (fun _ kz => XS.iloadN X408.here hx rfl (hb hby d6_4) rfl kz) ?_
  refine own_s (g' := (mkF m 6 #[.val (.ref a6_0), .val (.int 1)] [(.int 1), (.ref b6_countOf), (.int 1), (.ref b6_countOf)])) (fun _ kz => XT.dup2 X408.here hx rfl (hb hby d6_5) rfl rfl rfl kz) ?_
  obtain ⟨cl409, Ar409, -, S409, -, H409, -⟩ := id V_b6_countOf
  have in409 := inb_of S409 (j := (1 : Int32)) ⟨by decide, by decide⟩
  refine own_s (g' := (mkF m 7 #[.val (.ref a6_0), .val (.int 1)] [(.int y1), (.int 1), (.ref b6_countOf)])) (X408.iaload hx (j := (1 : Int32)) (v := (.int y1)) (by rw [e408]; exact Ar409.1) (State.isArrayOf_alike hZ.alike Ar409.2.1) Ar409.2.2 in409 (Has.at H409 in409 rfl) (g := (mkF m 6 #[.val (.ref a6_0), .val (.int 1)] [(.int 1), (.ref b6_countOf), (.int 1), (.ref b6_countOf)])) rfl rfl (hb hby d6_6)) ?_
  refine own_s (g' := (mkF m 8 #[.val (.ref a6_0), .val (.int 1)] [(.int 1), (.int y1), (.int 1), (.ref b6_countOf)])) (fun _ kz => XS.iconst X408.here hx rfl (hb hby d6_7) kz) ?_
  refine own_s (g' := (mkF m 9 #[.val (.ref a6_0), .val (.int 1)] [(.int (y1 - (1 : Int32))), (.int 1), (.ref b6_countOf)])) (fun _ kz => XS.isub X408.here hx rfl (hb hby d6_8) rfl kz) ?_
  obtain ⟨cl410, Ar410, q410, S410, M410, H410, G410⟩ := id V_b6_countOf
  obtain ⟨T410, h410, X410, e410, W410, st410⟩ := stI X408 hx hZ e408 Ar410 (j := (1 : Int32)) (inb_of S410 ⟨by decide, by decide⟩) (g := (mkF m 9 #[.val (.ref a6_0), .val (.int 1)] [(.int (y1 - (1 : Int32))), (.int 1), (.ref b6_countOf)])) rfl rfl (hb hby d6_9)
  have f411 : Arv Z h410 b6_countOf ky .int (4 : Int32) [(.int y0), (.int (y1 - (1 : Int32))), (.int y2), (.int y3)] (.int (0 : Int32)) := Arv.set Ar410 q410 S410 M410 H410 G410 rfl W410 1 rfl (Nat.le_of_ble_eq_true rfl)
  have K410 := K0.wr W410 (Or.inl (List.mem_of_getElem? (i := 0) rfl))
  have N410 := Fr.snoc X410 N0 g_b6_countOf
  refine own_s (g' := (mkF m 10 #[.val (.ref a6_0), .val (.int 1)] [])) st410 ?_
  refine own_s (g' := (mkF m 11 #[.val (.ref a6_0), .val (.int 1)] [(.ref a6_0)])) (fun _ kz => XS.aloadN X410.here hx rfl (hb hby d6_10) rfl rfl kz) ?_
  have f412 := (F_countOf_a6_0.other W410 (Or.inl ne_a6_0_b6_countOf))
  obtain ⟨T413, X413, e413, st413⟩ := getF X410 hx hZ hown (host := "") (Or.inl ww22) Via.refl e410 f412 (g := (mkF m 11 #[.val (.ref a6_0), .val (.int 1)] [(.ref a6_0)])) rfl rfl (hb hby d6_11)
  refine own_s (g' := (mkF m 14 #[.val (.ref a6_0), .val (.int 1)] [(.ref b6_countOf)])) st413 ?_
  refine own_s (g' := (mkF m 15 #[.val (.ref a6_0), .val (.int 1)] [(.int 1), (.ref b6_countOf)])) (fun _ kz => XS.iloadN X413.here hx rfl (hb hby d6_14) rfl kz) ?_
  refine own_s (g' := (mkF m 16 #[.val (.ref a6_0), .val (.int 1)] [(.int 1), (.int 1), (.ref b6_countOf)])) (fun _ kz => XS.iconst X413.here hx rfl (hb hby d6_15) kz) ?_
  refine own_s (g' := (mkF m 17 #[.val (.ref a6_0), .val (.int 1)] [(.int ((1 : Int32) - (1 : Int32))), (.ref b6_countOf)])) (fun _ kz => XS.isub X413.here hx rfl (hb hby d6_16) rfl kz) ?_
  rw [show ((1 : Int32) - (1 : Int32)) = (0 : Int32) from by decide]
  refine own_s (g' := (mkF m 18 #[.val (.ref a6_0), .val (.int 1)] [(.int 0), (.ref b6_countOf), (.int 0), (.ref b6_countOf)])) (fun _ kz => XT.dup2 X413.here hx rfl (hb hby d6_17) rfl rfl rfl kz) ?_
  obtain ⟨cl414, Ar414, -, S414, -, H414, -⟩ := id f411
  have in414 := inb_of S414 (j := (0 : Int32)) ⟨by decide, by decide⟩
  refine own_s (g' := (mkF m 19 #[.val (.ref a6_0), .val (.int 1)] [(.int y0), (.int 0), (.ref b6_countOf)])) (X413.iaload hx (j := (0 : Int32)) (v := (.int y0)) (by rw [e413]; exact Ar414.1) (State.isArrayOf_alike hZ.alike Ar414.2.1) Ar414.2.2 in414 (Has.at H414 in414 rfl) (g := (mkF m 18 #[.val (.ref a6_0), .val (.int 1)] [(.int 0), (.ref b6_countOf), (.int 0), (.ref b6_countOf)])) rfl rfl (hb hby d6_18)) ?_
  refine own_s (g' := (mkF m 20 #[.val (.ref a6_0), .val (.int 1)] [(.int 1), (.int y0), (.int 0), (.ref b6_countOf)])) (fun _ kz => XS.iconst X413.here hx rfl (hb hby d6_19) kz) ?_
  refine own_s (g' := (mkF m 21 #[.val (.ref a6_0), .val (.int 1)] [(.int (y0 + (1 : Int32))), (.int 0), (.ref b6_countOf)])) (fun _ kz => XS.iadd X413.here hx rfl (hb hby d6_20) rfl kz) ?_
  obtain ⟨cl415, Ar415, q415, S415, M415, H415, G415⟩ := id f411
  obtain ⟨T415, h415, X415, e415, W415, st415⟩ := stI X413 hx hZ e413 Ar415 (j := (0 : Int32)) (inb_of S415 ⟨by decide, by decide⟩) (g := (mkF m 21 #[.val (.ref a6_0), .val (.int 1)] [(.int (y0 + (1 : Int32))), (.int 0), (.ref b6_countOf)])) rfl rfl (hb hby d6_21)
  have f416 : Arv Z h415 b6_countOf ky .int (4 : Int32) [(.int (y0 + (1 : Int32))), (.int (y1 - (1 : Int32))), (.int y2), (.int y3)] (.int (0 : Int32)) := Arv.set Ar415 q415 S415 M415 H415 G415 rfl W415 0 rfl (Nat.le_of_ble_eq_true rfl)
  have K415 := K410.wr W415 (Or.inl (List.mem_of_getElem? (i := 0) rfl))
  have N415 := Fr.snoc X415 N410 g_b6_countOf
  refine own_s (g' := (mkF m 22 #[.val (.ref a6_0), .val (.int 1)] [])) st415 ?_
  refine own_s (g' := (mkF m 23 #[.val (.ref a6_0), .val (.int 1)] [(.ref a6_0)])) (fun _ kz => XS.aloadN X415.here hx rfl (hb hby d6_22) rfl rfl kz) ?_
  have f417 := ((F_atLeast_a6_0.other W410 (Or.inl ne_a6_0_b6_countOf)).other W415 (Or.inl ne_a6_0_b6_countOf))
  obtain ⟨T418, X418, e418, st418⟩ := getF X415 hx hZ hown (host := "") (Or.inl ww30) Via.refl e415 f417 (g := (mkF m 23 #[.val (.ref a6_0), .val (.int 1)] [(.ref a6_0)])) rfl rfl (hb hby d6_23)
  refine own_s (g' := (mkF m 26 #[.val (.ref a6_0), .val (.int 1)] [(.ref b6_atLeast)])) st418 ?_
  refine own_s (g' := (mkF m 27 #[.val (.ref a6_0), .val (.int 1)] [(.int 1), (.ref b6_atLeast)])) (fun _ kz => XS.iloadN X418.here hx rfl (hb hby d6_26) rfl kz) ?_
  refine own_s (g' := (mkF m 28 #[.val (.ref a6_0), .val (.int 1)] [(.int 1), (.ref b6_atLeast), (.int 1), (.ref b6_atLeast)])) (fun _ kz => XT.dup2 X418.here hx rfl (hb hby d6_27) rfl rfl rfl kz) ?_
  have f419 := ((V_b6_atLeast.other W410 ne_b6_atLeast_b6_countOf).other W415 ne_b6_atLeast_b6_countOf)
  obtain ⟨cl420, Ar420, -, S420, -, H420, -⟩ := id f419
  have in420 := inb_of S420 (j := (1 : Int32)) ⟨by decide, hna⟩
  refine own_s (g' := (mkF m 29 #[.val (.ref a6_0), .val (.int 1)] [(.int x1), (.int 1), (.ref b6_atLeast)])) (X418.iaload hx (j := (1 : Int32)) (v := (.int x1)) (by rw [e418]; exact Ar420.1) (State.isArrayOf_alike hZ.alike Ar420.2.1) Ar420.2.2 in420 (Has.at H420 in420 rfl) (g := (mkF m 28 #[.val (.ref a6_0), .val (.int 1)] [(.int 1), (.ref b6_atLeast), (.int 1), (.ref b6_atLeast)])) rfl rfl (hb hby d6_28)) ?_
  refine own_s (g' := (mkF m 30 #[.val (.ref a6_0), .val (.int 1)] [(.int 1), (.int x1), (.int 1), (.ref b6_atLeast)])) (fun _ kz => XS.iconst X418.here hx rfl (hb hby d6_29) kz) ?_
  refine own_s (g' := (mkF m 31 #[.val (.ref a6_0), .val (.int 1)] [(.int (x1 - (1 : Int32))), (.int 1), (.ref b6_atLeast)])) (fun _ kz => XS.isub X418.here hx rfl (hb hby d6_30) rfl kz) ?_
  obtain ⟨cl421, Ar421, q421, S421, M421, H421, G421⟩ := id f419
  obtain ⟨T421, h421, X421, e421, W421, st421⟩ := stI X418 hx hZ e418 Ar421 (j := (1 : Int32)) (inb_of S421 ⟨by decide, hna⟩) (g := (mkF m 31 #[.val (.ref a6_0), .val (.int 1)] [(.int (x1 - (1 : Int32))), (.int 1), (.ref b6_atLeast)])) rfl rfl (hb hby d6_31)
  have f422 : Arv Z h421 b6_atLeast kx .int na [(.int x0), (.int (x1 - (1 : Int32))), (.int x2), (.int x3), (.int x4)] (.int (0 : Int32)) := Arv.set Ar421 q421 S421 M421 H421 G421 rfl W421 1 rfl (Nat.le_of_ble_eq_true rfl)
  have K421 := K415.wr W421 (Or.inl (List.mem_of_getElem? (i := 1) rfl))
  have N421 := Fr.snoc X421 N415 g_b6_atLeast
  refine own_s (g' := (mkF m 32 #[.val (.ref a6_0), .val (.int 1)] [])) st421 ?_
  refine own_s (g' := (mkF m 33 #[.val (.ref a6_0), .val (.int 1)] [(.ref a6_0)])) (fun _ kz => XS.aloadN X421.here hx rfl (hb hby d6_32) rfl rfl kz) ?_
  refine own_s (g' := (mkF m 34 #[.val (.ref a6_0), .val (.int 1)] [(.ref a6_0), (.ref a6_0)])) (fun _ kz => XS.dup X421.here hx rfl (hb hby d6_33) rfl rfl kz) ?_
  have f423 := (((F_sum_a6_0.other W410 (Or.inl ne_a6_0_b6_countOf)).other W415 (Or.inl ne_a6_0_b6_countOf)).other W421 (Or.inl ne_a6_0_b6_atLeast))
  obtain ⟨T424, X424, e424, st424⟩ := getF X421 hx hZ hown (host := "") (Or.inl ww32) Via.refl e421 f423 (g := (mkF m 34 #[.val (.ref a6_0), .val (.int 1)] [(.ref a6_0), (.ref a6_0)])) rfl rfl (hb hby d6_34)
  refine own_s (g' := (mkF m 37 #[.val (.ref a6_0), .val (.int 1)] [(.long v6_sum), (.ref a6_0)])) st424 ?_
  refine own_s (g' := (mkF m 38 #[.val (.ref a6_0), .val (.int 1)] [(.long 1), (.long v6_sum), (.ref a6_0)])) (fun _ kz => XS.lconst X424.here hx rfl (hb hby d6_37) kz) ?_
  refine own_s (g' := (mkF m 39 #[.val (.ref a6_0), .val (.int 1)] [(.long (v6_sum - (1 : Int64))), (.ref a6_0)])) (fun _ kz => XS.lsub X424.here hx rfl (hb hby d6_38) rfl kz) ?_
  have f425 := (((E_a6_0.wr W410).wr W415).wr W421)
  obtain ⟨T426, h426, X426, e426, W426, st426⟩ := putF X424 hx hZ hown (host := "") (Or.inl ww32) Via.refl e424 f423 f425 (Or.inl ww33) ww5 (ty := .long) (by decide +kernel) rfl rfl (g := (mkF m 39 #[.val (.ref a6_0), .val (.int 1)] [(.long (v6_sum - (1 : Int64))), (.ref a6_0)])) rfl rfl (hb hby d6_39)
  have f427 := f423.same W426
  have K426 := K421.wr W426 (Or.inl (List.mem_of_getElem? (i := 2) rfl))
  have N426 := Fr.snoc X426 N421 g_a6_0
  refine own_s (g' := (mkF m 42 #[.val (.ref a6_0), .val (.int 1)] [])) st426 ?_
  refine own_s (g' := (mkF m 43 #[.val (.ref a6_0), .val (.int 1)] [(.ref a6_0)])) (fun _ kz => XS.aloadN X426.here hx rfl (hb hby d6_42) rfl rfl kz) ?_
  have f428 := ((((F_largest_a6_0.other W410 (Or.inl ne_a6_0_b6_countOf)).other W415 (Or.inl ne_a6_0_b6_countOf)).other W421 (Or.inl ne_a6_0_b6_atLeast)).other W426 (Or.inr (own_sn_29_33 hw)))
  obtain ⟨T429, X429, e429, st429⟩ := getF X426 hx hZ hown (host := "") (Or.inl ww28) Via.refl e426 f428 (g := (mkF m 43 #[.val (.ref a6_0), .val (.int 1)] [(.ref a6_0)])) rfl rfl (hb hby d6_43)
  refine own_s (g' := (mkF m 46 #[.val (.ref a6_0), .val (.int 1)] [(.int 1)])) st429 ?_
  refine own_s (g' := (mkF m 49 #[.val (.ref a6_0), .val (.int 1)] [])) (fun _ kz => XS.ifNo X429.here hx rfl (hb hby d6_46) rfl ((if0 _ _).trans (tlt ((by decide) : (0 : Int32) < (1 : Int32))).2.2.2) kz) ?_
  refine own_s (g' := (mkF m 50 #[.val (.ref a6_0), .val (.int 1)] [(.ref a6_0)])) (fun _ kz => XS.aloadN X429.here hx rfl (hb hby d6_49) rfl rfl kz) ?_
  have f430 := (((f412.other W415 (Or.inl ne_a6_0_b6_countOf)).other W421 (Or.inl ne_a6_0_b6_atLeast)).other W426 (Or.inr (own_sn_23_33 hw)))
  obtain ⟨T431, X431, e431, st431⟩ := getF X429 hx hZ hown (host := "") (Or.inl ww22) Via.refl e429 f430 (g := (mkF m 50 #[.val (.ref a6_0), .val (.int 1)] [(.ref a6_0)])) rfl rfl (hb hby d6_50)
  refine own_s (g' := (mkF m 53 #[.val (.ref a6_0), .val (.int 1)] [(.ref b6_countOf)])) st431 ?_
  refine own_s (g' := (mkF m 54 #[.val (.ref a6_0), .val (.int 1)] [(.ref a6_0), (.ref b6_countOf)])) (fun _ kz => XS.aloadN X431.here hx rfl (hb hby d6_53) rfl rfl kz) ?_
  obtain ⟨T432, X432, e432, st432⟩ := getF X431 hx hZ hown (host := "") (Or.inl ww28) Via.refl e431 f428 (g := (mkF m 54 #[.val (.ref a6_0), .val (.int 1)] [(.ref a6_0), (.ref b6_countOf)])) rfl rfl (hb hby d6_54)
  refine own_s (g' := (mkF m 57 #[.val (.ref a6_0), .val (.int 1)] [(.int 1), (.ref b6_countOf)])) st432 ?_
  have f433 := ((f416.other W421 (Ne.symm ne_b6_atLeast_b6_countOf)).other W426 (Ne.symm ne_a6_0_b6_countOf))
  obtain ⟨cl434, Ar434, -, S434, -, H434, -⟩ := id f433
  have in434 := inb_of S434 (j := (1 : Int32)) ⟨by decide, by decide⟩
  refine own_s (g' := (mkF m 58 #[.val (.ref a6_0), .val (.int 1)] [(.int (y1 - (1 : Int32)))])) (X432.iaload hx (j := (1 : Int32)) (v := (.int (y1 - (1 : Int32)))) (by rw [e432]; exact Ar434.1) (State.isArrayOf_alike hZ.alike Ar434.2.1) Ar434.2.2 in434 (Has.at H434 in434 rfl) (g := (mkF m 57 #[.val (.ref a6_0), .val (.int 1)] [(.int 1), (.ref b6_countOf)])) rfl rfl (hb hby d6_57)) ?_
  by_cases c435 : (y1 - (1 : Int32)) = (0 : Int32)
  ·skip
   refine own_s (g' := (mkF m 61 #[.val (.ref a6_0), .val (.int 1)] [])) (fun _ kz => XS.ifNo X432.here hx rfl (hb hby d6_58) rfl ((if0 _ _).trans (teq c435).2) kz) ?_
   refine own_s (g' := (mkF m 62 #[.val (.ref a6_0), .val (.int 1)] [(.ref a6_0)])) (fun _ kz => XS.aloadN X432.here hx rfl (hb hby d6_61) rfl rfl kz) ?_
   refine own_s (g' := (mkF m 63 #[.val (.ref a6_0), .val (.int 1)] [(.ref a6_0), (.ref a6_0)])) (fun _ kz => XS.dup X432.here hx rfl (hb hby d6_62) rfl rfl kz) ?_
   obtain ⟨T436, X436, e436, st436⟩ := getF X432 hx hZ hown (host := "") (Or.inl ww28) Via.refl e432 f428 (g := (mkF m 63 #[.val (.ref a6_0), .val (.int 1)] [(.ref a6_0), (.ref a6_0)])) rfl rfl (hb hby d6_63)
   refine own_s (g' := (mkF m 66 #[.val (.ref a6_0), .val (.int 1)] [(.int 1), (.ref a6_0)])) st436 ?_
   refine own_s (g' := (mkF m 67 #[.val (.ref a6_0), .val (.int 1)] [(.int 1), (.int 1), (.ref a6_0)])) (fun _ kz => XS.iconst X436.here hx rfl (hb hby d6_66) kz) ?_
   refine own_s (g' := (mkF m 68 #[.val (.ref a6_0), .val (.int 1)] [(.int ((1 : Int32) - (1 : Int32))), (.ref a6_0)])) (fun _ kz => XS.isub X436.here hx rfl (hb hby d6_67) rfl kz) ?_
   rw [show ((1 : Int32) - (1 : Int32)) = (0 : Int32) from by decide]
   have f437 := (f425.wr W426)
   obtain ⟨T438, h438, X438, e438, W438, st438⟩ := putF X436 hx hZ hown (host := "") (Or.inl ww28) Via.refl e436 f428 f437 (Or.inl ww29) ww5 (ty := .int) (by decide +kernel) rfl rfl (g := (mkF m 68 #[.val (.ref a6_0), .val (.int 1)] [(.int 0), (.ref a6_0)])) rfl rfl (hb hby d6_68)
   have f439 := f428.same W438
   have K438 := K426.wr W438 (Or.inl (List.mem_of_getElem? (i := 2) rfl))
   have N438 := Fr.snoc X438 N426 g_a6_0
   refine own_s (g' := (mkF m 71 #[.val (.ref a6_0), .val (.int 1)] [])) st438 ?_
   refine own_s (g' := (mkF m 42 #[.val (.ref a6_0), .val (.int 1)] [])) (fun _ kz => XS.goto X438.here hx rfl (pc0 := 71) (pc' := 42) rfl (hb hby d6_71) (by decide) (by decide) kz) ?_
   refine own_s (g' := (mkF m 43 #[.val (.ref a6_0), .val (.int 1)] [(.ref a6_0)])) (fun _ kz => XS.aloadN X438.here hx rfl (hb hby d6_42) rfl rfl kz) ?_
   obtain ⟨T440, X440, e440, st440⟩ := getF X438 hx hZ hown (host := "") (Or.inl ww28) Via.refl e438 f439 (g := (mkF m 43 #[.val (.ref a6_0), .val (.int 1)] [(.ref a6_0)])) rfl rfl (hb hby d6_43)
   refine own_s (g' := (mkF m 46 #[.val (.ref a6_0), .val (.int 1)] [(.int 0)])) st440 ?_
   refine own_s (g' := (mkF m 74 #[.val (.ref a6_0), .val (.int 1)] [])) (fun _ kz => XS.ifYes X440.here hx rfl (pc0 := 46) (pc' := 74) rfl (hb hby d6_46) rfl ((if0 _ _).trans (flt ((by decide) : ¬ (0 : Int32) < (0 : Int32))).2.2.2) (by decide) (by decide) kz) ?_
   have f441 := (f430.other W438 (Or.inr (own_sn_23_29 hw)))
   have f442 := (((f417.other W421 (Or.inl ne_a6_0_b6_atLeast)).other W426 (Or.inr (own_sn_31_33 hw))).other W438 (Or.inr (own_sn_31_29 hw)))
   have f443 := (((((F_partnersOf_a6_0.other W410 (Or.inl ne_a6_0_b6_countOf)).other W415 (Or.inl ne_a6_0_b6_countOf)).other W421 (Or.inl ne_a6_0_b6_atLeast)).other W426 (Or.inr (own_sn_35_33 hw))).other W438 (Or.inr (own_sn_35_29 hw)))
   have f444 := (((((F_saved_a6_0.other W410 (Or.inl ne_a6_0_b6_countOf)).other W415 (Or.inl ne_a6_0_b6_countOf)).other W421 (Or.inl ne_a6_0_b6_atLeast)).other W426 (Or.inr (own_sn_37_33 hw))).other W438 (Or.inr (own_sn_37_29 hw)))
   have f445 := (((((F_slack_a6_0.other W410 (Or.inl ne_a6_0_b6_countOf)).other W415 (Or.inl ne_a6_0_b6_countOf)).other W421 (Or.inl ne_a6_0_b6_atLeast)).other W426 (Or.inr (own_sn_47_33 hw))).other W438 (Or.inr (own_sn_47_29 hw)))
   have f446 := (((((F_nextTight_a6_0.other W410 (Or.inl ne_a6_0_b6_countOf)).other W415 (Or.inl ne_a6_0_b6_countOf)).other W421 (Or.inl ne_a6_0_b6_atLeast)).other W426 (Or.inr (own_sn_49_33 hw))).other W438 (Or.inr (own_sn_49_29 hw)))
   have f447 := (f437.wr W438)
   have f448 := (f433.other W438 (Ne.symm ne_a6_0_b6_countOf))
   have f449 := ((f422.other W426 (Ne.symm ne_a6_0_b6_atLeast)).other W438 (Ne.symm ne_a6_0_b6_atLeast))
   have f450 := (f427.other W438 (Or.inr (own_sn_33_29 hw)))
   refine own_retV X440 hx hlk hret (hb hby d6_74) (by decide) (by decide) ?_
   show Q6L1d1 Z a6_0 b6_countOf b6_atLeast v6_sum b6_partnersOf b6_saved b6_slack b6_nextTight ky y0 y1 y2 y3 kx na x0 x1 x2 x3 x4 h0 n0 _ T440.heap _
   rw [e440]
   exact ⟨rfl, N438, K438, f448, f449, f447, f441, f442, f443, f444, f445, f446, f450, (show Fld Z _ a6_0 "gallai/service/ResidualDegrees" "largest" "I" (.int (w6L1d1_largest y1)) from (by rw [show (w6L1d1_largest y1) = (0 : Int32) from (if_pos c435)]; exact f439))⟩
  ·skip
   refine own_s (g' := (mkF m 74 #[.val (.ref a6_0), .val (.int 1)] [])) (fun _ kz => XS.ifYes X432.here hx rfl (pc0 := 58) (pc' := 74) rfl (hb hby d6_58) rfl ((if0 _ _).trans (feq c435).2) (by decide) (by decide) kz) ?_
   have f451 := ((f417.other W421 (Or.inl ne_a6_0_b6_atLeast)).other W426 (Or.inr (own_sn_31_33 hw)))
   have f452 := ((((F_partnersOf_a6_0.other W410 (Or.inl ne_a6_0_b6_countOf)).other W415 (Or.inl ne_a6_0_b6_countOf)).other W421 (Or.inl ne_a6_0_b6_atLeast)).other W426 (Or.inr (own_sn_35_33 hw)))
   have f453 := ((((F_saved_a6_0.other W410 (Or.inl ne_a6_0_b6_countOf)).other W415 (Or.inl ne_a6_0_b6_countOf)).other W421 (Or.inl ne_a6_0_b6_atLeast)).other W426 (Or.inr (own_sn_37_33 hw)))
   have f454 := ((((F_slack_a6_0.other W410 (Or.inl ne_a6_0_b6_countOf)).other W415 (Or.inl ne_a6_0_b6_countOf)).other W421 (Or.inl ne_a6_0_b6_atLeast)).other W426 (Or.inr (own_sn_47_33 hw)))
   have f455 := ((((F_nextTight_a6_0.other W410 (Or.inl ne_a6_0_b6_countOf)).other W415 (Or.inl ne_a6_0_b6_countOf)).other W421 (Or.inl ne_a6_0_b6_atLeast)).other W426 (Or.inr (own_sn_49_33 hw)))
   have f456 := (f425.wr W426)
   have f457 := (f422.other W426 (Ne.symm ne_a6_0_b6_atLeast))
   refine own_retV X432 hx hlk hret (hb hby d6_74) (by decide) (by decide) ?_
   show Q6L1d1 Z a6_0 b6_countOf b6_atLeast v6_sum b6_partnersOf b6_saved b6_slack b6_nextTight ky y0 y1 y2 y3 kx na x0 x1 x2 x3 x4 h0 n0 _ T432.heap _
   rw [e432]
   exact ⟨rfl, N426, K426, f433, f457, f456, f430, f451, f452, f453, f454, f455, f427, (show Fld Z _ a6_0 "gallai/service/ResidualDegrees" "largest" "I" (.int (w6L1d1_largest y1)) from (by rw [show (w6L1d1_largest y1) = (1 : Int32) from (if_neg c435)]; exact f428))⟩
theorem ef_6L2d1 (m : MethodId) (a6_0 : Addr) : entryFrame m #[(.ref a6_0), (.int 1)] 2 = mkF m 0 #[.val (.ref a6_0), .val (.int 1)] [] := by first | (simp [entryFrame, mkF, argsToLocals, Value.category]; done) | rfl
def Q6L2d1 (Z : State) (a6_0 : Addr) (b6_countOf : Addr) (b6_atLeast : Addr) (v6_sum : Int64) (b6_partnersOf : Addr) (b6_saved : Addr) (b6_slack : Addr) (b6_nextTight : Addr) (ky : ClassId) (y0 : Int32) (y1 : Int32) (y2 : Int32) (y3 : Int32) (kx : ClassId) (na : Int32) (x0 : Int32) (x1 : Int32) (x2 : Int32) (x3 : Int32) (x4 : Int32) (h0 : Heap) (n0 : Nat) (v : Option Value) (h : Heap) (L : List Loc) : Prop := v = none ∧ Fr n0 L ∧ Keep h0 h [b6_countOf, b6_atLeast, a6_0] ∧ Arv Z h b6_countOf ky .int (4 : Int32) [(.int (y0 + (1 : Int32))), (.int (y1 - (1 : Int32))), (.int y2), (.int y3)] (.int (0 : Int32)) ∧ Arv Z h b6_atLeast kx .int na [(.int x0), (.int (x1 - (1 : Int32))), (.int x2), (.int x3), (.int x4)] (.int (0 : Int32)) ∧ Exa Z h a6_0 "gallai/service/ResidualDegrees" ∧ Fld Z h a6_0 "gallai/service/ResidualDegrees" "countOf" "[I" (.ref b6_countOf) ∧ Fld Z h a6_0 "gallai/service/ResidualDegrees" "atLeast" "[I" (.ref b6_atLeast) ∧ Fld Z h a6_0 "gallai/service/ResidualDegrees" "largest" "I" (.int 2) ∧ Fld Z h a6_0 "gallai/service/ResidualDegrees" "partnersOf" "[I" (.ref b6_partnersOf) ∧ Fld Z h a6_0 "gallai/service/ResidualDegrees" "saved" "[I" (.ref b6_saved) ∧ Fld Z h a6_0 "gallai/service/ResidualDegrees" "slack" "[J" (.ref b6_slack) ∧ Fld Z h a6_0 "gallai/service/ResidualDegrees" "nextTight" "[I" (.ref b6_nextTight) ∧ Fld Z h a6_0 "gallai/service/ResidualDegrees" "sum" "J" (.long (v6_sum - (1 : Int64)))
set_option maxRecDepth 65536 in
set_option maxHeartbeats 40000000 in
theorem rm6L2d1 (l : Launch) (Z : State) (a0 : Array Value) (hw : ∀ d ∈ tables_1, d.before a0 Z = true) (ws : List Jvm.Cond) (a6_0 : Addr) (b6_countOf : Addr) (b6_atLeast : Addr) (v6_sum : Int64) (b6_partnersOf : Addr) (b6_saved : Addr) (b6_slack : Addr) (b6_nextTight : Addr) (ky : ClassId) (y0 : Int32) (y1 : Int32) (y2 : Int32) (y3 : Int32) (kx : ClassId) (na : Int32) (x0 : Int32) (x1 : Int32) (x2 : Int32) (x3 : Int32) (x4 : Int32) (h0 : Heap) (n0 : Nat) (Z0 : n0 ≤ h0.size) (F_countOf_a6_0 : Fld Z h0 a6_0 "gallai/service/ResidualDegrees" "countOf" "[I" (.ref b6_countOf)) (F_atLeast_a6_0 : Fld Z h0 a6_0 "gallai/service/ResidualDegrees" "atLeast" "[I" (.ref b6_atLeast)) (F_sum_a6_0 : Fld Z h0 a6_0 "gallai/service/ResidualDegrees" "sum" "J" (.long v6_sum)) (F_largest_a6_0 : Fld Z h0 a6_0 "gallai/service/ResidualDegrees" "largest" "I" (.int 2)) (F_partnersOf_a6_0 : Fld Z h0 a6_0 "gallai/service/ResidualDegrees" "partnersOf" "[I" (.ref b6_partnersOf)) (F_saved_a6_0 : Fld Z h0 a6_0 "gallai/service/ResidualDegrees" "saved" "[I" (.ref b6_saved)) (F_slack_a6_0 : Fld Z h0 a6_0 "gallai/service/ResidualDegrees" "slack" "[J" (.ref b6_slack)) (F_nextTight_a6_0 : Fld Z h0 a6_0 "gallai/service/ResidualDegrees" "nextTight" "[I" (.ref b6_nextTight)) (E_a6_0 : Exa Z h0 a6_0 "gallai/service/ResidualDegrees") (V_b6_countOf : Arv Z h0 b6_countOf ky .int (4 : Int32) [(.int y0), (.int y1), (.int y2), (.int y3)] (.int (0 : Int32))) (V_b6_atLeast : Arv Z h0 b6_atLeast kx .int na [(.int x0), (.int x1), (.int x2), (.int x3), (.int x4)] (.int (0 : Int32))) (g_b6_countOf : n0 ≤ b6_countOf) (g_b6_atLeast : n0 ≤ b6_atLeast) (g_a6_0 : n0 ≤ a6_0) (ne_a6_0_b6_countOf : a6_0 ≠ b6_countOf) (ne_b6_atLeast_b6_countOf : b6_atLeast ≠ b6_countOf) (ne_a6_0_b6_atLeast : a6_0 ≠ b6_atLeast) (hA0 : ¬ y2 = (0 : Int32)) (hna : (1 : Int32) < na) :
    MetFree l (⟨"gallai/service/ResidualDegrees", "lower", "(I)V"⟩ : MethodName) (head1 (Jvm.Cond.code (⟨"gallai/service/ResidualDegrees", "lower", "(I)V"⟩ : MethodName) prog_45_method_5_code 2 none :: ws) ({ frames := 0, cells := 0, slots := 0, locals := 0 } : Room)) (fun a U => a = #[(.ref a6_0), (.int 1)] ∧ Z.Warmed39 U.vm ∧ U.heap = h0) (fun _ _ _ _ _ => True) (fun _ U o U' => ∃ v L, o = .returned v ∧ Q6L2d1 Z a6_0 b6_countOf b6_atLeast v6_sum b6_partnersOf b6_saved b6_slack b6_nextTight ky y0 y1 y2 y3 kx na x0 x1 x2 x3 x4 h0 n0 v U'.heap L ∧ FrameEnd U o U' L ({ frames := 0, cells := 0, slots := 0, locals := 0 } : Room).cells ({ frames := 0, cells := 0, slots := 0, locals := 0 } : Room).slots) := by
  refine MetFree.of_bodySF (plainFor_of_name pn_gallai_service_ResidualDegrees) hisR ?_
  intro p e s m args below meth c s₁ Bd hml0 hP hK
  obtain ⟨rfl, hZ, hh⟩ := hP
  have hx := Bd.exec
  have hby := Bd.bytes
  have hlk := Bd.notSynchronized
  have hret := Bd.returns
  have hml : c.maxLocals = 2 := hml0
  have hown : s.vm.findClass "gallai/service/ResidualDegrees" = some m.cls := findClass_of_methodNamed Bd.named
  have hnm := (name_of_methodNamed Bd.named Bd.method).1
  have X0 : Stand p l e ({ frames := 0, cells := 0, slots := 0, locals := 0 } : Room) s m #[(.ref a6_0), (.int 1)] below meth c s₁ [] 0 0 := Stand.of_body Bd
  have e0 : s₁.heap = h0 := by rw [← hh, Bd.state]; rfl
  have N0 := Fr.nil n0
  have K0 : Keep h0 h0 [b6_countOf, b6_atLeast, a6_0] := Keep.refl _ _
  show own_G p e below s (Q6L2d1 Z a6_0 b6_countOf b6_atLeast v6_sum b6_partnersOf b6_saved b6_slack b6_nextTight ky y0 y1 y2 y3 kx na x0 x1 x2 x3 x4 h0 n0) ({ frames := 0, cells := 0, slots := 0, locals := 0 } : Room).cells ({ frames := 0, cells := 0, slots := 0, locals := 0 } : Room).slots s₁ (entryFrame m #[(.ref a6_0), (.int 1)] 2)
  have ww5 := hw _ (List.mem_of_getElem? (i := 5) rfl)
  have ww22 := hw _ (List.mem_of_getElem? (i := 22) rfl)
  have ww28 := hw _ (List.mem_of_getElem? (i := 28) rfl)
  have ww30 := hw _ (List.mem_of_getElem? (i := 30) rfl)
  have ww32 := hw _ (List.mem_of_getElem? (i := 32) rfl)
  have ww33 := hw _ (List.mem_of_getElem? (i := 33) rfl)
  refine own_cast (ef_6L2d1 m a6_0) ?_
  refine own_s (g' := (mkF m 1 #[.val (.ref a6_0), .val (.int 1)] [(.ref a6_0)])) (fun _ kz => XS.aloadN X0.here hx rfl (hb hby d6_0) rfl rfl kz) ?_
  obtain ⟨T458, X458, e458, st458⟩ := getF X0 hx hZ hown (host := "") (Or.inl ww22) Via.refl e0 F_countOf_a6_0 (g := (mkF m 1 #[.val (.ref a6_0), .val (.int 1)] [(.ref a6_0)])) rfl rfl (hb hby d6_1)
  refine own_s (g' := (mkF m 4 #[.val (.ref a6_0), .val (.int 1)] [(.ref b6_countOf)])) st458 ?_
  refine own_s (g' := (mkF m 5 #[.val (.ref a6_0), .val (.int 1)] [(.int 1), (.ref b6_countOf)])) (fun _ kz => XS.iloadN X458.here hx rfl (hb hby d6_4) rfl kz) ?_
  refine own_s (g' := (mkF m 6 #[.val (.ref a6_0), .val (.int 1)] [(.int 1), (.ref b6_countOf), (.int 1), (.ref b6_countOf)])) (fun _ kz => XT.dup2 X458.here hx rfl (hb hby d6_5) rfl rfl rfl kz) ?_
  obtain ⟨cl459, Ar459, -, S459, -, H459, -⟩ := id V_b6_countOf
  have in459 := inb_of S459 (j := (1 : Int32)) ⟨by decide, by decide⟩
  refine own_s (g' := (mkF m 7 #[.val (.ref a6_0), .val (.int 1)] [(.int y1), (.int 1), (.ref b6_countOf)])) (X458.iaload hx (j := (1 : Int32)) (v := (.int y1)) (by rw [e458]; exact Ar459.1) (State.isArrayOf_alike hZ.alike Ar459.2.1) Ar459.2.2 in459 (Has.at H459 in459 rfl) (g := (mkF m 6 #[.val (.ref a6_0), .val (.int 1)] [(.int 1), (.ref b6_countOf), (.int 1), (.ref b6_countOf)])) rfl rfl (hb hby d6_6)) ?_
  refine own_s (g' := (mkF m 8 #[.val (.ref a6_0), .val (.int 1)] [(.int 1), (.int y1), (.int 1), (.ref b6_countOf)])) (fun _ kz => XS.iconst X458.here hx rfl (hb hby d6_7) kz) ?_
  refine own_s (g' := (mkF m 9 #[.val (.ref a6_0), .val (.int 1)] [(.int (y1 - (1 : Int32))), (.int 1), (.ref b6_countOf)])) (fun _ kz => XS.isub X458.here hx rfl (hb hby d6_8) rfl kz) ?_
  obtain ⟨cl460, Ar460, q460, S460, M460, H460, G460⟩ := id V_b6_countOf
  obtain ⟨T460, h460, X460, e460, W460, st460⟩ := stI X458 hx hZ e458 Ar460 (j := (1 : Int32)) (inb_of S460 ⟨by decide, by decide⟩) (g := (mkF m 9 #[.val (.ref a6_0), .val (.int 1)] [(.int (y1 - (1 : Int32))), (.int 1), (.ref b6_countOf)])) rfl rfl (hb hby d6_9)
  have f461 : Arv Z h460 b6_countOf ky .int (4 : Int32) [(.int y0), (.int (y1 - (1 : Int32))), (.int y2), (.int y3)] (.int (0 : Int32)) := Arv.set Ar460 q460 S460 M460 H460 G460 rfl W460 1 rfl (Nat.le_of_ble_eq_true rfl)
  have K460 := K0.wr W460 (Or.inl (List.mem_of_getElem? (i := 0) rfl))
  have N460 := Fr.snoc X460 N0 g_b6_countOf
  refine own_s (g' := (mkF m 10 #[.val (.ref a6_0), .val (.int 1)] [])) st460 ?_
  refine own_s (g' := (mkF m 11 #[.val (.ref a6_0), .val (.int 1)] [(.ref a6_0)])) (fun _ kz => XS.aloadN X460.here hx rfl (hb hby d6_10) rfl rfl kz) ?_
  have f462 := (F_countOf_a6_0.other W460 (Or.inl ne_a6_0_b6_countOf))
  obtain ⟨T463, X463, e463, st463⟩ := getF X460 hx hZ hown (host := "") (Or.inl ww22) Via.refl e460 f462 (g := (mkF m 11 #[.val (.ref a6_0), .val (.int 1)] [(.ref a6_0)])) rfl rfl (hb hby d6_11)
  refine own_s (g' := (mkF m 14 #[.val (.ref a6_0), .val (.int 1)] [(.ref b6_countOf)])) st463 ?_
  refine own_s (g' := (mkF m 15 #[.val (.ref a6_0), .val (.int 1)] [(.int 1), (.ref b6_countOf)])) (fun _ kz => XS.iloadN X463.here hx rfl (hb hby d6_14) rfl kz) ?_
  refine own_s (g' := (mkF m 16 #[.val (.ref a6_0), .val (.int 1)] [(.int 1), (.int 1), (.ref b6_countOf)])) (fun _ kz => XS.iconst X463.here hx rfl (hb hby d6_15) kz) ?_
  refine own_s (g' := (mkF m 17 #[.val (.ref a6_0), .val (.int 1)] [(.int ((1 : Int32) - (1 : Int32))), (.ref b6_countOf)])) (fun _ kz => XS.isub X463.here hx rfl (hb hby d6_16) rfl kz) ?_
  rw [show ((1 : Int32) - (1 : Int32)) = (0 : Int32) from by decide]
  refine own_s (g' := (mkF m 18 #[.val (.ref a6_0), .val (.int 1)] [(.int 0), (.ref b6_countOf), (.int 0), (.ref b6_countOf)])) (fun _ kz => XT.dup2 X463.here hx rfl (hb hby d6_17) rfl rfl rfl kz) ?_
  obtain ⟨cl464, Ar464, -, S464, -, H464, -⟩ := id f461
  have in464 := inb_of S464 (j := (0 : Int32)) ⟨by decide, by decide⟩
  refine own_s (g' := (mkF m 19 #[.val (.ref a6_0), .val (.int 1)] [(.int y0), (.int 0), (.ref b6_countOf)])) (X463.iaload hx (j := (0 : Int32)) (v := (.int y0)) (by rw [e463]; exact Ar464.1) (State.isArrayOf_alike hZ.alike Ar464.2.1) Ar464.2.2 in464 (Has.at H464 in464 rfl) (g := (mkF m 18 #[.val (.ref a6_0), .val (.int 1)] [(.int 0), (.ref b6_countOf), (.int 0), (.ref b6_countOf)])) rfl rfl (hb hby d6_18)) ?_
  refine own_s (g' := (mkF m 20 #[.val (.ref a6_0), .val (.int 1)] [(.int 1), (.int y0), (.int 0), (.ref b6_countOf)])) (fun _ kz => XS.iconst X463.here hx rfl (hb hby d6_19) kz) ?_
  refine own_s (g' := (mkF m 21 #[.val (.ref a6_0), .val (.int 1)] [(.int (y0 + (1 : Int32))), (.int 0), (.ref b6_countOf)])) (fun _ kz => XS.iadd X463.here hx rfl (hb hby d6_20) rfl kz) ?_
  obtain ⟨cl465, Ar465, q465, S465, M465, H465, G465⟩ := id f461
  obtain ⟨T465, h465, X465, e465, W465, st465⟩ := stI X463 hx hZ e463 Ar465 (j := (0 : Int32)) (inb_of S465 ⟨by decide, by decide⟩) (g := (mkF m 21 #[.val (.ref a6_0), .val (.int 1)] [(.int (y0 + (1 : Int32))), (.int 0), (.ref b6_countOf)])) rfl rfl (hb hby d6_21)
  have f466 : Arv Z h465 b6_countOf ky .int (4 : Int32) [(.int (y0 + (1 : Int32))), (.int (y1 - (1 : Int32))), (.int y2), (.int y3)] (.int (0 : Int32)) := Arv.set Ar465 q465 S465 M465 H465 G465 rfl W465 0 rfl (Nat.le_of_ble_eq_true rfl)
  have K465 := K460.wr W465 (Or.inl (List.mem_of_getElem? (i := 0) rfl))
  have N465 := Fr.snoc X465 N460 g_b6_countOf
  refine own_s (g' := (mkF m 22 #[.val (.ref a6_0), .val (.int 1)] [])) st465 ?_
  refine own_s (g' := (mkF m 23 #[.val (.ref a6_0), .val (.int 1)] [(.ref a6_0)])) (fun _ kz => XS.aloadN X465.here hx rfl (hb hby d6_22) rfl rfl kz) ?_
  have f467 := ((F_atLeast_a6_0.other W460 (Or.inl ne_a6_0_b6_countOf)).other W465 (Or.inl ne_a6_0_b6_countOf))
  obtain ⟨T468, X468, e468, st468⟩ := getF X465 hx hZ hown (host := "") (Or.inl ww30) Via.refl e465 f467 (g := (mkF m 23 #[.val (.ref a6_0), .val (.int 1)] [(.ref a6_0)])) rfl rfl (hb hby d6_23)
  refine own_s (g' := (mkF m 26 #[.val (.ref a6_0), .val (.int 1)] [(.ref b6_atLeast)])) st468 ?_
  refine own_s (g' := (mkF m 27 #[.val (.ref a6_0), .val (.int 1)] [(.int 1), (.ref b6_atLeast)])) (fun _ kz => XS.iloadN X468.here hx rfl (hb hby d6_26) rfl kz) ?_
  refine own_s (g' := (mkF m 28 #[.val (.ref a6_0), .val (.int 1)] [(.int 1), (.ref b6_atLeast), (.int 1), (.ref b6_atLeast)])) (fun _ kz => XT.dup2 X468.here hx rfl (hb hby d6_27) rfl rfl rfl kz) ?_
  have f469 := ((V_b6_atLeast.other W460 ne_b6_atLeast_b6_countOf).other W465 ne_b6_atLeast_b6_countOf)
  obtain ⟨cl470, Ar470, -, S470, -, H470, -⟩ := id f469
  have in470 := inb_of S470 (j := (1 : Int32)) ⟨by decide, hna⟩
  refine own_s (g' := (mkF m 29 #[.val (.ref a6_0), .val (.int 1)] [(.int x1), (.int 1), (.ref b6_atLeast)])) (X468.iaload hx (j := (1 : Int32)) (v := (.int x1)) (by rw [e468]; exact Ar470.1) (State.isArrayOf_alike hZ.alike Ar470.2.1) Ar470.2.2 in470 (Has.at H470 in470 rfl) (g := (mkF m 28 #[.val (.ref a6_0), .val (.int 1)] [(.int 1), (.ref b6_atLeast), (.int 1), (.ref b6_atLeast)])) rfl rfl (hb hby d6_28)) ?_
  refine own_s (g' := (mkF m 30 #[.val (.ref a6_0), .val (.int 1)] [(.int 1), (.int x1), (.int 1), (.ref b6_atLeast)])) (fun _ kz => XS.iconst X468.here hx rfl (hb hby d6_29) kz) ?_
  refine own_s (g' := (mkF m 31 #[.val (.ref a6_0), .val (.int 1)] [(.int (x1 - (1 : Int32))), (.int 1), (.ref b6_atLeast)])) (fun _ kz => XS.isub X468.here hx rfl (hb hby d6_30) rfl kz) ?_
  obtain ⟨cl471, Ar471, q471, S471, M471, H471, G471⟩ := id f469
  obtain ⟨T471, h471, X471, e471, W471, st471⟩ := stI X468 hx hZ e468 Ar471 (j := (1 : Int32)) (inb_of S471 ⟨by decide, hna⟩) (g := (mkF m 31 #[.val (.ref a6_0), .val (.int 1)] [(.int (x1 - (1 : Int32))), (.int 1), (.ref b6_atLeast)])) rfl rfl (hb hby d6_31)
  have f472 : Arv Z h471 b6_atLeast kx .int na [(.int x0), (.int (x1 - (1 : Int32))), (.int x2), (.int x3), (.int x4)] (.int (0 : Int32)) := Arv.set Ar471 q471 S471 M471 H471 G471 rfl W471 1 rfl (Nat.le_of_ble_eq_true rfl)
  have K471 := K465.wr W471 (Or.inl (List.mem_of_getElem? (i := 1) rfl))
  have N471 := Fr.snoc X471 N465 g_b6_atLeast
  refine own_s (g' := (mkF m 32 #[.val (.ref a6_0), .val (.int 1)] [])) st471 ?_
  refine own_s (g' := (mkF m 33 #[.val (.ref a6_0), .val (.int 1)] [(.ref a6_0)])) (fun _ kz => XS.aloadN X471.here hx rfl (hb hby d6_32) rfl rfl kz) ?_
  refine own_s (g' := (mkF m 34 #[.val (.ref a6_0), .val (.int 1)] [(.ref a6_0), (.ref a6_0)])) (fun _ kz => XS.dup X471.here hx rfl (hb hby d6_33) rfl rfl kz) ?_
  have f473 := (((F_sum_a6_0.other W460 (Or.inl ne_a6_0_b6_countOf)).other W465 (Or.inl ne_a6_0_b6_countOf)).other W471 (Or.inl ne_a6_0_b6_atLeast))
  obtain ⟨T474, X474, e474, st474⟩ := getF X471 hx hZ hown (host := "") (Or.inl ww32) Via.refl e471 f473 (g := (mkF m 34 #[.val (.ref a6_0), .val (.int 1)] [(.ref a6_0), (.ref a6_0)])) rfl rfl (hb hby d6_34)
  refine own_s (g' := (mkF m 37 #[.val (.ref a6_0), .val (.int 1)] [(.long v6_sum), (.ref a6_0)])) st474 ?_
  refine own_s (g' := (mkF m 38 #[.val (.ref a6_0), .val (.int 1)] [(.long 1), (.long v6_sum), (.ref a6_0)])) (fun _ kz => XS.lconst X474.here hx rfl (hb hby d6_37) kz) ?_
  refine own_s (g' := (mkF m 39 #[.val (.ref a6_0), .val (.int 1)] [(.long (v6_sum - (1 : Int64))), (.ref a6_0)])) (fun _ kz => XS.lsub X474.here hx rfl (hb hby d6_38) rfl kz) ?_
  have f475 := (((E_a6_0.wr W460).wr W465).wr W471)
  obtain ⟨T476, h476, X476, e476, W476, st476⟩ := putF X474 hx hZ hown (host := "") (Or.inl ww32) Via.refl e474 f473 f475 (Or.inl ww33) ww5 (ty := .long) (by decide +kernel) rfl rfl (g := (mkF m 39 #[.val (.ref a6_0), .val (.int 1)] [(.long (v6_sum - (1 : Int64))), (.ref a6_0)])) rfl rfl (hb hby d6_39)
  have f477 := f473.same W476
  have K476 := K471.wr W476 (Or.inl (List.mem_of_getElem? (i := 2) rfl))
  have N476 := Fr.snoc X476 N471 g_a6_0
  refine own_s (g' := (mkF m 42 #[.val (.ref a6_0), .val (.int 1)] [])) st476 ?_
  refine own_s (g' := (mkF m 43 #[.val (.ref a6_0), .val (.int 1)] [(.ref a6_0)])) (fun _ kz => XS.aloadN X476.here hx rfl (hb hby d6_42) rfl rfl kz) ?_
  have f478 := ((((F_largest_a6_0.other W460 (Or.inl ne_a6_0_b6_countOf)).other W465 (Or.inl ne_a6_0_b6_countOf)).other W471 (Or.inl ne_a6_0_b6_atLeast)).other W476 (Or.inr (own_sn_29_33 hw)))
  obtain ⟨T479, X479, e479, st479⟩ := getF X476 hx hZ hown (host := "") (Or.inl ww28) Via.refl e476 f478 (g := (mkF m 43 #[.val (.ref a6_0), .val (.int 1)] [(.ref a6_0)])) rfl rfl (hb hby d6_43)
  refine own_s (g' := (mkF m 46 #[.val (.ref a6_0), .val (.int 1)] [(.int 2)])) st479 ?_
  refine own_s (g' := (mkF m 49 #[.val (.ref a6_0), .val (.int 1)] [])) (fun _ kz => XS.ifNo X479.here hx rfl (hb hby d6_46) rfl ((if0 _ _).trans (tlt ((by decide) : (0 : Int32) < (2 : Int32))).2.2.2) kz) ?_
  refine own_s (g' := (mkF m 50 #[.val (.ref a6_0), .val (.int 1)] [(.ref a6_0)])) (fun _ kz => XS.aloadN X479.here hx rfl (hb hby d6_49) rfl rfl kz) ?_
  have f480 := (((f462.other W465 (Or.inl ne_a6_0_b6_countOf)).other W471 (Or.inl ne_a6_0_b6_atLeast)).other W476 (Or.inr (own_sn_23_33 hw)))
  obtain ⟨T481, X481, e481, st481⟩ := getF X479 hx hZ hown (host := "") (Or.inl ww22) Via.refl e479 f480 (g := (mkF m 50 #[.val (.ref a6_0), .val (.int 1)] [(.ref a6_0)])) rfl rfl (hb hby d6_50)
  refine own_s (g' := (mkF m 53 #[.val (.ref a6_0), .val (.int 1)] [(.ref b6_countOf)])) st481 ?_
  refine own_s (g' := (mkF m 54 #[.val (.ref a6_0), .val (.int 1)] [(.ref a6_0), (.ref b6_countOf)])) (fun _ kz => XS.aloadN X481.here hx rfl (hb hby d6_53) rfl rfl kz) ?_
  obtain ⟨T482, X482, e482, st482⟩ := getF X481 hx hZ hown (host := "") (Or.inl ww28) Via.refl e481 f478 (g := (mkF m 54 #[.val (.ref a6_0), .val (.int 1)] [(.ref a6_0), (.ref b6_countOf)])) rfl rfl (hb hby d6_54)
  refine own_s (g' := (mkF m 57 #[.val (.ref a6_0), .val (.int 1)] [(.int 2), (.ref b6_countOf)])) st482 ?_
  have f483 := ((f466.other W471 (Ne.symm ne_b6_atLeast_b6_countOf)).other W476 (Ne.symm ne_a6_0_b6_countOf))
  obtain ⟨cl484, Ar484, -, S484, -, H484, -⟩ := id f483
  have in484 := inb_of S484 (j := (2 : Int32)) ⟨by decide, by decide⟩
  refine own_s (g' := (mkF m 58 #[.val (.ref a6_0), .val (.int 1)] [(.int y2)])) (X482.iaload hx (j := (2 : Int32)) (v := (.int y2)) (by rw [e482]; exact Ar484.1) (State.isArrayOf_alike hZ.alike Ar484.2.1) Ar484.2.2 in484 (Has.at H484 in484 rfl) (g := (mkF m 57 #[.val (.ref a6_0), .val (.int 1)] [(.int 2), (.ref b6_countOf)])) rfl rfl (hb hby d6_57)) ?_
  refine own_s (g' := (mkF m 74 #[.val (.ref a6_0), .val (.int 1)] [])) (fun _ kz => XS.ifYes X482.here hx rfl (pc0 := 58) (pc' := 74) rfl (hb hby d6_58) rfl ((if0 _ _).trans (feq hA0).2) (by decide) (by decide) kz) ?_
  have f485 := ((f467.other W471 (Or.inl ne_a6_0_b6_atLeast)).other W476 (Or.inr (own_sn_31_33 hw)))
  have f486 := ((((F_partnersOf_a6_0.other W460 (Or.inl ne_a6_0_b6_countOf)).other W465 (Or.inl ne_a6_0_b6_countOf)).other W471 (Or.inl ne_a6_0_b6_atLeast)).other W476 (Or.inr (own_sn_35_33 hw)))
  have f487 := ((((F_saved_a6_0.other W460 (Or.inl ne_a6_0_b6_countOf)).other W465 (Or.inl ne_a6_0_b6_countOf)).other W471 (Or.inl ne_a6_0_b6_atLeast)).other W476 (Or.inr (own_sn_37_33 hw)))
  have f488 := ((((F_slack_a6_0.other W460 (Or.inl ne_a6_0_b6_countOf)).other W465 (Or.inl ne_a6_0_b6_countOf)).other W471 (Or.inl ne_a6_0_b6_atLeast)).other W476 (Or.inr (own_sn_47_33 hw)))
  have f489 := ((((F_nextTight_a6_0.other W460 (Or.inl ne_a6_0_b6_countOf)).other W465 (Or.inl ne_a6_0_b6_countOf)).other W471 (Or.inl ne_a6_0_b6_atLeast)).other W476 (Or.inr (own_sn_49_33 hw)))
  have f490 := (f475.wr W476)
  have f491 := (f472.other W476 (Ne.symm ne_a6_0_b6_atLeast))
  refine own_retV X482 hx hlk hret (hb hby d6_74) (by decide) (by decide) ?_
  show Q6L2d1 Z a6_0 b6_countOf b6_atLeast v6_sum b6_partnersOf b6_saved b6_slack b6_nextTight ky y0 y1 y2 y3 kx na x0 x1 x2 x3 x4 h0 n0 _ T482.heap _
  rw [e482]
  exact ⟨rfl, N476, K476, f483, f491, f490, f480, f485, f478, f486, f487, f488, f489, f477⟩
theorem ef_6L2d2 (m : MethodId) (a6_0 : Addr) : entryFrame m #[(.ref a6_0), (.int 2)] 2 = mkF m 0 #[.val (.ref a6_0), .val (.int 2)] [] := by first | (simp [entryFrame, mkF, argsToLocals, Value.category]; done) | rfl
def w6L2d2_largest (y2 : Int32) : Int32 := (if (y2 - (1 : Int32)) = (0 : Int32) then (1 : Int32) else (2 : Int32))
def Q6L2d2 (Z : State) (a6_0 : Addr) (b6_countOf : Addr) (b6_atLeast : Addr) (v6_sum : Int64) (b6_partnersOf : Addr) (b6_saved : Addr) (b6_slack : Addr) (b6_nextTight : Addr) (ky : ClassId) (y0 : Int32) (y1 : Int32) (y2 : Int32) (y3 : Int32) (kx : ClassId) (na : Int32) (x0 : Int32) (x1 : Int32) (x2 : Int32) (x3 : Int32) (x4 : Int32) (h0 : Heap) (n0 : Nat) (v : Option Value) (h : Heap) (L : List Loc) : Prop := v = none ∧ Fr n0 L ∧ Keep h0 h [b6_countOf, b6_atLeast, a6_0] ∧ Arv Z h b6_countOf ky .int (4 : Int32) [(.int y0), (.int (y1 + (1 : Int32))), (.int (y2 - (1 : Int32))), (.int y3)] (.int (0 : Int32)) ∧ Arv Z h b6_atLeast kx .int na [(.int x0), (.int x1), (.int (x2 - (1 : Int32))), (.int x3), (.int x4)] (.int (0 : Int32)) ∧ Exa Z h a6_0 "gallai/service/ResidualDegrees" ∧ Fld Z h a6_0 "gallai/service/ResidualDegrees" "countOf" "[I" (.ref b6_countOf) ∧ Fld Z h a6_0 "gallai/service/ResidualDegrees" "atLeast" "[I" (.ref b6_atLeast) ∧ Fld Z h a6_0 "gallai/service/ResidualDegrees" "partnersOf" "[I" (.ref b6_partnersOf) ∧ Fld Z h a6_0 "gallai/service/ResidualDegrees" "saved" "[I" (.ref b6_saved) ∧ Fld Z h a6_0 "gallai/service/ResidualDegrees" "slack" "[J" (.ref b6_slack) ∧ Fld Z h a6_0 "gallai/service/ResidualDegrees" "nextTight" "[I" (.ref b6_nextTight) ∧ Fld Z h a6_0 "gallai/service/ResidualDegrees" "sum" "J" (.long (v6_sum - (1 : Int64))) ∧ Fld Z h a6_0 "gallai/service/ResidualDegrees" "largest" "I" (.int (w6L2d2_largest y2))
set_option maxRecDepth 65536 in
set_option maxHeartbeats 40000000 in
theorem rm6L2d2 (l : Launch) (Z : State) (a0 : Array Value) (hw : ∀ d ∈ tables_1, d.before a0 Z = true) (ws : List Jvm.Cond) (a6_0 : Addr) (b6_countOf : Addr) (b6_atLeast : Addr) (v6_sum : Int64) (b6_partnersOf : Addr) (b6_saved : Addr) (b6_slack : Addr) (b6_nextTight : Addr) (ky : ClassId) (y0 : Int32) (y1 : Int32) (y2 : Int32) (y3 : Int32) (kx : ClassId) (na : Int32) (x0 : Int32) (x1 : Int32) (x2 : Int32) (x3 : Int32) (x4 : Int32) (h0 : Heap) (n0 : Nat) (Z0 : n0 ≤ h0.size) (F_countOf_a6_0 : Fld Z h0 a6_0 "gallai/service/ResidualDegrees" "countOf" "[I" (.ref b6_countOf)) (F_atLeast_a6_0 : Fld Z h0 a6_0 "gallai/service/ResidualDegrees" "atLeast" "[I" (.ref b6_atLeast)) (F_sum_a6_0 : Fld Z h0 a6_0 "gallai/service/ResidualDegrees" "sum" "J" (.long v6_sum)) (F_largest_a6_0 : Fld Z h0 a6_0 "gallai/service/ResidualDegrees" "largest" "I" (.int 2)) (F_partnersOf_a6_0 : Fld Z h0 a6_0 "gallai/service/ResidualDegrees" "partnersOf" "[I" (.ref b6_partnersOf)) (F_saved_a6_0 : Fld Z h0 a6_0 "gallai/service/ResidualDegrees" "saved" "[I" (.ref b6_saved)) (F_slack_a6_0 : Fld Z h0 a6_0 "gallai/service/ResidualDegrees" "slack" "[J" (.ref b6_slack)) (F_nextTight_a6_0 : Fld Z h0 a6_0 "gallai/service/ResidualDegrees" "nextTight" "[I" (.ref b6_nextTight)) (E_a6_0 : Exa Z h0 a6_0 "gallai/service/ResidualDegrees") (V_b6_countOf : Arv Z h0 b6_countOf ky .int (4 : Int32) [(.int y0), (.int y1), (.int y2), (.int y3)] (.int (0 : Int32))) (V_b6_atLeast : Arv Z h0 b6_atLeast kx .int na [(.int x0), (.int x1), (.int x2), (.int x3), (.int x4)] (.int (0 : Int32))) (g_b6_countOf : n0 ≤ b6_countOf) (g_b6_atLeast : n0 ≤ b6_atLeast) (g_a6_0 : n0 ≤ a6_0) (ne_a6_0_b6_countOf : a6_0 ≠ b6_countOf) (ne_b6_atLeast_b6_countOf : b6_atLeast ≠ b6_countOf) (ne_a6_0_b6_atLeast : a6_0 ≠ b6_atLeast) (hA0 : ¬ (y1 + (1 : Int32)) = (0 : Int32)) (hna : (2 : Int32) < na) :
    MetFree l (⟨"gallai/service/ResidualDegrees", "lower", "(I)V"⟩ : MethodName) (head1 (Jvm.Cond.code (⟨"gallai/service/ResidualDegrees", "lower", "(I)V"⟩ : MethodName) prog_45_method_5_code 2 none :: ws) ({ frames := 0, cells := 0, slots := 0, locals := 0 } : Room)) (fun a U => a = #[(.ref a6_0), (.int 2)] ∧ Z.Warmed39 U.vm ∧ U.heap = h0) (fun _ _ _ _ _ => True) (fun _ U o U' => ∃ v L, o = .returned v ∧ Q6L2d2 Z a6_0 b6_countOf b6_atLeast v6_sum b6_partnersOf b6_saved b6_slack b6_nextTight ky y0 y1 y2 y3 kx na x0 x1 x2 x3 x4 h0 n0 v U'.heap L ∧ FrameEnd U o U' L ({ frames := 0, cells := 0, slots := 0, locals := 0 } : Room).cells ({ frames := 0, cells := 0, slots := 0, locals := 0 } : Room).slots) := by
  refine MetFree.of_bodySF (plainFor_of_name pn_gallai_service_ResidualDegrees) hisR ?_
  intro p e s m args below meth c s₁ Bd hml0 hP hK
  obtain ⟨rfl, hZ, hh⟩ := hP
  have hx := Bd.exec
  have hby := Bd.bytes
  have hlk := Bd.notSynchronized
  have hret := Bd.returns
  have hml : c.maxLocals = 2 := hml0
  have hown : s.vm.findClass "gallai/service/ResidualDegrees" = some m.cls := findClass_of_methodNamed Bd.named
  have hnm := (name_of_methodNamed Bd.named Bd.method).1
  have X0 : Stand p l e ({ frames := 0, cells := 0, slots := 0, locals := 0 } : Room) s m #[(.ref a6_0), (.int 2)] below meth c s₁ [] 0 0 := Stand.of_body Bd
  have e0 : s₁.heap = h0 := by rw [← hh, Bd.state]; rfl
  have N0 := Fr.nil n0
  have K0 : Keep h0 h0 [b6_countOf, b6_atLeast, a6_0] := Keep.refl _ _
  show own_G p e below s (Q6L2d2 Z a6_0 b6_countOf b6_atLeast v6_sum b6_partnersOf b6_saved b6_slack b6_nextTight ky y0 y1 y2 y3 kx na x0 x1 x2 x3 x4 h0 n0) ({ frames := 0, cells := 0, slots := 0, locals := 0 } : Room).cells ({ frames := 0, cells := 0, slots := 0, locals := 0 } : Room).slots s₁ (entryFrame m #[(.ref a6_0), (.int 2)] 2)
  have ww5 := hw _ (List.mem_of_getElem? (i := 5) rfl)
  have ww22 := hw _ (List.mem_of_getElem? (i := 22) rfl)
  have ww28 := hw _ (List.mem_of_getElem? (i := 28) rfl)
  have ww29 := hw _ (List.mem_of_getElem? (i := 29) rfl)
  have ww30 := hw _ (List.mem_of_getElem? (i := 30) rfl)
  have ww32 := hw _ (List.mem_of_getElem? (i := 32) rfl)
  have ww33 := hw _ (List.mem_of_getElem? (i := 33) rfl)
  refine own_cast (ef_6L2d2 m a6_0) ?_
  refine own_s (g' := (mkF m 1 #[.val (.ref a6_0), .val (.int 2)] [(.ref a6_0)])) (fun _ kz => XS.aloadN X0.here hx rfl (hb hby d6_0) rfl rfl kz) ?_
  obtain ⟨T492, X492, e492, st492⟩ := getF X0 hx hZ hown (host := "") (Or.inl ww22) Via.refl e0 F_countOf_a6_0 (g := (mkF m 1 #[.val (.ref a6_0), .val (.int 2)] [(.ref a6_0)])) rfl rfl (hb hby d6_1)
  refine own_s (g' := (mkF m 4 #[.val (.ref a6_0), .val (.int 2)] [(.ref b6_countOf)])) st492 ?_
  refine own_s (g' := (mkF m 5 #[.val (.ref a6_0), .val (.int 2)] [(.int 2), (.ref b6_countOf)])) (fun _ kz => XS.iloadN X492.here hx rfl (hb hby d6_4) rfl kz) ?_
  refine own_s (g' := (mkF m 6 #[.val (.ref a6_0), .val (.int 2)] [(.int 2), (.ref b6_countOf), (.int 2), (.ref b6_countOf)])) (fun _ kz => XT.dup2 X492.here hx rfl (hb hby d6_5) rfl rfl rfl kz) ?_
  obtain ⟨cl493, Ar493, -, S493, -, H493, -⟩ := id V_b6_countOf
  have in493 := inb_of S493 (j := (2 : Int32)) ⟨by decide, by decide⟩
  refine own_s (g' := (mkF m 7 #[.val (.ref a6_0), .val (.int 2)] [(.int y2), (.int 2), (.ref b6_countOf)])) (X492.iaload hx (j := (2 : Int32)) (v := (.int y2)) (by rw [e492]; exact Ar493.1) (State.isArrayOf_alike hZ.alike Ar493.2.1) Ar493.2.2 in493 (Has.at H493 in493 rfl) (g := (mkF m 6 #[.val (.ref a6_0), .val (.int 2)] [(.int 2), (.ref b6_countOf), (.int 2), (.ref b6_countOf)])) rfl rfl (hb hby d6_6)) ?_
  refine own_s (g' := (mkF m 8 #[.val (.ref a6_0), .val (.int 2)] [(.int 1), (.int y2), (.int 2), (.ref b6_countOf)])) (fun _ kz => XS.iconst X492.here hx rfl (hb hby d6_7) kz) ?_
  refine own_s (g' := (mkF m 9 #[.val (.ref a6_0), .val (.int 2)] [(.int (y2 - (1 : Int32))), (.int 2), (.ref b6_countOf)])) (fun _ kz => XS.isub X492.here hx rfl (hb hby d6_8) rfl kz) ?_
  obtain ⟨cl494, Ar494, q494, S494, M494, H494, G494⟩ := id V_b6_countOf
  obtain ⟨T494, h494, X494, e494, W494, st494⟩ := stI X492 hx hZ e492 Ar494 (j := (2 : Int32)) (inb_of S494 ⟨by decide, by decide⟩) (g := (mkF m 9 #[.val (.ref a6_0), .val (.int 2)] [(.int (y2 - (1 : Int32))), (.int 2), (.ref b6_countOf)])) rfl rfl (hb hby d6_9)
  have f495 : Arv Z h494 b6_countOf ky .int (4 : Int32) [(.int y0), (.int y1), (.int (y2 - (1 : Int32))), (.int y3)] (.int (0 : Int32)) := Arv.set Ar494 q494 S494 M494 H494 G494 rfl W494 2 rfl (Nat.le_of_ble_eq_true rfl)
  have K494 := K0.wr W494 (Or.inl (List.mem_of_getElem? (i := 0) rfl))
  have N494 := Fr.snoc X494 N0 g_b6_countOf
  refine own_s (g' := (mkF m 10 #[.val (.ref a6_0), .val (.int 2)] [])) st494 ?_
  refine own_s (g' := (mkF m 11 #[.val (.ref a6_0), .val (.int 2)] [(.ref a6_0)])) (fun _ kz => XS.aloadN X494.here hx rfl (hb hby d6_10) rfl rfl kz) ?_
  have f496 := (F_countOf_a6_0.other W494 (Or.inl ne_a6_0_b6_countOf))
  obtain ⟨T497, X497, e497, st497⟩ := getF X494 hx hZ hown (host := "") (Or.inl ww22) Via.refl e494 f496 (g := (mkF m 11 #[.val (.ref a6_0), .val (.int 2)] [(.ref a6_0)])) rfl rfl (hb hby d6_11)
  refine own_s (g' := (mkF m 14 #[.val (.ref a6_0), .val (.int 2)] [(.ref b6_countOf)])) st497 ?_
  refine own_s (g' := (mkF m 15 #[.val (.ref a6_0), .val (.int 2)] [(.int 2), (.ref b6_countOf)])) (fun _ kz => XS.iloadN X497.here hx rfl (hb hby d6_14) rfl kz) ?_
  refine own_s (g' := (mkF m 16 #[.val (.ref a6_0), .val (.int 2)] [(.int 1), (.int 2), (.ref b6_countOf)])) (fun _ kz => XS.iconst X497.here hx rfl (hb hby d6_15) kz) ?_
  refine own_s (g' := (mkF m 17 #[.val (.ref a6_0), .val (.int 2)] [(.int ((2 : Int32) - (1 : Int32))), (.ref b6_countOf)])) (fun _ kz => XS.isub X497.here hx rfl (hb hby d6_16) rfl kz) ?_
  rw [show ((2 : Int32) - (1 : Int32)) = (1 : Int32) from by decide]
  refine own_s (g' := (mkF m 18 #[.val (.ref a6_0), .val (.int 2)] [(.int 1), (.ref b6_countOf), (.int 1), (.ref b6_countOf)])) (fun _ kz => XT.dup2 X497.here hx rfl (hb hby d6_17) rfl rfl rfl kz) ?_
  obtain ⟨cl498, Ar498, -, S498, -, H498, -⟩ := id f495
  have in498 := inb_of S498 (j := (1 : Int32)) ⟨by decide, by decide⟩
  refine own_s (g' := (mkF m 19 #[.val (.ref a6_0), .val (.int 2)] [(.int y1), (.int 1), (.ref b6_countOf)])) (X497.iaload hx (j := (1 : Int32)) (v := (.int y1)) (by rw [e497]; exact Ar498.1) (State.isArrayOf_alike hZ.alike Ar498.2.1) Ar498.2.2 in498 (Has.at H498 in498 rfl) (g := (mkF m 18 #[.val (.ref a6_0), .val (.int 2)] [(.int 1), (.ref b6_countOf), (.int 1), (.ref b6_countOf)])) rfl rfl (hb hby d6_18)) ?_
  refine own_s (g' := (mkF m 20 #[.val (.ref a6_0), .val (.int 2)] [(.int 1), (.int y1), (.int 1), (.ref b6_countOf)])) (fun _ kz => XS.iconst X497.here hx rfl (hb hby d6_19) kz) ?_
  refine own_s (g' := (mkF m 21 #[.val (.ref a6_0), .val (.int 2)] [(.int (y1 + (1 : Int32))), (.int 1), (.ref b6_countOf)])) (fun _ kz => XS.iadd X497.here hx rfl (hb hby d6_20) rfl kz) ?_
  obtain ⟨cl499, Ar499, q499, S499, M499, H499, G499⟩ := id f495
  obtain ⟨T499, h499, X499, e499, W499, st499⟩ := stI X497 hx hZ e497 Ar499 (j := (1 : Int32)) (inb_of S499 ⟨by decide, by decide⟩) (g := (mkF m 21 #[.val (.ref a6_0), .val (.int 2)] [(.int (y1 + (1 : Int32))), (.int 1), (.ref b6_countOf)])) rfl rfl (hb hby d6_21)
  have f500 : Arv Z h499 b6_countOf ky .int (4 : Int32) [(.int y0), (.int (y1 + (1 : Int32))), (.int (y2 - (1 : Int32))), (.int y3)] (.int (0 : Int32)) := Arv.set Ar499 q499 S499 M499 H499 G499 rfl W499 1 rfl (Nat.le_of_ble_eq_true rfl)
  have K499 := K494.wr W499 (Or.inl (List.mem_of_getElem? (i := 0) rfl))
  have N499 := Fr.snoc X499 N494 g_b6_countOf
  refine own_s (g' := (mkF m 22 #[.val (.ref a6_0), .val (.int 2)] [])) st499 ?_
  refine own_s (g' := (mkF m 23 #[.val (.ref a6_0), .val (.int 2)] [(.ref a6_0)])) (fun _ kz => XS.aloadN X499.here hx rfl (hb hby d6_22) rfl rfl kz) ?_
  have f501 := ((F_atLeast_a6_0.other W494 (Or.inl ne_a6_0_b6_countOf)).other W499 (Or.inl ne_a6_0_b6_countOf))
  obtain ⟨T502, X502, e502, st502⟩ := getF X499 hx hZ hown (host := "") (Or.inl ww30) Via.refl e499 f501 (g := (mkF m 23 #[.val (.ref a6_0), .val (.int 2)] [(.ref a6_0)])) rfl rfl (hb hby d6_23)
  refine own_s (g' := (mkF m 26 #[.val (.ref a6_0), .val (.int 2)] [(.ref b6_atLeast)])) st502 ?_
  refine own_s (g' := (mkF m 27 #[.val (.ref a6_0), .val (.int 2)] [(.int 2), (.ref b6_atLeast)])) (fun _ kz => XS.iloadN X502.here hx rfl (hb hby d6_26) rfl kz) ?_
  refine own_s (g' := (mkF m 28 #[.val (.ref a6_0), .val (.int 2)] [(.int 2), (.ref b6_atLeast), (.int 2), (.ref b6_atLeast)])) (fun _ kz => XT.dup2 X502.here hx rfl (hb hby d6_27) rfl rfl rfl kz) ?_
  have f503 := ((V_b6_atLeast.other W494 ne_b6_atLeast_b6_countOf).other W499 ne_b6_atLeast_b6_countOf)
  obtain ⟨cl504, Ar504, -, S504, -, H504, -⟩ := id f503
  have in504 := inb_of S504 (j := (2 : Int32)) ⟨by decide, hna⟩
  refine own_s (g' := (mkF m 29 #[.val (.ref a6_0), .val (.int 2)] [(.int x2), (.int 2), (.ref b6_atLeast)])) (X502.iaload hx (j := (2 : Int32)) (v := (.int x2)) (by rw [e502]; exact Ar504.1) (State.isArrayOf_alike hZ.alike Ar504.2.1) Ar504.2.2 in504 (Has.at H504 in504 rfl) (g := (mkF m 28 #[.val (.ref a6_0), .val (.int 2)] [(.int 2), (.ref b6_atLeast), (.int 2), (.ref b6_atLeast)])) rfl rfl (hb hby d6_28)) ?_
  refine own_s (g' := (mkF m 30 #[.val (.ref a6_0), .val (.int 2)] [(.int 1), (.int x2), (.int 2), (.ref b6_atLeast)])) (fun _ kz => XS.iconst X502.here hx rfl (hb hby d6_29) kz) ?_
  refine own_s (g' := (mkF m 31 #[.val (.ref a6_0), .val (.int 2)] [(.int (x2 - (1 : Int32))), (.int 2), (.ref b6_atLeast)])) (fun _ kz => XS.isub X502.here hx rfl (hb hby d6_30) rfl kz) ?_
  obtain ⟨cl505, Ar505, q505, S505, M505, H505, G505⟩ := id f503
  obtain ⟨T505, h505, X505, e505, W505, st505⟩ := stI X502 hx hZ e502 Ar505 (j := (2 : Int32)) (inb_of S505 ⟨by decide, hna⟩) (g := (mkF m 31 #[.val (.ref a6_0), .val (.int 2)] [(.int (x2 - (1 : Int32))), (.int 2), (.ref b6_atLeast)])) rfl rfl (hb hby d6_31)
  have f506 : Arv Z h505 b6_atLeast kx .int na [(.int x0), (.int x1), (.int (x2 - (1 : Int32))), (.int x3), (.int x4)] (.int (0 : Int32)) := Arv.set Ar505 q505 S505 M505 H505 G505 rfl W505 2 rfl (Nat.le_of_ble_eq_true rfl)
  have K505 := K499.wr W505 (Or.inl (List.mem_of_getElem? (i := 1) rfl))
  have N505 := Fr.snoc X505 N499 g_b6_atLeast
  refine own_s (g' := (mkF m 32 #[.val (.ref a6_0), .val (.int 2)] [])) st505 ?_
  refine own_s (g' := (mkF m 33 #[.val (.ref a6_0), .val (.int 2)] [(.ref a6_0)])) (fun _ kz => XS.aloadN X505.here hx rfl (hb hby d6_32) rfl rfl kz) ?_
  refine own_s (g' := (mkF m 34 #[.val (.ref a6_0), .val (.int 2)] [(.ref a6_0), (.ref a6_0)])) (fun _ kz => XS.dup X505.here hx rfl (hb hby d6_33) rfl rfl kz) ?_
  have f507 := (((F_sum_a6_0.other W494 (Or.inl ne_a6_0_b6_countOf)).other W499 (Or.inl ne_a6_0_b6_countOf)).other W505 (Or.inl ne_a6_0_b6_atLeast))
  obtain ⟨T508, X508, e508, st508⟩ := getF X505 hx hZ hown (host := "") (Or.inl ww32) Via.refl e505 f507 (g := (mkF m 34 #[.val (.ref a6_0), .val (.int 2)] [(.ref a6_0), (.ref a6_0)])) rfl rfl (hb hby d6_34)
  refine own_s (g' := (mkF m 37 #[.val (.ref a6_0), .val (.int 2)] [(.long v6_sum), (.ref a6_0)])) st508 ?_
  refine own_s (g' := (mkF m 38 #[.val (.ref a6_0), .val (.int 2)] [(.long 1), (.long v6_sum), (.ref a6_0)])) (fun _ kz => XS.lconst X508.here hx rfl (hb hby d6_37) kz) ?_
  refine own_s (g' := (mkF m 39 #[.val (.ref a6_0), .val (.int 2)] [(.long (v6_sum - (1 : Int64))), (.ref a6_0)])) (fun _ kz => XS.lsub X508.here hx rfl (hb hby d6_38) rfl kz) ?_
  have f509 := (((E_a6_0.wr W494).wr W499).wr W505)
  obtain ⟨T510, h510, X510, e510, W510, st510⟩ := putF X508 hx hZ hown (host := "") (Or.inl ww32) Via.refl e508 f507 f509 (Or.inl ww33) ww5 (ty := .long) (by decide +kernel) rfl rfl (g := (mkF m 39 #[.val (.ref a6_0), .val (.int 2)] [(.long (v6_sum - (1 : Int64))), (.ref a6_0)])) rfl rfl (hb hby d6_39)
  have f511 := f507.same W510
  have K510 := K505.wr W510 (Or.inl (List.mem_of_getElem? (i := 2) rfl))
  have N510 := Fr.snoc X510 N505 g_a6_0
  refine own_s (g' := (mkF m 42 #[.val (.ref a6_0), .val (.int 2)] [])) st510 ?_
  refine own_s (g' := (mkF m 43 #[.val (.ref a6_0), .val (.int 2)] [(.ref a6_0)])) (fun _ kz => XS.aloadN X510.here hx rfl (hb hby d6_42) rfl rfl kz) ?_
  have f512 := ((((F_largest_a6_0.other W494 (Or.inl ne_a6_0_b6_countOf)).other W499 (Or.inl ne_a6_0_b6_countOf)).other W505 (Or.inl ne_a6_0_b6_atLeast)).other W510 (Or.inr (own_sn_29_33 hw)))
  obtain ⟨T513, X513, e513, st513⟩ := getF X510 hx hZ hown (host := "") (Or.inl ww28) Via.refl e510 f512 (g := (mkF m 43 #[.val (.ref a6_0), .val (.int 2)] [(.ref a6_0)])) rfl rfl (hb hby d6_43)
  refine own_s (g' := (mkF m 46 #[.val (.ref a6_0), .val (.int 2)] [(.int 2)])) st513 ?_
  refine own_s (g' := (mkF m 49 #[.val (.ref a6_0), .val (.int 2)] [])) (fun _ kz => XS.ifNo X513.here hx rfl (hb hby d6_46) rfl ((if0 _ _).trans (tlt ((by decide) : (0 : Int32) < (2 : Int32))).2.2.2) kz) ?_
  refine own_s (g' := (mkF m 50 #[.val (.ref a6_0), .val (.int 2)] [(.ref a6_0)])) (fun _ kz => XS.aloadN X513.here hx rfl (hb hby d6_49) rfl rfl kz) ?_
  have f514 := (((f496.other W499 (Or.inl ne_a6_0_b6_countOf)).other W505 (Or.inl ne_a6_0_b6_atLeast)).other W510 (Or.inr (own_sn_23_33 hw)))
  obtain ⟨T515, X515, e515, st515⟩ := getF X513 hx hZ hown (host := "") (Or.inl ww22) Via.refl e513 f514 (g := (mkF m 50 #[.val (.ref a6_0), .val (.int 2)] [(.ref a6_0)])) rfl rfl (hb hby d6_50)
  refine own_s (g' := (mkF m 53 #[.val (.ref a6_0), .val (.int 2)] [(.ref b6_countOf)])) st515 ?_
  refine own_s (g' := (mkF m 54 #[.val (.ref a6_0), .val (.int 2)] [(.ref a6_0), (.ref b6_countOf)])) (fun _ kz => XS.aloadN X515.here hx rfl (hb hby d6_53) rfl rfl kz) ?_
  obtain ⟨T516, X516, e516, st516⟩ := getF X515 hx hZ hown (host := "") (Or.inl ww28) Via.refl e515 f512 (g := (mkF m 54 #[.val (.ref a6_0), .val (.int 2)] [(.ref a6_0), (.ref b6_countOf)])) rfl rfl (hb hby d6_54)
  refine own_s (g' := (mkF m 57 #[.val (.ref a6_0), .val (.int 2)] [(.int 2), (.ref b6_countOf)])) st516 ?_
  have f517 := ((f500.other W505 (Ne.symm ne_b6_atLeast_b6_countOf)).other W510 (Ne.symm ne_a6_0_b6_countOf))
  obtain ⟨cl518, Ar518, -, S518, -, H518, -⟩ := id f517
  have in518 := inb_of S518 (j := (2 : Int32)) ⟨by decide, by decide⟩
  refine own_s (g' := (mkF m 58 #[.val (.ref a6_0), .val (.int 2)] [(.int (y2 - (1 : Int32)))])) (X516.iaload hx (j := (2 : Int32)) (v := (.int (y2 - (1 : Int32)))) (by rw [e516]; exact Ar518.1) (State.isArrayOf_alike hZ.alike Ar518.2.1) Ar518.2.2 in518 (Has.at H518 in518 rfl) (g := (mkF m 57 #[.val (.ref a6_0), .val (.int 2)] [(.int 2), (.ref b6_countOf)])) rfl rfl (hb hby d6_57)) ?_
  by_cases c519 : (y2 - (1 : Int32)) = (0 : Int32)
  ·skip
   refine own_s (g' := (mkF m 61 #[.val (.ref a6_0), .val (.int 2)] [])) (fun _ kz => XS.ifNo X516.here hx rfl (hb hby d6_58) rfl ((if0 _ _).trans (teq c519).2) kz) ?_
   refine own_s (g' := (mkF m 62 #[.val (.ref a6_0), .val (.int 2)] [(.ref a6_0)])) (fun _ kz => XS.aloadN X516.here hx rfl (hb hby d6_61) rfl rfl kz) ?_
   refine own_s (g' := (mkF m 63 #[.val (.ref a6_0), .val (.int 2)] [(.ref a6_0), (.ref a6_0)])) (fun _ kz => XS.dup X516.here hx rfl (hb hby d6_62) rfl rfl kz) ?_
   obtain ⟨T520, X520, e520, st520⟩ := getF X516 hx hZ hown (host := "") (Or.inl ww28) Via.refl e516 f512 (g := (mkF m 63 #[.val (.ref a6_0), .val (.int 2)] [(.ref a6_0), (.ref a6_0)])) rfl rfl (hb hby d6_63)
   refine own_s (g' := (mkF m 66 #[.val (.ref a6_0), .val (.int 2)] [(.int 2), (.ref a6_0)])) st520 ?_
   refine own_s (g' := (mkF m 67 #[.val (.ref a6_0), .val (.int 2)] [(.int 1), (.int 2), (.ref a6_0)])) (fun _ kz => XS.iconst X520.here hx rfl (hb hby d6_66) kz) ?_
   refine own_s (g' := (mkF m 68 #[.val (.ref a6_0), .val (.int 2)] [(.int ((2 : Int32) - (1 : Int32))), (.ref a6_0)])) (fun _ kz => XS.isub X520.here hx rfl (hb hby d6_67) rfl kz) ?_
   rw [show ((2 : Int32) - (1 : Int32)) = (1 : Int32) from by decide]
   have f521 := (f509.wr W510)
   obtain ⟨T522, h522, X522, e522, W522, st522⟩ := putF X520 hx hZ hown (host := "") (Or.inl ww28) Via.refl e520 f512 f521 (Or.inl ww29) ww5 (ty := .int) (by decide +kernel) rfl rfl (g := (mkF m 68 #[.val (.ref a6_0), .val (.int 2)] [(.int 1), (.ref a6_0)])) rfl rfl (hb hby d6_68)
   have f523 := f512.same W522
   have K522 := K510.wr W522 (Or.inl (List.mem_of_getElem? (i := 2) rfl))
   have N522 := Fr.snoc X522 N510 g_a6_0
   refine own_s (g' := (mkF m 71 #[.val (.ref a6_0), .val (.int 2)] [])) st522 ?_
   refine own_s (g' := (mkF m 42 #[.val (.ref a6_0), .val (.int 2)] [])) (fun _ kz => XS.goto X522.here hx rfl (pc0 := 71) (pc' := 42) rfl (hb hby d6_71) (by decide) (by decide) kz) ?_
   refine own_s (g' := (mkF m 43 #[.val (.ref a6_0), .val (.int 2)] [(.ref a6_0)])) (fun _ kz => XS.aloadN X522.here hx rfl (hb hby d6_42) rfl rfl kz) ?_
   obtain ⟨T524, X524, e524, st524⟩ := getF X522 hx hZ hown (host := "") (Or.inl ww28) Via.refl e522 f523 (g := (mkF m 43 #[.val (.ref a6_0), .val (.int 2)] [(.ref a6_0)])) rfl rfl (hb hby d6_43)
   refine own_s (g' := (mkF m 46 #[.val (.ref a6_0), .val (.int 2)] [(.int 1)])) st524 ?_
   refine own_s (g' := (mkF m 49 #[.val (.ref a6_0), .val (.int 2)] [])) (fun _ kz => XS.ifNo X524.here hx rfl (hb hby d6_46) rfl ((if0 _ _).trans (tlt ((by decide) : (0 : Int32) < (1 : Int32))).2.2.2) kz) ?_
   refine own_s (g' := (mkF m 50 #[.val (.ref a6_0), .val (.int 2)] [(.ref a6_0)])) (fun _ kz => XS.aloadN X524.here hx rfl (hb hby d6_49) rfl rfl kz) ?_
   have f525 := (f514.other W522 (Or.inr (own_sn_23_29 hw)))
   obtain ⟨T526, X526, e526, st526⟩ := getF X524 hx hZ hown (host := "") (Or.inl ww22) Via.refl e524 f525 (g := (mkF m 50 #[.val (.ref a6_0), .val (.int 2)] [(.ref a6_0)])) rfl rfl (hb hby d6_50)
   refine own_s (g' := (mkF m 53 #[.val (.ref a6_0), .val (.int 2)] [(.ref b6_countOf)])) st526 ?_
   refine own_s (g' := (mkF m 54 #[.val (.ref a6_0), .val (.int 2)] [(.ref a6_0), (.ref b6_countOf)])) (fun _ kz => XS.aloadN X526.here hx rfl (hb hby d6_53) rfl rfl kz) ?_
   obtain ⟨T527, X527, e527, st527⟩ := getF X526 hx hZ hown (host := "") (Or.inl ww28) Via.refl e526 f523 (g := (mkF m 54 #[.val (.ref a6_0), .val (.int 2)] [(.ref a6_0), (.ref b6_countOf)])) rfl rfl (hb hby d6_54)
   refine own_s (g' := (mkF m 57 #[.val (.ref a6_0), .val (.int 2)] [(.int 1), (.ref b6_countOf)])) st527 ?_
   have f528 := (f517.other W522 (Ne.symm ne_a6_0_b6_countOf))
   obtain ⟨cl529, Ar529, -, S529, -, H529, -⟩ := id f528
   have in529 := inb_of S529 (j := (1 : Int32)) ⟨by decide, by decide⟩
   refine own_s (g' := (mkF m 58 #[.val (.ref a6_0), .val (.int 2)] [(.int (y1 + (1 : Int32)))])) (X527.iaload hx (j := (1 : Int32)) (v := (.int (y1 + (1 : Int32)))) (by rw [e527]; exact Ar529.1) (State.isArrayOf_alike hZ.alike Ar529.2.1) Ar529.2.2 in529 (Has.at H529 in529 rfl) (g := (mkF m 57 #[.val (.ref a6_0), .val (.int 2)] [(.int 1), (.ref b6_countOf)])) rfl rfl (hb hby d6_57)) ?_
   refine own_s (g' := (mkF m 74 #[.val (.ref a6_0), .val (.int 2)] [])) (fun _ kz => XS.ifYes X527.here hx rfl (pc0 := 58) (pc' := 74) rfl (hb hby d6_58) rfl ((if0 _ _).trans (feq hA0).2) (by decide) (by decide) kz) ?_
   have f530 := (((f501.other W505 (Or.inl ne_a6_0_b6_atLeast)).other W510 (Or.inr (own_sn_31_33 hw))).other W522 (Or.inr (own_sn_31_29 hw)))
   have f531 := (((((F_partnersOf_a6_0.other W494 (Or.inl ne_a6_0_b6_countOf)).other W499 (Or.inl ne_a6_0_b6_countOf)).other W505 (Or.inl ne_a6_0_b6_atLeast)).other W510 (Or.inr (own_sn_35_33 hw))).other W522 (Or.inr (own_sn_35_29 hw)))
   have f532 := (((((F_saved_a6_0.other W494 (Or.inl ne_a6_0_b6_countOf)).other W499 (Or.inl ne_a6_0_b6_countOf)).other W505 (Or.inl ne_a6_0_b6_atLeast)).other W510 (Or.inr (own_sn_37_33 hw))).other W522 (Or.inr (own_sn_37_29 hw)))
   have f533 := (((((F_slack_a6_0.other W494 (Or.inl ne_a6_0_b6_countOf)).other W499 (Or.inl ne_a6_0_b6_countOf)).other W505 (Or.inl ne_a6_0_b6_atLeast)).other W510 (Or.inr (own_sn_47_33 hw))).other W522 (Or.inr (own_sn_47_29 hw)))
   have f534 := (((((F_nextTight_a6_0.other W494 (Or.inl ne_a6_0_b6_countOf)).other W499 (Or.inl ne_a6_0_b6_countOf)).other W505 (Or.inl ne_a6_0_b6_atLeast)).other W510 (Or.inr (own_sn_49_33 hw))).other W522 (Or.inr (own_sn_49_29 hw)))
   have f535 := (f521.wr W522)
   have f536 := ((f506.other W510 (Ne.symm ne_a6_0_b6_atLeast)).other W522 (Ne.symm ne_a6_0_b6_atLeast))
   have f537 := (f511.other W522 (Or.inr (own_sn_33_29 hw)))
   refine own_retV X527 hx hlk hret (hb hby d6_74) (by decide) (by decide) ?_
   show Q6L2d2 Z a6_0 b6_countOf b6_atLeast v6_sum b6_partnersOf b6_saved b6_slack b6_nextTight ky y0 y1 y2 y3 kx na x0 x1 x2 x3 x4 h0 n0 _ T527.heap _
   rw [e527]
   exact ⟨rfl, N522, K522, f528, f536, f535, f525, f530, f531, f532, f533, f534, f537, (show Fld Z _ a6_0 "gallai/service/ResidualDegrees" "largest" "I" (.int (w6L2d2_largest y2)) from (by rw [show (w6L2d2_largest y2) = (1 : Int32) from (if_pos c519)]; exact f523))⟩
  ·skip
   refine own_s (g' := (mkF m 74 #[.val (.ref a6_0), .val (.int 2)] [])) (fun _ kz => XS.ifYes X516.here hx rfl (pc0 := 58) (pc' := 74) rfl (hb hby d6_58) rfl ((if0 _ _).trans (feq c519).2) (by decide) (by decide) kz) ?_
   have f538 := ((f501.other W505 (Or.inl ne_a6_0_b6_atLeast)).other W510 (Or.inr (own_sn_31_33 hw)))
   have f539 := ((((F_partnersOf_a6_0.other W494 (Or.inl ne_a6_0_b6_countOf)).other W499 (Or.inl ne_a6_0_b6_countOf)).other W505 (Or.inl ne_a6_0_b6_atLeast)).other W510 (Or.inr (own_sn_35_33 hw)))
   have f540 := ((((F_saved_a6_0.other W494 (Or.inl ne_a6_0_b6_countOf)).other W499 (Or.inl ne_a6_0_b6_countOf)).other W505 (Or.inl ne_a6_0_b6_atLeast)).other W510 (Or.inr (own_sn_37_33 hw)))
   have f541 := ((((F_slack_a6_0.other W494 (Or.inl ne_a6_0_b6_countOf)).other W499 (Or.inl ne_a6_0_b6_countOf)).other W505 (Or.inl ne_a6_0_b6_atLeast)).other W510 (Or.inr (own_sn_47_33 hw)))
   have f542 := ((((F_nextTight_a6_0.other W494 (Or.inl ne_a6_0_b6_countOf)).other W499 (Or.inl ne_a6_0_b6_countOf)).other W505 (Or.inl ne_a6_0_b6_atLeast)).other W510 (Or.inr (own_sn_49_33 hw)))
   have f543 := (f509.wr W510)
   have f544 := (f506.other W510 (Ne.symm ne_a6_0_b6_atLeast))
   refine own_retV X516 hx hlk hret (hb hby d6_74) (by decide) (by decide) ?_
   show Q6L2d2 Z a6_0 b6_countOf b6_atLeast v6_sum b6_partnersOf b6_saved b6_slack b6_nextTight ky y0 y1 y2 y3 kx na x0 x1 x2 x3 x4 h0 n0 _ T516.heap _
   rw [e516]
   exact ⟨rfl, N510, K510, f517, f544, f543, f514, f538, f539, f540, f541, f542, f511, (show Fld Z _ a6_0 "gallai/service/ResidualDegrees" "largest" "I" (.int (w6L2d2_largest y2)) from (by rw [show (w6L2d2_largest y2) = (2 : Int32) from (if_neg c519)]; exact f512))⟩
theorem ef_6L3d1 (m : MethodId) (a6_0 : Addr) : entryFrame m #[(.ref a6_0), (.int 1)] 2 = mkF m 0 #[.val (.ref a6_0), .val (.int 1)] [] := by first | (simp [entryFrame, mkF, argsToLocals, Value.category]; done) | rfl
def Q6L3d1 (Z : State) (a6_0 : Addr) (b6_countOf : Addr) (b6_atLeast : Addr) (v6_sum : Int64) (b6_partnersOf : Addr) (b6_saved : Addr) (b6_slack : Addr) (b6_nextTight : Addr) (ky : ClassId) (y0 : Int32) (y1 : Int32) (y2 : Int32) (y3 : Int32) (kx : ClassId) (na : Int32) (x0 : Int32) (x1 : Int32) (x2 : Int32) (x3 : Int32) (x4 : Int32) (h0 : Heap) (n0 : Nat) (v : Option Value) (h : Heap) (L : List Loc) : Prop := v = none ∧ Fr n0 L ∧ Keep h0 h [b6_countOf, b6_atLeast, a6_0] ∧ Arv Z h b6_countOf ky .int (4 : Int32) [(.int (y0 + (1 : Int32))), (.int (y1 - (1 : Int32))), (.int y2), (.int y3)] (.int (0 : Int32)) ∧ Arv Z h b6_atLeast kx .int na [(.int x0), (.int (x1 - (1 : Int32))), (.int x2), (.int x3), (.int x4)] (.int (0 : Int32)) ∧ Exa Z h a6_0 "gallai/service/ResidualDegrees" ∧ Fld Z h a6_0 "gallai/service/ResidualDegrees" "countOf" "[I" (.ref b6_countOf) ∧ Fld Z h a6_0 "gallai/service/ResidualDegrees" "atLeast" "[I" (.ref b6_atLeast) ∧ Fld Z h a6_0 "gallai/service/ResidualDegrees" "largest" "I" (.int 3) ∧ Fld Z h a6_0 "gallai/service/ResidualDegrees" "partnersOf" "[I" (.ref b6_partnersOf) ∧ Fld Z h a6_0 "gallai/service/ResidualDegrees" "saved" "[I" (.ref b6_saved) ∧ Fld Z h a6_0 "gallai/service/ResidualDegrees" "slack" "[J" (.ref b6_slack) ∧ Fld Z h a6_0 "gallai/service/ResidualDegrees" "nextTight" "[I" (.ref b6_nextTight) ∧ Fld Z h a6_0 "gallai/service/ResidualDegrees" "sum" "J" (.long (v6_sum - (1 : Int64)))
set_option maxRecDepth 65536 in
set_option maxHeartbeats 40000000 in
theorem rm6L3d1 (l : Launch) (Z : State) (a0 : Array Value) (hw : ∀ d ∈ tables_1, d.before a0 Z = true) (ws : List Jvm.Cond) (a6_0 : Addr) (b6_countOf : Addr) (b6_atLeast : Addr) (v6_sum : Int64) (b6_partnersOf : Addr) (b6_saved : Addr) (b6_slack : Addr) (b6_nextTight : Addr) (ky : ClassId) (y0 : Int32) (y1 : Int32) (y2 : Int32) (y3 : Int32) (kx : ClassId) (na : Int32) (x0 : Int32) (x1 : Int32) (x2 : Int32) (x3 : Int32) (x4 : Int32) (h0 : Heap) (n0 : Nat) (Z0 : n0 ≤ h0.size) (F_countOf_a6_0 : Fld Z h0 a6_0 "gallai/service/ResidualDegrees" "countOf" "[I" (.ref b6_countOf)) (F_atLeast_a6_0 : Fld Z h0 a6_0 "gallai/service/ResidualDegrees" "atLeast" "[I" (.ref b6_atLeast)) (F_sum_a6_0 : Fld Z h0 a6_0 "gallai/service/ResidualDegrees" "sum" "J" (.long v6_sum)) (F_largest_a6_0 : Fld Z h0 a6_0 "gallai/service/ResidualDegrees" "largest" "I" (.int 3)) (F_partnersOf_a6_0 : Fld Z h0 a6_0 "gallai/service/ResidualDegrees" "partnersOf" "[I" (.ref b6_partnersOf)) (F_saved_a6_0 : Fld Z h0 a6_0 "gallai/service/ResidualDegrees" "saved" "[I" (.ref b6_saved)) (F_slack_a6_0 : Fld Z h0 a6_0 "gallai/service/ResidualDegrees" "slack" "[J" (.ref b6_slack)) (F_nextTight_a6_0 : Fld Z h0 a6_0 "gallai/service/ResidualDegrees" "nextTight" "[I" (.ref b6_nextTight)) (E_a6_0 : Exa Z h0 a6_0 "gallai/service/ResidualDegrees") (V_b6_countOf : Arv Z h0 b6_countOf ky .int (4 : Int32) [(.int y0), (.int y1), (.int y2), (.int y3)] (.int (0 : Int32))) (V_b6_atLeast : Arv Z h0 b6_atLeast kx .int na [(.int x0), (.int x1), (.int x2), (.int x3), (.int x4)] (.int (0 : Int32))) (g_b6_countOf : n0 ≤ b6_countOf) (g_b6_atLeast : n0 ≤ b6_atLeast) (g_a6_0 : n0 ≤ a6_0) (ne_a6_0_b6_countOf : a6_0 ≠ b6_countOf) (ne_b6_atLeast_b6_countOf : b6_atLeast ≠ b6_countOf) (ne_a6_0_b6_atLeast : a6_0 ≠ b6_atLeast) (hA0 : ¬ y3 = (0 : Int32)) (hna : (1 : Int32) < na) :
    MetFree l (⟨"gallai/service/ResidualDegrees", "lower", "(I)V"⟩ : MethodName) (head1 (Jvm.Cond.code (⟨"gallai/service/ResidualDegrees", "lower", "(I)V"⟩ : MethodName) prog_45_method_5_code 2 none :: ws) ({ frames := 0, cells := 0, slots := 0, locals := 0 } : Room)) (fun a U => a = #[(.ref a6_0), (.int 1)] ∧ Z.Warmed39 U.vm ∧ U.heap = h0) (fun _ _ _ _ _ => True) (fun _ U o U' => ∃ v L, o = .returned v ∧ Q6L3d1 Z a6_0 b6_countOf b6_atLeast v6_sum b6_partnersOf b6_saved b6_slack b6_nextTight ky y0 y1 y2 y3 kx na x0 x1 x2 x3 x4 h0 n0 v U'.heap L ∧ FrameEnd U o U' L ({ frames := 0, cells := 0, slots := 0, locals := 0 } : Room).cells ({ frames := 0, cells := 0, slots := 0, locals := 0 } : Room).slots) := by
  refine MetFree.of_bodySF (plainFor_of_name pn_gallai_service_ResidualDegrees) hisR ?_
  intro p e s m args below meth c s₁ Bd hml0 hP hK
  obtain ⟨rfl, hZ, hh⟩ := hP
  have hx := Bd.exec
  have hby := Bd.bytes
  have hlk := Bd.notSynchronized
  have hret := Bd.returns
  have hml : c.maxLocals = 2 := hml0
  have hown : s.vm.findClass "gallai/service/ResidualDegrees" = some m.cls := findClass_of_methodNamed Bd.named
  have hnm := (name_of_methodNamed Bd.named Bd.method).1
  have X0 : Stand p l e ({ frames := 0, cells := 0, slots := 0, locals := 0 } : Room) s m #[(.ref a6_0), (.int 1)] below meth c s₁ [] 0 0 := Stand.of_body Bd
  have e0 : s₁.heap = h0 := by rw [← hh, Bd.state]; rfl
  have N0 := Fr.nil n0
  have K0 : Keep h0 h0 [b6_countOf, b6_atLeast, a6_0] := Keep.refl _ _
  show own_G p e below s (Q6L3d1 Z a6_0 b6_countOf b6_atLeast v6_sum b6_partnersOf b6_saved b6_slack b6_nextTight ky y0 y1 y2 y3 kx na x0 x1 x2 x3 x4 h0 n0) ({ frames := 0, cells := 0, slots := 0, locals := 0 } : Room).cells ({ frames := 0, cells := 0, slots := 0, locals := 0 } : Room).slots s₁ (entryFrame m #[(.ref a6_0), (.int 1)] 2)
  have ww5 := hw _ (List.mem_of_getElem? (i := 5) rfl)
  have ww22 := hw _ (List.mem_of_getElem? (i := 22) rfl)
  have ww28 := hw _ (List.mem_of_getElem? (i := 28) rfl)
  have ww30 := hw _ (List.mem_of_getElem? (i := 30) rfl)
  have ww32 := hw _ (List.mem_of_getElem? (i := 32) rfl)
  have ww33 := hw _ (List.mem_of_getElem? (i := 33) rfl)
  refine own_cast (ef_6L3d1 m a6_0) ?_
  refine own_s (g' := (mkF m 1 #[.val (.ref a6_0), .val (.int 1)] [(.ref a6_0)])) (fun _ kz => XS.aloadN X0.here hx rfl (hb hby d6_0) rfl rfl kz) ?_
  obtain ⟨T545, X545, e545, st545⟩ := getF X0 hx hZ hown (host := "") (Or.inl ww22) Via.refl e0 F_countOf_a6_0 (g := (mkF m 1 #[.val (.ref a6_0), .val (.int 1)] [(.ref a6_0)])) rfl rfl (hb hby d6_1)
  refine own_s (g' := (mkF m 4 #[.val (.ref a6_0), .val (.int 1)] [(.ref b6_countOf)])) st545 ?_
  refine own_s (g' := (mkF m 5 #[.val (.ref a6_0), .val (.int 1)] [(.int 1), (.ref b6_countOf)])) (fun _ kz => XS.iloadN X545.here hx rfl (hb hby d6_4) rfl kz) ?_
  refine own_s (g' := (mkF m 6 #[.val (.ref a6_0), .val (.int 1)] [(.int 1), (.ref b6_countOf), (.int 1), (.ref b6_countOf)])) (fun _ kz => XT.dup2 X545.here hx rfl (hb hby d6_5) rfl rfl rfl kz) ?_
  obtain ⟨cl546, Ar546, -, S546, -, H546, -⟩ := id V_b6_countOf
  have in546 := inb_of S546 (j := (1 : Int32)) ⟨by decide, by decide⟩
  refine own_s (g' := (mkF m 7 #[.val (.ref a6_0), .val (.int 1)] [(.int y1), (.int 1), (.ref b6_countOf)])) (X545.iaload hx (j := (1 : Int32)) (v := (.int y1)) (by rw [e545]; exact Ar546.1) (State.isArrayOf_alike hZ.alike Ar546.2.1) Ar546.2.2 in546 (Has.at H546 in546 rfl) (g := (mkF m 6 #[.val (.ref a6_0), .val (.int 1)] [(.int 1), (.ref b6_countOf), (.int 1), (.ref b6_countOf)])) rfl rfl (hb hby d6_6)) ?_
  refine own_s (g' := (mkF m 8 #[.val (.ref a6_0), .val (.int 1)] [(.int 1), (.int y1), (.int 1), (.ref b6_countOf)])) (fun _ kz => XS.iconst X545.here hx rfl (hb hby d6_7) kz) ?_
  refine own_s (g' := (mkF m 9 #[.val (.ref a6_0), .val (.int 1)] [(.int (y1 - (1 : Int32))), (.int 1), (.ref b6_countOf)])) (fun _ kz => XS.isub X545.here hx rfl (hb hby d6_8) rfl kz) ?_
  obtain ⟨cl547, Ar547, q547, S547, M547, H547, G547⟩ := id V_b6_countOf
  obtain ⟨T547, h547, X547, e547, W547, st547⟩ := stI X545 hx hZ e545 Ar547 (j := (1 : Int32)) (inb_of S547 ⟨by decide, by decide⟩) (g := (mkF m 9 #[.val (.ref a6_0), .val (.int 1)] [(.int (y1 - (1 : Int32))), (.int 1), (.ref b6_countOf)])) rfl rfl (hb hby d6_9)
  have f548 : Arv Z h547 b6_countOf ky .int (4 : Int32) [(.int y0), (.int (y1 - (1 : Int32))), (.int y2), (.int y3)] (.int (0 : Int32)) := Arv.set Ar547 q547 S547 M547 H547 G547 rfl W547 1 rfl (Nat.le_of_ble_eq_true rfl)
  have K547 := K0.wr W547 (Or.inl (List.mem_of_getElem? (i := 0) rfl))
  have N547 := Fr.snoc X547 N0 g_b6_countOf
  refine own_s (g' := (mkF m 10 #[.val (.ref a6_0), .val (.int 1)] [])) st547 ?_
  refine own_s (g' := (mkF m 11 #[.val (.ref a6_0), .val (.int 1)] [(.ref a6_0)])) (fun _ kz => XS.aloadN X547.here hx rfl (hb hby d6_10) rfl rfl kz) ?_
  have f549 := (F_countOf_a6_0.other W547 (Or.inl ne_a6_0_b6_countOf))
  obtain ⟨T550, X550, e550, st550⟩ := getF X547 hx hZ hown (host := "") (Or.inl ww22) Via.refl e547 f549 (g := (mkF m 11 #[.val (.ref a6_0), .val (.int 1)] [(.ref a6_0)])) rfl rfl (hb hby d6_11)
  refine own_s (g' := (mkF m 14 #[.val (.ref a6_0), .val (.int 1)] [(.ref b6_countOf)])) st550 ?_
  refine own_s (g' := (mkF m 15 #[.val (.ref a6_0), .val (.int 1)] [(.int 1), (.ref b6_countOf)])) (fun _ kz => XS.iloadN X550.here hx rfl (hb hby d6_14) rfl kz) ?_
  refine own_s (g' := (mkF m 16 #[.val (.ref a6_0), .val (.int 1)] [(.int 1), (.int 1), (.ref b6_countOf)])) (fun _ kz => XS.iconst X550.here hx rfl (hb hby d6_15) kz) ?_
  refine own_s (g' := (mkF m 17 #[.val (.ref a6_0), .val (.int 1)] [(.int ((1 : Int32) - (1 : Int32))), (.ref b6_countOf)])) (fun _ kz => XS.isub X550.here hx rfl (hb hby d6_16) rfl kz) ?_
  rw [show ((1 : Int32) - (1 : Int32)) = (0 : Int32) from by decide]
  refine own_s (g' := (mkF m 18 #[.val (.ref a6_0), .val (.int 1)] [(.int 0), (.ref b6_countOf), (.int 0), (.ref b6_countOf)])) (fun _ kz => XT.dup2 X550.here hx rfl (hb hby d6_17) rfl rfl rfl kz) ?_
  obtain ⟨cl551, Ar551, -, S551, -, H551, -⟩ := id f548
  have in551 := inb_of S551 (j := (0 : Int32)) ⟨by decide, by decide⟩
  refine own_s (g' := (mkF m 19 #[.val (.ref a6_0), .val (.int 1)] [(.int y0), (.int 0), (.ref b6_countOf)])) (X550.iaload hx (j := (0 : Int32)) (v := (.int y0)) (by rw [e550]; exact Ar551.1) (State.isArrayOf_alike hZ.alike Ar551.2.1) Ar551.2.2 in551 (Has.at H551 in551 rfl) (g := (mkF m 18 #[.val (.ref a6_0), .val (.int 1)] [(.int 0), (.ref b6_countOf), (.int 0), (.ref b6_countOf)])) rfl rfl (hb hby d6_18)) ?_
  refine own_s (g' := (mkF m 20 #[.val (.ref a6_0), .val (.int 1)] [(.int 1), (.int y0), (.int 0), (.ref b6_countOf)])) (fun _ kz => XS.iconst X550.here hx rfl (hb hby d6_19) kz) ?_
  refine own_s (g' := (mkF m 21 #[.val (.ref a6_0), .val (.int 1)] [(.int (y0 + (1 : Int32))), (.int 0), (.ref b6_countOf)])) (fun _ kz => XS.iadd X550.here hx rfl (hb hby d6_20) rfl kz) ?_
  obtain ⟨cl552, Ar552, q552, S552, M552, H552, G552⟩ := id f548
  obtain ⟨T552, h552, X552, e552, W552, st552⟩ := stI X550 hx hZ e550 Ar552 (j := (0 : Int32)) (inb_of S552 ⟨by decide, by decide⟩) (g := (mkF m 21 #[.val (.ref a6_0), .val (.int 1)] [(.int (y0 + (1 : Int32))), (.int 0), (.ref b6_countOf)])) rfl rfl (hb hby d6_21)
  have f553 : Arv Z h552 b6_countOf ky .int (4 : Int32) [(.int (y0 + (1 : Int32))), (.int (y1 - (1 : Int32))), (.int y2), (.int y3)] (.int (0 : Int32)) := Arv.set Ar552 q552 S552 M552 H552 G552 rfl W552 0 rfl (Nat.le_of_ble_eq_true rfl)
  have K552 := K547.wr W552 (Or.inl (List.mem_of_getElem? (i := 0) rfl))
  have N552 := Fr.snoc X552 N547 g_b6_countOf
  refine own_s (g' := (mkF m 22 #[.val (.ref a6_0), .val (.int 1)] [])) st552 ?_
  refine own_s (g' := (mkF m 23 #[.val (.ref a6_0), .val (.int 1)] [(.ref a6_0)])) (fun _ kz => XS.aloadN X552.here hx rfl (hb hby d6_22) rfl rfl kz) ?_
  have f554 := ((F_atLeast_a6_0.other W547 (Or.inl ne_a6_0_b6_countOf)).other W552 (Or.inl ne_a6_0_b6_countOf))
  obtain ⟨T555, X555, e555, st555⟩ := getF X552 hx hZ hown (host := "") (Or.inl ww30) Via.refl e552 f554 (g := (mkF m 23 #[.val (.ref a6_0), .val (.int 1)] [(.ref a6_0)])) rfl rfl (hb hby d6_23)
  refine own_s (g' := (mkF m 26 #[.val (.ref a6_0), .val (.int 1)] [(.ref b6_atLeast)])) st555 ?_
  refine own_s (g' := (mkF m 27 #[.val (.ref a6_0), .val (.int 1)] [(.int 1), (.ref b6_atLeast)])) (fun _ kz => XS.iloadN X555.here hx rfl (hb hby d6_26) rfl kz) ?_
  refine own_s (g' := (mkF m 28 #[.val (.ref a6_0), .val (.int 1)] [(.int 1), (.ref b6_atLeast), (.int 1), (.ref b6_atLeast)])) (fun _ kz => XT.dup2 X555.here hx rfl (hb hby d6_27) rfl rfl rfl kz) ?_
  have f556 := ((V_b6_atLeast.other W547 ne_b6_atLeast_b6_countOf).other W552 ne_b6_atLeast_b6_countOf)
  obtain ⟨cl557, Ar557, -, S557, -, H557, -⟩ := id f556
  have in557 := inb_of S557 (j := (1 : Int32)) ⟨by decide, hna⟩
  refine own_s (g' := (mkF m 29 #[.val (.ref a6_0), .val (.int 1)] [(.int x1), (.int 1), (.ref b6_atLeast)])) (X555.iaload hx (j := (1 : Int32)) (v := (.int x1)) (by rw [e555]; exact Ar557.1) (State.isArrayOf_alike hZ.alike Ar557.2.1) Ar557.2.2 in557 (Has.at H557 in557 rfl) (g := (mkF m 28 #[.val (.ref a6_0), .val (.int 1)] [(.int 1), (.ref b6_atLeast), (.int 1), (.ref b6_atLeast)])) rfl rfl (hb hby d6_28)) ?_
  refine own_s (g' := (mkF m 30 #[.val (.ref a6_0), .val (.int 1)] [(.int 1), (.int x1), (.int 1), (.ref b6_atLeast)])) (fun _ kz => XS.iconst X555.here hx rfl (hb hby d6_29) kz) ?_
  refine own_s (g' := (mkF m 31 #[.val (.ref a6_0), .val (.int 1)] [(.int (x1 - (1 : Int32))), (.int 1), (.ref b6_atLeast)])) (fun _ kz => XS.isub X555.here hx rfl (hb hby d6_30) rfl kz) ?_
  obtain ⟨cl558, Ar558, q558, S558, M558, H558, G558⟩ := id f556
  obtain ⟨T558, h558, X558, e558, W558, st558⟩ := stI X555 hx hZ e555 Ar558 (j := (1 : Int32)) (inb_of S558 ⟨by decide, hna⟩) (g := (mkF m 31 #[.val (.ref a6_0), .val (.int 1)] [(.int (x1 - (1 : Int32))), (.int 1), (.ref b6_atLeast)])) rfl rfl (hb hby d6_31)
  have f559 : Arv Z h558 b6_atLeast kx .int na [(.int x0), (.int (x1 - (1 : Int32))), (.int x2), (.int x3), (.int x4)] (.int (0 : Int32)) := Arv.set Ar558 q558 S558 M558 H558 G558 rfl W558 1 rfl (Nat.le_of_ble_eq_true rfl)
  have K558 := K552.wr W558 (Or.inl (List.mem_of_getElem? (i := 1) rfl))
  have N558 := Fr.snoc X558 N552 g_b6_atLeast
  refine own_s (g' := (mkF m 32 #[.val (.ref a6_0), .val (.int 1)] [])) st558 ?_
  refine own_s (g' := (mkF m 33 #[.val (.ref a6_0), .val (.int 1)] [(.ref a6_0)])) (fun _ kz => XS.aloadN X558.here hx rfl (hb hby d6_32) rfl rfl kz) ?_
  refine own_s (g' := (mkF m 34 #[.val (.ref a6_0), .val (.int 1)] [(.ref a6_0), (.ref a6_0)])) (fun _ kz => XS.dup X558.here hx rfl (hb hby d6_33) rfl rfl kz) ?_
  have f560 := (((F_sum_a6_0.other W547 (Or.inl ne_a6_0_b6_countOf)).other W552 (Or.inl ne_a6_0_b6_countOf)).other W558 (Or.inl ne_a6_0_b6_atLeast))
  obtain ⟨T561, X561, e561, st561⟩ := getF X558 hx hZ hown (host := "") (Or.inl ww32) Via.refl e558 f560 (g := (mkF m 34 #[.val (.ref a6_0), .val (.int 1)] [(.ref a6_0), (.ref a6_0)])) rfl rfl (hb hby d6_34)
  refine own_s (g' := (mkF m 37 #[.val (.ref a6_0), .val (.int 1)] [(.long v6_sum), (.ref a6_0)])) st561 ?_
  refine own_s (g' := (mkF m 38 #[.val (.ref a6_0), .val (.int 1)] [(.long 1), (.long v6_sum), (.ref a6_0)])) (fun _ kz => XS.lconst X561.here hx rfl (hb hby d6_37) kz) ?_
  refine own_s (g' := (mkF m 39 #[.val (.ref a6_0), .val (.int 1)] [(.long (v6_sum - (1 : Int64))), (.ref a6_0)])) (fun _ kz => XS.lsub X561.here hx rfl (hb hby d6_38) rfl kz) ?_
  have f562 := (((E_a6_0.wr W547).wr W552).wr W558)
  obtain ⟨T563, h563, X563, e563, W563, st563⟩ := putF X561 hx hZ hown (host := "") (Or.inl ww32) Via.refl e561 f560 f562 (Or.inl ww33) ww5 (ty := .long) (by decide +kernel) rfl rfl (g := (mkF m 39 #[.val (.ref a6_0), .val (.int 1)] [(.long (v6_sum - (1 : Int64))), (.ref a6_0)])) rfl rfl (hb hby d6_39)
  have f564 := f560.same W563
  have K563 := K558.wr W563 (Or.inl (List.mem_of_getElem? (i := 2) rfl))
  have N563 := Fr.snoc X563 N558 g_a6_0
  refine own_s (g' := (mkF m 42 #[.val (.ref a6_0), .val (.int 1)] [])) st563 ?_
  refine own_s (g' := (mkF m 43 #[.val (.ref a6_0), .val (.int 1)] [(.ref a6_0)])) (fun _ kz => XS.aloadN X563.here hx rfl (hb hby d6_42) rfl rfl kz) ?_
  have f565 := ((((F_largest_a6_0.other W547 (Or.inl ne_a6_0_b6_countOf)).other W552 (Or.inl ne_a6_0_b6_countOf)).other W558 (Or.inl ne_a6_0_b6_atLeast)).other W563 (Or.inr (own_sn_29_33 hw)))
  obtain ⟨T566, X566, e566, st566⟩ := getF X563 hx hZ hown (host := "") (Or.inl ww28) Via.refl e563 f565 (g := (mkF m 43 #[.val (.ref a6_0), .val (.int 1)] [(.ref a6_0)])) rfl rfl (hb hby d6_43)
  refine own_s (g' := (mkF m 46 #[.val (.ref a6_0), .val (.int 1)] [(.int 3)])) st566 ?_
  refine own_s (g' := (mkF m 49 #[.val (.ref a6_0), .val (.int 1)] [])) (fun _ kz => XS.ifNo X566.here hx rfl (hb hby d6_46) rfl ((if0 _ _).trans (tlt ((by decide) : (0 : Int32) < (3 : Int32))).2.2.2) kz) ?_
  refine own_s (g' := (mkF m 50 #[.val (.ref a6_0), .val (.int 1)] [(.ref a6_0)])) (fun _ kz => XS.aloadN X566.here hx rfl (hb hby d6_49) rfl rfl kz) ?_
  have f567 := (((f549.other W552 (Or.inl ne_a6_0_b6_countOf)).other W558 (Or.inl ne_a6_0_b6_atLeast)).other W563 (Or.inr (own_sn_23_33 hw)))
  obtain ⟨T568, X568, e568, st568⟩ := getF X566 hx hZ hown (host := "") (Or.inl ww22) Via.refl e566 f567 (g := (mkF m 50 #[.val (.ref a6_0), .val (.int 1)] [(.ref a6_0)])) rfl rfl (hb hby d6_50)
  refine own_s (g' := (mkF m 53 #[.val (.ref a6_0), .val (.int 1)] [(.ref b6_countOf)])) st568 ?_
  refine own_s (g' := (mkF m 54 #[.val (.ref a6_0), .val (.int 1)] [(.ref a6_0), (.ref b6_countOf)])) (fun _ kz => XS.aloadN X568.here hx rfl (hb hby d6_53) rfl rfl kz) ?_
  obtain ⟨T569, X569, e569, st569⟩ := getF X568 hx hZ hown (host := "") (Or.inl ww28) Via.refl e568 f565 (g := (mkF m 54 #[.val (.ref a6_0), .val (.int 1)] [(.ref a6_0), (.ref b6_countOf)])) rfl rfl (hb hby d6_54)
  refine own_s (g' := (mkF m 57 #[.val (.ref a6_0), .val (.int 1)] [(.int 3), (.ref b6_countOf)])) st569 ?_
  have f570 := ((f553.other W558 (Ne.symm ne_b6_atLeast_b6_countOf)).other W563 (Ne.symm ne_a6_0_b6_countOf))
  obtain ⟨cl571, Ar571, -, S571, -, H571, -⟩ := id f570
  have in571 := inb_of S571 (j := (3 : Int32)) ⟨by decide, by decide⟩
  refine own_s (g' := (mkF m 58 #[.val (.ref a6_0), .val (.int 1)] [(.int y3)])) (X569.iaload hx (j := (3 : Int32)) (v := (.int y3)) (by rw [e569]; exact Ar571.1) (State.isArrayOf_alike hZ.alike Ar571.2.1) Ar571.2.2 in571 (Has.at H571 in571 rfl) (g := (mkF m 57 #[.val (.ref a6_0), .val (.int 1)] [(.int 3), (.ref b6_countOf)])) rfl rfl (hb hby d6_57)) ?_
  refine own_s (g' := (mkF m 74 #[.val (.ref a6_0), .val (.int 1)] [])) (fun _ kz => XS.ifYes X569.here hx rfl (pc0 := 58) (pc' := 74) rfl (hb hby d6_58) rfl ((if0 _ _).trans (feq hA0).2) (by decide) (by decide) kz) ?_
  have f572 := ((f554.other W558 (Or.inl ne_a6_0_b6_atLeast)).other W563 (Or.inr (own_sn_31_33 hw)))
  have f573 := ((((F_partnersOf_a6_0.other W547 (Or.inl ne_a6_0_b6_countOf)).other W552 (Or.inl ne_a6_0_b6_countOf)).other W558 (Or.inl ne_a6_0_b6_atLeast)).other W563 (Or.inr (own_sn_35_33 hw)))
  have f574 := ((((F_saved_a6_0.other W547 (Or.inl ne_a6_0_b6_countOf)).other W552 (Or.inl ne_a6_0_b6_countOf)).other W558 (Or.inl ne_a6_0_b6_atLeast)).other W563 (Or.inr (own_sn_37_33 hw)))
  have f575 := ((((F_slack_a6_0.other W547 (Or.inl ne_a6_0_b6_countOf)).other W552 (Or.inl ne_a6_0_b6_countOf)).other W558 (Or.inl ne_a6_0_b6_atLeast)).other W563 (Or.inr (own_sn_47_33 hw)))
  have f576 := ((((F_nextTight_a6_0.other W547 (Or.inl ne_a6_0_b6_countOf)).other W552 (Or.inl ne_a6_0_b6_countOf)).other W558 (Or.inl ne_a6_0_b6_atLeast)).other W563 (Or.inr (own_sn_49_33 hw)))
  have f577 := (f562.wr W563)
  have f578 := (f559.other W563 (Ne.symm ne_a6_0_b6_atLeast))
  refine own_retV X569 hx hlk hret (hb hby d6_74) (by decide) (by decide) ?_
  show Q6L3d1 Z a6_0 b6_countOf b6_atLeast v6_sum b6_partnersOf b6_saved b6_slack b6_nextTight ky y0 y1 y2 y3 kx na x0 x1 x2 x3 x4 h0 n0 _ T569.heap _
  rw [e569]
  exact ⟨rfl, N563, K563, f570, f578, f577, f567, f572, f565, f573, f574, f575, f576, f564⟩
theorem ef_6L3d2 (m : MethodId) (a6_0 : Addr) : entryFrame m #[(.ref a6_0), (.int 2)] 2 = mkF m 0 #[.val (.ref a6_0), .val (.int 2)] [] := by first | (simp [entryFrame, mkF, argsToLocals, Value.category]; done) | rfl
def Q6L3d2 (Z : State) (a6_0 : Addr) (b6_countOf : Addr) (b6_atLeast : Addr) (v6_sum : Int64) (b6_partnersOf : Addr) (b6_saved : Addr) (b6_slack : Addr) (b6_nextTight : Addr) (ky : ClassId) (y0 : Int32) (y1 : Int32) (y2 : Int32) (y3 : Int32) (kx : ClassId) (na : Int32) (x0 : Int32) (x1 : Int32) (x2 : Int32) (x3 : Int32) (x4 : Int32) (h0 : Heap) (n0 : Nat) (v : Option Value) (h : Heap) (L : List Loc) : Prop := v = none ∧ Fr n0 L ∧ Keep h0 h [b6_countOf, b6_atLeast, a6_0] ∧ Arv Z h b6_countOf ky .int (4 : Int32) [(.int y0), (.int (y1 + (1 : Int32))), (.int (y2 - (1 : Int32))), (.int y3)] (.int (0 : Int32)) ∧ Arv Z h b6_atLeast kx .int na [(.int x0), (.int x1), (.int (x2 - (1 : Int32))), (.int x3), (.int x4)] (.int (0 : Int32)) ∧ Exa Z h a6_0 "gallai/service/ResidualDegrees" ∧ Fld Z h a6_0 "gallai/service/ResidualDegrees" "countOf" "[I" (.ref b6_countOf) ∧ Fld Z h a6_0 "gallai/service/ResidualDegrees" "atLeast" "[I" (.ref b6_atLeast) ∧ Fld Z h a6_0 "gallai/service/ResidualDegrees" "largest" "I" (.int 3) ∧ Fld Z h a6_0 "gallai/service/ResidualDegrees" "partnersOf" "[I" (.ref b6_partnersOf) ∧ Fld Z h a6_0 "gallai/service/ResidualDegrees" "saved" "[I" (.ref b6_saved) ∧ Fld Z h a6_0 "gallai/service/ResidualDegrees" "slack" "[J" (.ref b6_slack) ∧ Fld Z h a6_0 "gallai/service/ResidualDegrees" "nextTight" "[I" (.ref b6_nextTight) ∧ Fld Z h a6_0 "gallai/service/ResidualDegrees" "sum" "J" (.long (v6_sum - (1 : Int64)))
set_option maxRecDepth 65536 in
set_option maxHeartbeats 40000000 in
theorem rm6L3d2 (l : Launch) (Z : State) (a0 : Array Value) (hw : ∀ d ∈ tables_1, d.before a0 Z = true) (ws : List Jvm.Cond) (a6_0 : Addr) (b6_countOf : Addr) (b6_atLeast : Addr) (v6_sum : Int64) (b6_partnersOf : Addr) (b6_saved : Addr) (b6_slack : Addr) (b6_nextTight : Addr) (ky : ClassId) (y0 : Int32) (y1 : Int32) (y2 : Int32) (y3 : Int32) (kx : ClassId) (na : Int32) (x0 : Int32) (x1 : Int32) (x2 : Int32) (x3 : Int32) (x4 : Int32) (h0 : Heap) (n0 : Nat) (Z0 : n0 ≤ h0.size) (F_countOf_a6_0 : Fld Z h0 a6_0 "gallai/service/ResidualDegrees" "countOf" "[I" (.ref b6_countOf)) (F_atLeast_a6_0 : Fld Z h0 a6_0 "gallai/service/ResidualDegrees" "atLeast" "[I" (.ref b6_atLeast)) (F_sum_a6_0 : Fld Z h0 a6_0 "gallai/service/ResidualDegrees" "sum" "J" (.long v6_sum)) (F_largest_a6_0 : Fld Z h0 a6_0 "gallai/service/ResidualDegrees" "largest" "I" (.int 3)) (F_partnersOf_a6_0 : Fld Z h0 a6_0 "gallai/service/ResidualDegrees" "partnersOf" "[I" (.ref b6_partnersOf)) (F_saved_a6_0 : Fld Z h0 a6_0 "gallai/service/ResidualDegrees" "saved" "[I" (.ref b6_saved)) (F_slack_a6_0 : Fld Z h0 a6_0 "gallai/service/ResidualDegrees" "slack" "[J" (.ref b6_slack)) (F_nextTight_a6_0 : Fld Z h0 a6_0 "gallai/service/ResidualDegrees" "nextTight" "[I" (.ref b6_nextTight)) (E_a6_0 : Exa Z h0 a6_0 "gallai/service/ResidualDegrees") (V_b6_countOf : Arv Z h0 b6_countOf ky .int (4 : Int32) [(.int y0), (.int y1), (.int y2), (.int y3)] (.int (0 : Int32))) (V_b6_atLeast : Arv Z h0 b6_atLeast kx .int na [(.int x0), (.int x1), (.int x2), (.int x3), (.int x4)] (.int (0 : Int32))) (g_b6_countOf : n0 ≤ b6_countOf) (g_b6_atLeast : n0 ≤ b6_atLeast) (g_a6_0 : n0 ≤ a6_0) (ne_a6_0_b6_countOf : a6_0 ≠ b6_countOf) (ne_b6_atLeast_b6_countOf : b6_atLeast ≠ b6_countOf) (ne_a6_0_b6_atLeast : a6_0 ≠ b6_atLeast) (hA0 : ¬ y3 = (0 : Int32)) (hna : (2 : Int32) < na) :
    MetFree l (⟨"gallai/service/ResidualDegrees", "lower", "(I)V"⟩ : MethodName) (head1 (Jvm.Cond.code (⟨"gallai/service/ResidualDegrees", "lower", "(I)V"⟩ : MethodName) prog_45_method_5_code 2 none :: ws) ({ frames := 0, cells := 0, slots := 0, locals := 0 } : Room)) (fun a U => a = #[(.ref a6_0), (.int 2)] ∧ Z.Warmed39 U.vm ∧ U.heap = h0) (fun _ _ _ _ _ => True) (fun _ U o U' => ∃ v L, o = .returned v ∧ Q6L3d2 Z a6_0 b6_countOf b6_atLeast v6_sum b6_partnersOf b6_saved b6_slack b6_nextTight ky y0 y1 y2 y3 kx na x0 x1 x2 x3 x4 h0 n0 v U'.heap L ∧ FrameEnd U o U' L ({ frames := 0, cells := 0, slots := 0, locals := 0 } : Room).cells ({ frames := 0, cells := 0, slots := 0, locals := 0 } : Room).slots) := by
  refine MetFree.of_bodySF (plainFor_of_name pn_gallai_service_ResidualDegrees) hisR ?_
  intro p e s m args below meth c s₁ Bd hml0 hP hK
  obtain ⟨rfl, hZ, hh⟩ := hP
  have hx := Bd.exec
  have hby := Bd.bytes
  have hlk := Bd.notSynchronized
  have hret := Bd.returns
  have hml : c.maxLocals = 2 := hml0
  have hown : s.vm.findClass "gallai/service/ResidualDegrees" = some m.cls := findClass_of_methodNamed Bd.named
  have hnm := (name_of_methodNamed Bd.named Bd.method).1
  have X0 : Stand p l e ({ frames := 0, cells := 0, slots := 0, locals := 0 } : Room) s m #[(.ref a6_0), (.int 2)] below meth c s₁ [] 0 0 := Stand.of_body Bd
  have e0 : s₁.heap = h0 := by rw [← hh, Bd.state]; rfl
  have N0 := Fr.nil n0
  have K0 : Keep h0 h0 [b6_countOf, b6_atLeast, a6_0] := Keep.refl _ _
  show own_G p e below s (Q6L3d2 Z a6_0 b6_countOf b6_atLeast v6_sum b6_partnersOf b6_saved b6_slack b6_nextTight ky y0 y1 y2 y3 kx na x0 x1 x2 x3 x4 h0 n0) ({ frames := 0, cells := 0, slots := 0, locals := 0 } : Room).cells ({ frames := 0, cells := 0, slots := 0, locals := 0 } : Room).slots s₁ (entryFrame m #[(.ref a6_0), (.int 2)] 2)
  have ww5 := hw _ (List.mem_of_getElem? (i := 5) rfl)
  have ww22 := hw _ (List.mem_of_getElem? (i := 22) rfl)
  have ww28 := hw _ (List.mem_of_getElem? (i := 28) rfl)
  have ww30 := hw _ (List.mem_of_getElem? (i := 30) rfl)
  have ww32 := hw _ (List.mem_of_getElem? (i := 32) rfl)
  have ww33 := hw _ (List.mem_of_getElem? (i := 33) rfl)
  refine own_cast (ef_6L3d2 m a6_0) ?_
  refine own_s (g' := (mkF m 1 #[.val (.ref a6_0), .val (.int 2)] [(.ref a6_0)])) (fun _ kz => XS.aloadN X0.here hx rfl (hb hby d6_0) rfl rfl kz) ?_
  obtain ⟨T579, X579, e579, st579⟩ := getF X0 hx hZ hown (host := "") (Or.inl ww22) Via.refl e0 F_countOf_a6_0 (g := (mkF m 1 #[.val (.ref a6_0), .val (.int 2)] [(.ref a6_0)])) rfl rfl (hb hby d6_1)
  refine own_s (g' := (mkF m 4 #[.val (.ref a6_0), .val (.int 2)] [(.ref b6_countOf)])) st579 ?_
  refine own_s (g' := (mkF m 5 #[.val (.ref a6_0), .val (.int 2)] [(.int 2), (.ref b6_countOf)])) (fun _ kz => XS.iloadN X579.here hx rfl (hb hby d6_4) rfl kz) ?_
  refine own_s (g' := (mkF m 6 #[.val (.ref a6_0), .val (.int 2)] [(.int 2), (.ref b6_countOf), (.int 2), (.ref b6_countOf)])) (fun _ kz => XT.dup2 X579.here hx rfl (hb hby d6_5) rfl rfl rfl kz) ?_
  obtain ⟨cl580, Ar580, -, S580, -, H580, -⟩ := id V_b6_countOf
  have in580 := inb_of S580 (j := (2 : Int32)) ⟨by decide, by decide⟩
  refine own_s (g' := (mkF m 7 #[.val (.ref a6_0), .val (.int 2)] [(.int y2), (.int 2), (.ref b6_countOf)])) (X579.iaload hx (j := (2 : Int32)) (v := (.int y2)) (by rw [e579]; exact Ar580.1) (State.isArrayOf_alike hZ.alike Ar580.2.1) Ar580.2.2 in580 (Has.at H580 in580 rfl) (g := (mkF m 6 #[.val (.ref a6_0), .val (.int 2)] [(.int 2), (.ref b6_countOf), (.int 2), (.ref b6_countOf)])) rfl rfl (hb hby d6_6)) ?_
  refine own_s (g' := (mkF m 8 #[.val (.ref a6_0), .val (.int 2)] [(.int 1), (.int y2), (.int 2), (.ref b6_countOf)])) (fun _ kz => XS.iconst X579.here hx rfl (hb hby d6_7) kz) ?_
  refine own_s (g' := (mkF m 9 #[.val (.ref a6_0), .val (.int 2)] [(.int (y2 - (1 : Int32))), (.int 2), (.ref b6_countOf)])) (fun _ kz => XS.isub X579.here hx rfl (hb hby d6_8) rfl kz) ?_
  obtain ⟨cl581, Ar581, q581, S581, M581, H581, G581⟩ := id V_b6_countOf
  obtain ⟨T581, h581, X581, e581, W581, st581⟩ := stI X579 hx hZ e579 Ar581 (j := (2 : Int32)) (inb_of S581 ⟨by decide, by decide⟩) (g := (mkF m 9 #[.val (.ref a6_0), .val (.int 2)] [(.int (y2 - (1 : Int32))), (.int 2), (.ref b6_countOf)])) rfl rfl (hb hby d6_9)
  have f582 : Arv Z h581 b6_countOf ky .int (4 : Int32) [(.int y0), (.int y1), (.int (y2 - (1 : Int32))), (.int y3)] (.int (0 : Int32)) := Arv.set Ar581 q581 S581 M581 H581 G581 rfl W581 2 rfl (Nat.le_of_ble_eq_true rfl)
  have K581 := K0.wr W581 (Or.inl (List.mem_of_getElem? (i := 0) rfl))
  have N581 := Fr.snoc X581 N0 g_b6_countOf
  refine own_s (g' := (mkF m 10 #[.val (.ref a6_0), .val (.int 2)] [])) st581 ?_
  refine own_s (g' := (mkF m 11 #[.val (.ref a6_0), .val (.int 2)] [(.ref a6_0)])) (fun _ kz => XS.aloadN X581.here hx rfl (hb hby d6_10) rfl rfl kz) ?_
  have f583 := (F_countOf_a6_0.other W581 (Or.inl ne_a6_0_b6_countOf))
  obtain ⟨T584, X584, e584, st584⟩ := getF X581 hx hZ hown (host := "") (Or.inl ww22) Via.refl e581 f583 (g := (mkF m 11 #[.val (.ref a6_0), .val (.int 2)] [(.ref a6_0)])) rfl rfl (hb hby d6_11)
  refine own_s (g' := (mkF m 14 #[.val (.ref a6_0), .val (.int 2)] [(.ref b6_countOf)])) st584 ?_
  refine own_s (g' := (mkF m 15 #[.val (.ref a6_0), .val (.int 2)] [(.int 2), (.ref b6_countOf)])) (fun _ kz => XS.iloadN X584.here hx rfl (hb hby d6_14) rfl kz) ?_
  refine own_s (g' := (mkF m 16 #[.val (.ref a6_0), .val (.int 2)] [(.int 1), (.int 2), (.ref b6_countOf)])) (fun _ kz => XS.iconst X584.here hx rfl (hb hby d6_15) kz) ?_
  refine own_s (g' := (mkF m 17 #[.val (.ref a6_0), .val (.int 2)] [(.int ((2 : Int32) - (1 : Int32))), (.ref b6_countOf)])) (fun _ kz => XS.isub X584.here hx rfl (hb hby d6_16) rfl kz) ?_
  rw [show ((2 : Int32) - (1 : Int32)) = (1 : Int32) from by decide]
  refine own_s (g' := (mkF m 18 #[.val (.ref a6_0), .val (.int 2)] [(.int 1), (.ref b6_countOf), (.int 1), (.ref b6_countOf)])) (fun _ kz => XT.dup2 X584.here hx rfl (hb hby d6_17) rfl rfl rfl kz) ?_
  obtain ⟨cl585, Ar585, -, S585, -, H585, -⟩ := id f582
  have in585 := inb_of S585 (j := (1 : Int32)) ⟨by decide, by decide⟩
  refine own_s (g' := (mkF m 19 #[.val (.ref a6_0), .val (.int 2)] [(.int y1), (.int 1), (.ref b6_countOf)])) (X584.iaload hx (j := (1 : Int32)) (v := (.int y1)) (by rw [e584]; exact Ar585.1) (State.isArrayOf_alike hZ.alike Ar585.2.1) Ar585.2.2 in585 (Has.at H585 in585 rfl) (g := (mkF m 18 #[.val (.ref a6_0), .val (.int 2)] [(.int 1), (.ref b6_countOf), (.int 1), (.ref b6_countOf)])) rfl rfl (hb hby d6_18)) ?_
  refine own_s (g' := (mkF m 20 #[.val (.ref a6_0), .val (.int 2)] [(.int 1), (.int y1), (.int 1), (.ref b6_countOf)])) (fun _ kz => XS.iconst X584.here hx rfl (hb hby d6_19) kz) ?_
  refine own_s (g' := (mkF m 21 #[.val (.ref a6_0), .val (.int 2)] [(.int (y1 + (1 : Int32))), (.int 1), (.ref b6_countOf)])) (fun _ kz => XS.iadd X584.here hx rfl (hb hby d6_20) rfl kz) ?_
  obtain ⟨cl586, Ar586, q586, S586, M586, H586, G586⟩ := id f582
  obtain ⟨T586, h586, X586, e586, W586, st586⟩ := stI X584 hx hZ e584 Ar586 (j := (1 : Int32)) (inb_of S586 ⟨by decide, by decide⟩) (g := (mkF m 21 #[.val (.ref a6_0), .val (.int 2)] [(.int (y1 + (1 : Int32))), (.int 1), (.ref b6_countOf)])) rfl rfl (hb hby d6_21)
  have f587 : Arv Z h586 b6_countOf ky .int (4 : Int32) [(.int y0), (.int (y1 + (1 : Int32))), (.int (y2 - (1 : Int32))), (.int y3)] (.int (0 : Int32)) := Arv.set Ar586 q586 S586 M586 H586 G586 rfl W586 1 rfl (Nat.le_of_ble_eq_true rfl)
  have K586 := K581.wr W586 (Or.inl (List.mem_of_getElem? (i := 0) rfl))
  have N586 := Fr.snoc X586 N581 g_b6_countOf
  refine own_s (g' := (mkF m 22 #[.val (.ref a6_0), .val (.int 2)] [])) st586 ?_
  refine own_s (g' := (mkF m 23 #[.val (.ref a6_0), .val (.int 2)] [(.ref a6_0)])) (fun _ kz => XS.aloadN X586.here hx rfl (hb hby d6_22) rfl rfl kz) ?_
  have f588 := ((F_atLeast_a6_0.other W581 (Or.inl ne_a6_0_b6_countOf)).other W586 (Or.inl ne_a6_0_b6_countOf))
  obtain ⟨T589, X589, e589, st589⟩ := getF X586 hx hZ hown (host := "") (Or.inl ww30) Via.refl e586 f588 (g := (mkF m 23 #[.val (.ref a6_0), .val (.int 2)] [(.ref a6_0)])) rfl rfl (hb hby d6_23)
  refine own_s (g' := (mkF m 26 #[.val (.ref a6_0), .val (.int 2)] [(.ref b6_atLeast)])) st589 ?_
  refine own_s (g' := (mkF m 27 #[.val (.ref a6_0), .val (.int 2)] [(.int 2), (.ref b6_atLeast)])) (fun _ kz => XS.iloadN X589.here hx rfl (hb hby d6_26) rfl kz) ?_
  refine own_s (g' := (mkF m 28 #[.val (.ref a6_0), .val (.int 2)] [(.int 2), (.ref b6_atLeast), (.int 2), (.ref b6_atLeast)])) (fun _ kz => XT.dup2 X589.here hx rfl (hb hby d6_27) rfl rfl rfl kz) ?_
  have f590 := ((V_b6_atLeast.other W581 ne_b6_atLeast_b6_countOf).other W586 ne_b6_atLeast_b6_countOf)
  obtain ⟨cl591, Ar591, -, S591, -, H591, -⟩ := id f590
  have in591 := inb_of S591 (j := (2 : Int32)) ⟨by decide, hna⟩
  refine own_s (g' := (mkF m 29 #[.val (.ref a6_0), .val (.int 2)] [(.int x2), (.int 2), (.ref b6_atLeast)])) (X589.iaload hx (j := (2 : Int32)) (v := (.int x2)) (by rw [e589]; exact Ar591.1) (State.isArrayOf_alike hZ.alike Ar591.2.1) Ar591.2.2 in591 (Has.at H591 in591 rfl) (g := (mkF m 28 #[.val (.ref a6_0), .val (.int 2)] [(.int 2), (.ref b6_atLeast), (.int 2), (.ref b6_atLeast)])) rfl rfl (hb hby d6_28)) ?_
  refine own_s (g' := (mkF m 30 #[.val (.ref a6_0), .val (.int 2)] [(.int 1), (.int x2), (.int 2), (.ref b6_atLeast)])) (fun _ kz => XS.iconst X589.here hx rfl (hb hby d6_29) kz) ?_
  refine own_s (g' := (mkF m 31 #[.val (.ref a6_0), .val (.int 2)] [(.int (x2 - (1 : Int32))), (.int 2), (.ref b6_atLeast)])) (fun _ kz => XS.isub X589.here hx rfl (hb hby d6_30) rfl kz) ?_
  obtain ⟨cl592, Ar592, q592, S592, M592, H592, G592⟩ := id f590
  obtain ⟨T592, h592, X592, e592, W592, st592⟩ := stI X589 hx hZ e589 Ar592 (j := (2 : Int32)) (inb_of S592 ⟨by decide, hna⟩) (g := (mkF m 31 #[.val (.ref a6_0), .val (.int 2)] [(.int (x2 - (1 : Int32))), (.int 2), (.ref b6_atLeast)])) rfl rfl (hb hby d6_31)
  have f593 : Arv Z h592 b6_atLeast kx .int na [(.int x0), (.int x1), (.int (x2 - (1 : Int32))), (.int x3), (.int x4)] (.int (0 : Int32)) := Arv.set Ar592 q592 S592 M592 H592 G592 rfl W592 2 rfl (Nat.le_of_ble_eq_true rfl)
  have K592 := K586.wr W592 (Or.inl (List.mem_of_getElem? (i := 1) rfl))
  have N592 := Fr.snoc X592 N586 g_b6_atLeast
  refine own_s (g' := (mkF m 32 #[.val (.ref a6_0), .val (.int 2)] [])) st592 ?_
  refine own_s (g' := (mkF m 33 #[.val (.ref a6_0), .val (.int 2)] [(.ref a6_0)])) (fun _ kz => XS.aloadN X592.here hx rfl (hb hby d6_32) rfl rfl kz) ?_
  refine own_s (g' := (mkF m 34 #[.val (.ref a6_0), .val (.int 2)] [(.ref a6_0), (.ref a6_0)])) (fun _ kz => XS.dup X592.here hx rfl (hb hby d6_33) rfl rfl kz) ?_
  have f594 := (((F_sum_a6_0.other W581 (Or.inl ne_a6_0_b6_countOf)).other W586 (Or.inl ne_a6_0_b6_countOf)).other W592 (Or.inl ne_a6_0_b6_atLeast))
  obtain ⟨T595, X595, e595, st595⟩ := getF X592 hx hZ hown (host := "") (Or.inl ww32) Via.refl e592 f594 (g := (mkF m 34 #[.val (.ref a6_0), .val (.int 2)] [(.ref a6_0), (.ref a6_0)])) rfl rfl (hb hby d6_34)
  refine own_s (g' := (mkF m 37 #[.val (.ref a6_0), .val (.int 2)] [(.long v6_sum), (.ref a6_0)])) st595 ?_
  refine own_s (g' := (mkF m 38 #[.val (.ref a6_0), .val (.int 2)] [(.long 1), (.long v6_sum), (.ref a6_0)])) (fun _ kz => XS.lconst X595.here hx rfl (hb hby d6_37) kz) ?_
  refine own_s (g' := (mkF m 39 #[.val (.ref a6_0), .val (.int 2)] [(.long (v6_sum - (1 : Int64))), (.ref a6_0)])) (fun _ kz => XS.lsub X595.here hx rfl (hb hby d6_38) rfl kz) ?_
  have f596 := (((E_a6_0.wr W581).wr W586).wr W592)
  obtain ⟨T597, h597, X597, e597, W597, st597⟩ := putF X595 hx hZ hown (host := "") (Or.inl ww32) Via.refl e595 f594 f596 (Or.inl ww33) ww5 (ty := .long) (by decide +kernel) rfl rfl (g := (mkF m 39 #[.val (.ref a6_0), .val (.int 2)] [(.long (v6_sum - (1 : Int64))), (.ref a6_0)])) rfl rfl (hb hby d6_39)
  have f598 := f594.same W597
  have K597 := K592.wr W597 (Or.inl (List.mem_of_getElem? (i := 2) rfl))
  have N597 := Fr.snoc X597 N592 g_a6_0
  refine own_s (g' := (mkF m 42 #[.val (.ref a6_0), .val (.int 2)] [])) st597 ?_
  refine own_s (g' := (mkF m 43 #[.val (.ref a6_0), .val (.int 2)] [(.ref a6_0)])) (fun _ kz => XS.aloadN X597.here hx rfl (hb hby d6_42) rfl rfl kz) ?_
  have f599 := ((((F_largest_a6_0.other W581 (Or.inl ne_a6_0_b6_countOf)).other W586 (Or.inl ne_a6_0_b6_countOf)).other W592 (Or.inl ne_a6_0_b6_atLeast)).other W597 (Or.inr (own_sn_29_33 hw)))
  obtain ⟨T600, X600, e600, st600⟩ := getF X597 hx hZ hown (host := "") (Or.inl ww28) Via.refl e597 f599 (g := (mkF m 43 #[.val (.ref a6_0), .val (.int 2)] [(.ref a6_0)])) rfl rfl (hb hby d6_43)
  refine own_s (g' := (mkF m 46 #[.val (.ref a6_0), .val (.int 2)] [(.int 3)])) st600 ?_
  refine own_s (g' := (mkF m 49 #[.val (.ref a6_0), .val (.int 2)] [])) (fun _ kz => XS.ifNo X600.here hx rfl (hb hby d6_46) rfl ((if0 _ _).trans (tlt ((by decide) : (0 : Int32) < (3 : Int32))).2.2.2) kz) ?_
  refine own_s (g' := (mkF m 50 #[.val (.ref a6_0), .val (.int 2)] [(.ref a6_0)])) (fun _ kz => XS.aloadN X600.here hx rfl (hb hby d6_49) rfl rfl kz) ?_
  have f601 := (((f583.other W586 (Or.inl ne_a6_0_b6_countOf)).other W592 (Or.inl ne_a6_0_b6_atLeast)).other W597 (Or.inr (own_sn_23_33 hw)))
  obtain ⟨T602, X602, e602, st602⟩ := getF X600 hx hZ hown (host := "") (Or.inl ww22) Via.refl e600 f601 (g := (mkF m 50 #[.val (.ref a6_0), .val (.int 2)] [(.ref a6_0)])) rfl rfl (hb hby d6_50)
  refine own_s (g' := (mkF m 53 #[.val (.ref a6_0), .val (.int 2)] [(.ref b6_countOf)])) st602 ?_
  refine own_s (g' := (mkF m 54 #[.val (.ref a6_0), .val (.int 2)] [(.ref a6_0), (.ref b6_countOf)])) (fun _ kz => XS.aloadN X602.here hx rfl (hb hby d6_53) rfl rfl kz) ?_
  obtain ⟨T603, X603, e603, st603⟩ := getF X602 hx hZ hown (host := "") (Or.inl ww28) Via.refl e602 f599 (g := (mkF m 54 #[.val (.ref a6_0), .val (.int 2)] [(.ref a6_0), (.ref b6_countOf)])) rfl rfl (hb hby d6_54)
  refine own_s (g' := (mkF m 57 #[.val (.ref a6_0), .val (.int 2)] [(.int 3), (.ref b6_countOf)])) st603 ?_
  have f604 := ((f587.other W592 (Ne.symm ne_b6_atLeast_b6_countOf)).other W597 (Ne.symm ne_a6_0_b6_countOf))
  obtain ⟨cl605, Ar605, -, S605, -, H605, -⟩ := id f604
  have in605 := inb_of S605 (j := (3 : Int32)) ⟨by decide, by decide⟩
  refine own_s (g' := (mkF m 58 #[.val (.ref a6_0), .val (.int 2)] [(.int y3)])) (X603.iaload hx (j := (3 : Int32)) (v := (.int y3)) (by rw [e603]; exact Ar605.1) (State.isArrayOf_alike hZ.alike Ar605.2.1) Ar605.2.2 in605 (Has.at H605 in605 rfl) (g := (mkF m 57 #[.val (.ref a6_0), .val (.int 2)] [(.int 3), (.ref b6_countOf)])) rfl rfl (hb hby d6_57)) ?_
  refine own_s (g' := (mkF m 74 #[.val (.ref a6_0), .val (.int 2)] [])) (fun _ kz => XS.ifYes X603.here hx rfl (pc0 := 58) (pc' := 74) rfl (hb hby d6_58) rfl ((if0 _ _).trans (feq hA0).2) (by decide) (by decide) kz) ?_
  have f606 := ((f588.other W592 (Or.inl ne_a6_0_b6_atLeast)).other W597 (Or.inr (own_sn_31_33 hw)))
  have f607 := ((((F_partnersOf_a6_0.other W581 (Or.inl ne_a6_0_b6_countOf)).other W586 (Or.inl ne_a6_0_b6_countOf)).other W592 (Or.inl ne_a6_0_b6_atLeast)).other W597 (Or.inr (own_sn_35_33 hw)))
  have f608 := ((((F_saved_a6_0.other W581 (Or.inl ne_a6_0_b6_countOf)).other W586 (Or.inl ne_a6_0_b6_countOf)).other W592 (Or.inl ne_a6_0_b6_atLeast)).other W597 (Or.inr (own_sn_37_33 hw)))
  have f609 := ((((F_slack_a6_0.other W581 (Or.inl ne_a6_0_b6_countOf)).other W586 (Or.inl ne_a6_0_b6_countOf)).other W592 (Or.inl ne_a6_0_b6_atLeast)).other W597 (Or.inr (own_sn_47_33 hw)))
  have f610 := ((((F_nextTight_a6_0.other W581 (Or.inl ne_a6_0_b6_countOf)).other W586 (Or.inl ne_a6_0_b6_countOf)).other W592 (Or.inl ne_a6_0_b6_atLeast)).other W597 (Or.inr (own_sn_49_33 hw)))
  have f611 := (f596.wr W597)
  have f612 := (f593.other W597 (Ne.symm ne_a6_0_b6_atLeast))
  refine own_retV X603 hx hlk hret (hb hby d6_74) (by decide) (by decide) ?_
  show Q6L3d2 Z a6_0 b6_countOf b6_atLeast v6_sum b6_partnersOf b6_saved b6_slack b6_nextTight ky y0 y1 y2 y3 kx na x0 x1 x2 x3 x4 h0 n0 _ T603.heap _
  rw [e603]
  exact ⟨rfl, N597, K597, f604, f612, f611, f601, f606, f599, f607, f608, f609, f610, f598⟩
theorem ef_6L3d3 (m : MethodId) (a6_0 : Addr) : entryFrame m #[(.ref a6_0), (.int 3)] 2 = mkF m 0 #[.val (.ref a6_0), .val (.int 3)] [] := by first | (simp [entryFrame, mkF, argsToLocals, Value.category]; done) | rfl
def w6L3d3_largest (y3 : Int32) : Int32 := (if (y3 - (1 : Int32)) = (0 : Int32) then (2 : Int32) else (3 : Int32))
def Q6L3d3 (Z : State) (a6_0 : Addr) (b6_countOf : Addr) (b6_atLeast : Addr) (v6_sum : Int64) (b6_partnersOf : Addr) (b6_saved : Addr) (b6_slack : Addr) (b6_nextTight : Addr) (ky : ClassId) (y0 : Int32) (y1 : Int32) (y2 : Int32) (y3 : Int32) (kx : ClassId) (na : Int32) (x0 : Int32) (x1 : Int32) (x2 : Int32) (x3 : Int32) (x4 : Int32) (h0 : Heap) (n0 : Nat) (v : Option Value) (h : Heap) (L : List Loc) : Prop := v = none ∧ Fr n0 L ∧ Keep h0 h [b6_countOf, b6_atLeast, a6_0] ∧ Arv Z h b6_countOf ky .int (4 : Int32) [(.int y0), (.int y1), (.int (y2 + (1 : Int32))), (.int (y3 - (1 : Int32)))] (.int (0 : Int32)) ∧ Arv Z h b6_atLeast kx .int na [(.int x0), (.int x1), (.int x2), (.int (x3 - (1 : Int32))), (.int x4)] (.int (0 : Int32)) ∧ Exa Z h a6_0 "gallai/service/ResidualDegrees" ∧ Fld Z h a6_0 "gallai/service/ResidualDegrees" "countOf" "[I" (.ref b6_countOf) ∧ Fld Z h a6_0 "gallai/service/ResidualDegrees" "atLeast" "[I" (.ref b6_atLeast) ∧ Fld Z h a6_0 "gallai/service/ResidualDegrees" "partnersOf" "[I" (.ref b6_partnersOf) ∧ Fld Z h a6_0 "gallai/service/ResidualDegrees" "saved" "[I" (.ref b6_saved) ∧ Fld Z h a6_0 "gallai/service/ResidualDegrees" "slack" "[J" (.ref b6_slack) ∧ Fld Z h a6_0 "gallai/service/ResidualDegrees" "nextTight" "[I" (.ref b6_nextTight) ∧ Fld Z h a6_0 "gallai/service/ResidualDegrees" "sum" "J" (.long (v6_sum - (1 : Int64))) ∧ Fld Z h a6_0 "gallai/service/ResidualDegrees" "largest" "I" (.int (w6L3d3_largest y3))
set_option maxRecDepth 65536 in
set_option maxHeartbeats 40000000 in
theorem rm6L3d3 (l : Launch) (Z : State) (a0 : Array Value) (hw : ∀ d ∈ tables_1, d.before a0 Z = true) (ws : List Jvm.Cond) (a6_0 : Addr) (b6_countOf : Addr) (b6_atLeast : Addr) (v6_sum : Int64) (b6_partnersOf : Addr) (b6_saved : Addr) (b6_slack : Addr) (b6_nextTight : Addr) (ky : ClassId) (y0 : Int32) (y1 : Int32) (y2 : Int32) (y3 : Int32) (kx : ClassId) (na : Int32) (x0 : Int32) (x1 : Int32) (x2 : Int32) (x3 : Int32) (x4 : Int32) (h0 : Heap) (n0 : Nat) (Z0 : n0 ≤ h0.size) (F_countOf_a6_0 : Fld Z h0 a6_0 "gallai/service/ResidualDegrees" "countOf" "[I" (.ref b6_countOf)) (F_atLeast_a6_0 : Fld Z h0 a6_0 "gallai/service/ResidualDegrees" "atLeast" "[I" (.ref b6_atLeast)) (F_sum_a6_0 : Fld Z h0 a6_0 "gallai/service/ResidualDegrees" "sum" "J" (.long v6_sum)) (F_largest_a6_0 : Fld Z h0 a6_0 "gallai/service/ResidualDegrees" "largest" "I" (.int 3)) (F_partnersOf_a6_0 : Fld Z h0 a6_0 "gallai/service/ResidualDegrees" "partnersOf" "[I" (.ref b6_partnersOf)) (F_saved_a6_0 : Fld Z h0 a6_0 "gallai/service/ResidualDegrees" "saved" "[I" (.ref b6_saved)) (F_slack_a6_0 : Fld Z h0 a6_0 "gallai/service/ResidualDegrees" "slack" "[J" (.ref b6_slack)) (F_nextTight_a6_0 : Fld Z h0 a6_0 "gallai/service/ResidualDegrees" "nextTight" "[I" (.ref b6_nextTight)) (E_a6_0 : Exa Z h0 a6_0 "gallai/service/ResidualDegrees") (V_b6_countOf : Arv Z h0 b6_countOf ky .int (4 : Int32) [(.int y0), (.int y1), (.int y2), (.int y3)] (.int (0 : Int32))) (V_b6_atLeast : Arv Z h0 b6_atLeast kx .int na [(.int x0), (.int x1), (.int x2), (.int x3), (.int x4)] (.int (0 : Int32))) (g_b6_countOf : n0 ≤ b6_countOf) (g_b6_atLeast : n0 ≤ b6_atLeast) (g_a6_0 : n0 ≤ a6_0) (ne_a6_0_b6_countOf : a6_0 ≠ b6_countOf) (ne_b6_atLeast_b6_countOf : b6_atLeast ≠ b6_countOf) (ne_a6_0_b6_atLeast : a6_0 ≠ b6_atLeast) (hA0 : ¬ (y2 + (1 : Int32)) = (0 : Int32)) (hna : (3 : Int32) < na) :
    MetFree l (⟨"gallai/service/ResidualDegrees", "lower", "(I)V"⟩ : MethodName) (head1 (Jvm.Cond.code (⟨"gallai/service/ResidualDegrees", "lower", "(I)V"⟩ : MethodName) prog_45_method_5_code 2 none :: ws) ({ frames := 0, cells := 0, slots := 0, locals := 0 } : Room)) (fun a U => a = #[(.ref a6_0), (.int 3)] ∧ Z.Warmed39 U.vm ∧ U.heap = h0) (fun _ _ _ _ _ => True) (fun _ U o U' => ∃ v L, o = .returned v ∧ Q6L3d3 Z a6_0 b6_countOf b6_atLeast v6_sum b6_partnersOf b6_saved b6_slack b6_nextTight ky y0 y1 y2 y3 kx na x0 x1 x2 x3 x4 h0 n0 v U'.heap L ∧ FrameEnd U o U' L ({ frames := 0, cells := 0, slots := 0, locals := 0 } : Room).cells ({ frames := 0, cells := 0, slots := 0, locals := 0 } : Room).slots) := by
  refine MetFree.of_bodySF (plainFor_of_name pn_gallai_service_ResidualDegrees) hisR ?_
  intro p e s m args below meth c s₁ Bd hml0 hP hK
  obtain ⟨rfl, hZ, hh⟩ := hP
  have hx := Bd.exec
  have hby := Bd.bytes
  have hlk := Bd.notSynchronized
  have hret := Bd.returns
  have hml : c.maxLocals = 2 := hml0
  have hown : s.vm.findClass "gallai/service/ResidualDegrees" = some m.cls := findClass_of_methodNamed Bd.named
  have hnm := (name_of_methodNamed Bd.named Bd.method).1
  have X0 : Stand p l e ({ frames := 0, cells := 0, slots := 0, locals := 0 } : Room) s m #[(.ref a6_0), (.int 3)] below meth c s₁ [] 0 0 := Stand.of_body Bd
  have e0 : s₁.heap = h0 := by rw [← hh, Bd.state]; rfl
  have N0 := Fr.nil n0
  have K0 : Keep h0 h0 [b6_countOf, b6_atLeast, a6_0] := Keep.refl _ _
  show own_G p e below s (Q6L3d3 Z a6_0 b6_countOf b6_atLeast v6_sum b6_partnersOf b6_saved b6_slack b6_nextTight ky y0 y1 y2 y3 kx na x0 x1 x2 x3 x4 h0 n0) ({ frames := 0, cells := 0, slots := 0, locals := 0 } : Room).cells ({ frames := 0, cells := 0, slots := 0, locals := 0 } : Room).slots s₁ (entryFrame m #[(.ref a6_0), (.int 3)] 2)
  have ww5 := hw _ (List.mem_of_getElem? (i := 5) rfl)
  have ww22 := hw _ (List.mem_of_getElem? (i := 22) rfl)
  have ww28 := hw _ (List.mem_of_getElem? (i := 28) rfl)
  have ww29 := hw _ (List.mem_of_getElem? (i := 29) rfl)
  have ww30 := hw _ (List.mem_of_getElem? (i := 30) rfl)
  have ww32 := hw _ (List.mem_of_getElem? (i := 32) rfl)
  have ww33 := hw _ (List.mem_of_getElem? (i := 33) rfl)
  refine own_cast (ef_6L3d3 m a6_0) ?_
  refine own_s (g' := (mkF m 1 #[.val (.ref a6_0), .val (.int 3)] [(.ref a6_0)])) (fun _ kz => XS.aloadN X0.here hx rfl (hb hby d6_0) rfl rfl kz) ?_
  obtain ⟨T613, X613, e613, st613⟩ := getF X0 hx hZ hown (host := "") (Or.inl ww22) Via.refl e0 F_countOf_a6_0 (g := (mkF m 1 #[.val (.ref a6_0), .val (.int 3)] [(.ref a6_0)])) rfl rfl (hb hby d6_1)
  refine own_s (g' := (mkF m 4 #[.val (.ref a6_0), .val (.int 3)] [(.ref b6_countOf)])) st613 ?_
  refine own_s (g' := (mkF m 5 #[.val (.ref a6_0), .val (.int 3)] [(.int 3), (.ref b6_countOf)])) (fun _ kz => XS.iloadN X613.here hx rfl (hb hby d6_4) rfl kz) ?_
  refine own_s (g' := (mkF m 6 #[.val (.ref a6_0), .val (.int 3)] [(.int 3), (.ref b6_countOf), (.int 3), (.ref b6_countOf)])) (fun _ kz => XT.dup2 X613.here hx rfl (hb hby d6_5) rfl rfl rfl kz) ?_
  obtain ⟨cl614, Ar614, -, S614, -, H614, -⟩ := id V_b6_countOf
  have in614 := inb_of S614 (j := (3 : Int32)) ⟨by decide, by decide⟩
  refine own_s (g' := (mkF m 7 #[.val (.ref a6_0), .val (.int 3)] [(.int y3), (.int 3), (.ref b6_countOf)])) (X613.iaload hx (j := (3 : Int32)) (v := (.int y3)) (by rw [e613]; exact Ar614.1) (State.isArrayOf_alike hZ.alike Ar614.2.1) Ar614.2.2 in614 (Has.at H614 in614 rfl) (g := (mkF m 6 #[.val (.ref a6_0), .val (.int 3)] [(.int 3), (.ref b6_countOf), (.int 3), (.ref b6_countOf)])) rfl rfl (hb hby d6_6)) ?_
  refine own_s (g' := (mkF m 8 #[.val (.ref a6_0), .val (.int 3)] [(.int 1), (.int y3), (.int 3), (.ref b6_countOf)])) (fun _ kz => XS.iconst X613.here hx rfl (hb hby d6_7) kz) ?_
  refine own_s (g' := (mkF m 9 #[.val (.ref a6_0), .val (.int 3)] [(.int (y3 - (1 : Int32))), (.int 3), (.ref b6_countOf)])) (fun _ kz => XS.isub X613.here hx rfl (hb hby d6_8) rfl kz) ?_
  obtain ⟨cl615, Ar615, q615, S615, M615, H615, G615⟩ := id V_b6_countOf
  obtain ⟨T615, h615, X615, e615, W615, st615⟩ := stI X613 hx hZ e613 Ar615 (j := (3 : Int32)) (inb_of S615 ⟨by decide, by decide⟩) (g := (mkF m 9 #[.val (.ref a6_0), .val (.int 3)] [(.int (y3 - (1 : Int32))), (.int 3), (.ref b6_countOf)])) rfl rfl (hb hby d6_9)
  have f616 : Arv Z h615 b6_countOf ky .int (4 : Int32) [(.int y0), (.int y1), (.int y2), (.int (y3 - (1 : Int32)))] (.int (0 : Int32)) := Arv.set Ar615 q615 S615 M615 H615 G615 rfl W615 3 rfl (Nat.le_of_ble_eq_true rfl)
  have K615 := K0.wr W615 (Or.inl (List.mem_of_getElem? (i := 0) rfl))
  have N615 := Fr.snoc X615 N0 g_b6_countOf
  refine own_s (g' := (mkF m 10 #[.val (.ref a6_0), .val (.int 3)] [])) st615 ?_
  refine own_s (g' := (mkF m 11 #[.val (.ref a6_0), .val (.int 3)] [(.ref a6_0)])) (fun _ kz => XS.aloadN X615.here hx rfl (hb hby d6_10) rfl rfl kz) ?_
  have f617 := (F_countOf_a6_0.other W615 (Or.inl ne_a6_0_b6_countOf))
  obtain ⟨T618, X618, e618, st618⟩ := getF X615 hx hZ hown (host := "") (Or.inl ww22) Via.refl e615 f617 (g := (mkF m 11 #[.val (.ref a6_0), .val (.int 3)] [(.ref a6_0)])) rfl rfl (hb hby d6_11)
  refine own_s (g' := (mkF m 14 #[.val (.ref a6_0), .val (.int 3)] [(.ref b6_countOf)])) st618 ?_
  refine own_s (g' := (mkF m 15 #[.val (.ref a6_0), .val (.int 3)] [(.int 3), (.ref b6_countOf)])) (fun _ kz => XS.iloadN X618.here hx rfl (hb hby d6_14) rfl kz) ?_
  refine own_s (g' := (mkF m 16 #[.val (.ref a6_0), .val (.int 3)] [(.int 1), (.int 3), (.ref b6_countOf)])) (fun _ kz => XS.iconst X618.here hx rfl (hb hby d6_15) kz) ?_
  refine own_s (g' := (mkF m 17 #[.val (.ref a6_0), .val (.int 3)] [(.int ((3 : Int32) - (1 : Int32))), (.ref b6_countOf)])) (fun _ kz => XS.isub X618.here hx rfl (hb hby d6_16) rfl kz) ?_
  rw [show ((3 : Int32) - (1 : Int32)) = (2 : Int32) from by decide]
  refine own_s (g' := (mkF m 18 #[.val (.ref a6_0), .val (.int 3)] [(.int 2), (.ref b6_countOf), (.int 2), (.ref b6_countOf)])) (fun _ kz => XT.dup2 X618.here hx rfl (hb hby d6_17) rfl rfl rfl kz) ?_
  obtain ⟨cl619, Ar619, -, S619, -, H619, -⟩ := id f616
  have in619 := inb_of S619 (j := (2 : Int32)) ⟨by decide, by decide⟩
  refine own_s (g' := (mkF m 19 #[.val (.ref a6_0), .val (.int 3)] [(.int y2), (.int 2), (.ref b6_countOf)])) (X618.iaload hx (j := (2 : Int32)) (v := (.int y2)) (by rw [e618]; exact Ar619.1) (State.isArrayOf_alike hZ.alike Ar619.2.1) Ar619.2.2 in619 (Has.at H619 in619 rfl) (g := (mkF m 18 #[.val (.ref a6_0), .val (.int 3)] [(.int 2), (.ref b6_countOf), (.int 2), (.ref b6_countOf)])) rfl rfl (hb hby d6_18)) ?_
  refine own_s (g' := (mkF m 20 #[.val (.ref a6_0), .val (.int 3)] [(.int 1), (.int y2), (.int 2), (.ref b6_countOf)])) (fun _ kz => XS.iconst X618.here hx rfl (hb hby d6_19) kz) ?_
  refine own_s (g' := (mkF m 21 #[.val (.ref a6_0), .val (.int 3)] [(.int (y2 + (1 : Int32))), (.int 2), (.ref b6_countOf)])) (fun _ kz => XS.iadd X618.here hx rfl (hb hby d6_20) rfl kz) ?_
  obtain ⟨cl620, Ar620, q620, S620, M620, H620, G620⟩ := id f616
  obtain ⟨T620, h620, X620, e620, W620, st620⟩ := stI X618 hx hZ e618 Ar620 (j := (2 : Int32)) (inb_of S620 ⟨by decide, by decide⟩) (g := (mkF m 21 #[.val (.ref a6_0), .val (.int 3)] [(.int (y2 + (1 : Int32))), (.int 2), (.ref b6_countOf)])) rfl rfl (hb hby d6_21)
  have f621 : Arv Z h620 b6_countOf ky .int (4 : Int32) [(.int y0), (.int y1), (.int (y2 + (1 : Int32))), (.int (y3 - (1 : Int32)))] (.int (0 : Int32)) := Arv.set Ar620 q620 S620 M620 H620 G620 rfl W620 2 rfl (Nat.le_of_ble_eq_true rfl)
  have K620 := K615.wr W620 (Or.inl (List.mem_of_getElem? (i := 0) rfl))
  have N620 := Fr.snoc X620 N615 g_b6_countOf
  refine own_s (g' := (mkF m 22 #[.val (.ref a6_0), .val (.int 3)] [])) st620 ?_
  refine own_s (g' := (mkF m 23 #[.val (.ref a6_0), .val (.int 3)] [(.ref a6_0)])) (fun _ kz => XS.aloadN X620.here hx rfl (hb hby d6_22) rfl rfl kz) ?_
  have f622 := ((F_atLeast_a6_0.other W615 (Or.inl ne_a6_0_b6_countOf)).other W620 (Or.inl ne_a6_0_b6_countOf))
  obtain ⟨T623, X623, e623, st623⟩ := getF X620 hx hZ hown (host := "") (Or.inl ww30) Via.refl e620 f622 (g := (mkF m 23 #[.val (.ref a6_0), .val (.int 3)] [(.ref a6_0)])) rfl rfl (hb hby d6_23)
  refine own_s (g' := (mkF m 26 #[.val (.ref a6_0), .val (.int 3)] [(.ref b6_atLeast)])) st623 ?_
  refine own_s (g' := (mkF m 27 #[.val (.ref a6_0), .val (.int 3)] [(.int 3), (.ref b6_atLeast)])) (fun _ kz => XS.iloadN X623.here hx rfl (hb hby d6_26) rfl kz) ?_
  refine own_s (g' := (mkF m 28 #[.val (.ref a6_0), .val (.int 3)] [(.int 3), (.ref b6_atLeast), (.int 3), (.ref b6_atLeast)])) (fun _ kz => XT.dup2 X623.here hx rfl (hb hby d6_27) rfl rfl rfl kz) ?_
  have f624 := ((V_b6_atLeast.other W615 ne_b6_atLeast_b6_countOf).other W620 ne_b6_atLeast_b6_countOf)
  obtain ⟨cl625, Ar625, -, S625, -, H625, -⟩ := id f624
  have in625 := inb_of S625 (j := (3 : Int32)) ⟨by decide, hna⟩
  refine own_s (g' := (mkF m 29 #[.val (.ref a6_0), .val (.int 3)] [(.int x3), (.int 3), (.ref b6_atLeast)])) (X623.iaload hx (j := (3 : Int32)) (v := (.int x3)) (by rw [e623]; exact Ar625.1) (State.isArrayOf_alike hZ.alike Ar625.2.1) Ar625.2.2 in625 (Has.at H625 in625 rfl) (g := (mkF m 28 #[.val (.ref a6_0), .val (.int 3)] [(.int 3), (.ref b6_atLeast), (.int 3), (.ref b6_atLeast)])) rfl rfl (hb hby d6_28)) ?_
  refine own_s (g' := (mkF m 30 #[.val (.ref a6_0), .val (.int 3)] [(.int 1), (.int x3), (.int 3), (.ref b6_atLeast)])) (fun _ kz => XS.iconst X623.here hx rfl (hb hby d6_29) kz) ?_
  refine own_s (g' := (mkF m 31 #[.val (.ref a6_0), .val (.int 3)] [(.int (x3 - (1 : Int32))), (.int 3), (.ref b6_atLeast)])) (fun _ kz => XS.isub X623.here hx rfl (hb hby d6_30) rfl kz) ?_
  obtain ⟨cl626, Ar626, q626, S626, M626, H626, G626⟩ := id f624
  obtain ⟨T626, h626, X626, e626, W626, st626⟩ := stI X623 hx hZ e623 Ar626 (j := (3 : Int32)) (inb_of S626 ⟨by decide, hna⟩) (g := (mkF m 31 #[.val (.ref a6_0), .val (.int 3)] [(.int (x3 - (1 : Int32))), (.int 3), (.ref b6_atLeast)])) rfl rfl (hb hby d6_31)
  have f627 : Arv Z h626 b6_atLeast kx .int na [(.int x0), (.int x1), (.int x2), (.int (x3 - (1 : Int32))), (.int x4)] (.int (0 : Int32)) := Arv.set Ar626 q626 S626 M626 H626 G626 rfl W626 3 rfl (Nat.le_of_ble_eq_true rfl)
  have K626 := K620.wr W626 (Or.inl (List.mem_of_getElem? (i := 1) rfl))
  have N626 := Fr.snoc X626 N620 g_b6_atLeast
  refine own_s (g' := (mkF m 32 #[.val (.ref a6_0), .val (.int 3)] [])) st626 ?_
  refine own_s (g' := (mkF m 33 #[.val (.ref a6_0), .val (.int 3)] [(.ref a6_0)])) (fun _ kz => XS.aloadN X626.here hx rfl (hb hby d6_32) rfl rfl kz) ?_
  refine own_s (g' := (mkF m 34 #[.val (.ref a6_0), .val (.int 3)] [(.ref a6_0), (.ref a6_0)])) (fun _ kz => XS.dup X626.here hx rfl (hb hby d6_33) rfl rfl kz) ?_
  have f628 := (((F_sum_a6_0.other W615 (Or.inl ne_a6_0_b6_countOf)).other W620 (Or.inl ne_a6_0_b6_countOf)).other W626 (Or.inl ne_a6_0_b6_atLeast))
  obtain ⟨T629, X629, e629, st629⟩ := getF X626 hx hZ hown (host := "") (Or.inl ww32) Via.refl e626 f628 (g := (mkF m 34 #[.val (.ref a6_0), .val (.int 3)] [(.ref a6_0), (.ref a6_0)])) rfl rfl (hb hby d6_34)
  refine own_s (g' := (mkF m 37 #[.val (.ref a6_0), .val (.int 3)] [(.long v6_sum), (.ref a6_0)])) st629 ?_
  refine own_s (g' := (mkF m 38 #[.val (.ref a6_0), .val (.int 3)] [(.long 1), (.long v6_sum), (.ref a6_0)])) (fun _ kz => XS.lconst X629.here hx rfl (hb hby d6_37) kz) ?_
  refine own_s (g' := (mkF m 39 #[.val (.ref a6_0), .val (.int 3)] [(.long (v6_sum - (1 : Int64))), (.ref a6_0)])) (fun _ kz => XS.lsub X629.here hx rfl (hb hby d6_38) rfl kz) ?_
  have f630 := (((E_a6_0.wr W615).wr W620).wr W626)
  obtain ⟨T631, h631, X631, e631, W631, st631⟩ := putF X629 hx hZ hown (host := "") (Or.inl ww32) Via.refl e629 f628 f630 (Or.inl ww33) ww5 (ty := .long) (by decide +kernel) rfl rfl (g := (mkF m 39 #[.val (.ref a6_0), .val (.int 3)] [(.long (v6_sum - (1 : Int64))), (.ref a6_0)])) rfl rfl (hb hby d6_39)
  have f632 := f628.same W631
  have K631 := K626.wr W631 (Or.inl (List.mem_of_getElem? (i := 2) rfl))
  have N631 := Fr.snoc X631 N626 g_a6_0
  refine own_s (g' := (mkF m 42 #[.val (.ref a6_0), .val (.int 3)] [])) st631 ?_
  refine own_s (g' := (mkF m 43 #[.val (.ref a6_0), .val (.int 3)] [(.ref a6_0)])) (fun _ kz => XS.aloadN X631.here hx rfl (hb hby d6_42) rfl rfl kz) ?_
  have f633 := ((((F_largest_a6_0.other W615 (Or.inl ne_a6_0_b6_countOf)).other W620 (Or.inl ne_a6_0_b6_countOf)).other W626 (Or.inl ne_a6_0_b6_atLeast)).other W631 (Or.inr (own_sn_29_33 hw)))
  obtain ⟨T634, X634, e634, st634⟩ := getF X631 hx hZ hown (host := "") (Or.inl ww28) Via.refl e631 f633 (g := (mkF m 43 #[.val (.ref a6_0), .val (.int 3)] [(.ref a6_0)])) rfl rfl (hb hby d6_43)
  refine own_s (g' := (mkF m 46 #[.val (.ref a6_0), .val (.int 3)] [(.int 3)])) st634 ?_
  refine own_s (g' := (mkF m 49 #[.val (.ref a6_0), .val (.int 3)] [])) (fun _ kz => XS.ifNo X634.here hx rfl (hb hby d6_46) rfl ((if0 _ _).trans (tlt ((by decide) : (0 : Int32) < (3 : Int32))).2.2.2) kz) ?_
  refine own_s (g' := (mkF m 50 #[.val (.ref a6_0), .val (.int 3)] [(.ref a6_0)])) (fun _ kz => XS.aloadN X634.here hx rfl (hb hby d6_49) rfl rfl kz) ?_
  have f635 := (((f617.other W620 (Or.inl ne_a6_0_b6_countOf)).other W626 (Or.inl ne_a6_0_b6_atLeast)).other W631 (Or.inr (own_sn_23_33 hw)))
  obtain ⟨T636, X636, e636, st636⟩ := getF X634 hx hZ hown (host := "") (Or.inl ww22) Via.refl e634 f635 (g := (mkF m 50 #[.val (.ref a6_0), .val (.int 3)] [(.ref a6_0)])) rfl rfl (hb hby d6_50)
  refine own_s (g' := (mkF m 53 #[.val (.ref a6_0), .val (.int 3)] [(.ref b6_countOf)])) st636 ?_
  refine own_s (g' := (mkF m 54 #[.val (.ref a6_0), .val (.int 3)] [(.ref a6_0), (.ref b6_countOf)])) (fun _ kz => XS.aloadN X636.here hx rfl (hb hby d6_53) rfl rfl kz) ?_
  obtain ⟨T637, X637, e637, st637⟩ := getF X636 hx hZ hown (host := "") (Or.inl ww28) Via.refl e636 f633 (g := (mkF m 54 #[.val (.ref a6_0), .val (.int 3)] [(.ref a6_0), (.ref b6_countOf)])) rfl rfl (hb hby d6_54)
  refine own_s (g' := (mkF m 57 #[.val (.ref a6_0), .val (.int 3)] [(.int 3), (.ref b6_countOf)])) st637 ?_
  have f638 := ((f621.other W626 (Ne.symm ne_b6_atLeast_b6_countOf)).other W631 (Ne.symm ne_a6_0_b6_countOf))
  obtain ⟨cl639, Ar639, -, S639, -, H639, -⟩ := id f638
  have in639 := inb_of S639 (j := (3 : Int32)) ⟨by decide, by decide⟩
  refine own_s (g' := (mkF m 58 #[.val (.ref a6_0), .val (.int 3)] [(.int (y3 - (1 : Int32)))])) (X637.iaload hx (j := (3 : Int32)) (v := (.int (y3 - (1 : Int32)))) (by rw [e637]; exact Ar639.1) (State.isArrayOf_alike hZ.alike Ar639.2.1) Ar639.2.2 in639 (Has.at H639 in639 rfl) (g := (mkF m 57 #[.val (.ref a6_0), .val (.int 3)] [(.int 3), (.ref b6_countOf)])) rfl rfl (hb hby d6_57)) ?_
  by_cases c640 : (y3 - (1 : Int32)) = (0 : Int32)
  ·skip
   refine own_s (g' := (mkF m 61 #[.val (.ref a6_0), .val (.int 3)] [])) (fun _ kz => XS.ifNo X637.here hx rfl (hb hby d6_58) rfl ((if0 _ _).trans (teq c640).2) kz) ?_
   refine own_s (g' := (mkF m 62 #[.val (.ref a6_0), .val (.int 3)] [(.ref a6_0)])) (fun _ kz => XS.aloadN X637.here hx rfl (hb hby d6_61) rfl rfl kz) ?_
   refine own_s (g' := (mkF m 63 #[.val (.ref a6_0), .val (.int 3)] [(.ref a6_0), (.ref a6_0)])) (fun _ kz => XS.dup X637.here hx rfl (hb hby d6_62) rfl rfl kz) ?_
   obtain ⟨T641, X641, e641, st641⟩ := getF X637 hx hZ hown (host := "") (Or.inl ww28) Via.refl e637 f633 (g := (mkF m 63 #[.val (.ref a6_0), .val (.int 3)] [(.ref a6_0), (.ref a6_0)])) rfl rfl (hb hby d6_63)
   refine own_s (g' := (mkF m 66 #[.val (.ref a6_0), .val (.int 3)] [(.int 3), (.ref a6_0)])) st641 ?_
   refine own_s (g' := (mkF m 67 #[.val (.ref a6_0), .val (.int 3)] [(.int 1), (.int 3), (.ref a6_0)])) (fun _ kz => XS.iconst X641.here hx rfl (hb hby d6_66) kz) ?_
   refine own_s (g' := (mkF m 68 #[.val (.ref a6_0), .val (.int 3)] [(.int ((3 : Int32) - (1 : Int32))), (.ref a6_0)])) (fun _ kz => XS.isub X641.here hx rfl (hb hby d6_67) rfl kz) ?_
   rw [show ((3 : Int32) - (1 : Int32)) = (2 : Int32) from by decide]
   have f642 := (f630.wr W631)
   obtain ⟨T643, h643, X643, e643, W643, st643⟩ := putF X641 hx hZ hown (host := "") (Or.inl ww28) Via.refl e641 f633 f642 (Or.inl ww29) ww5 (ty := .int) (by decide +kernel) rfl rfl (g := (mkF m 68 #[.val (.ref a6_0), .val (.int 3)] [(.int 2), (.ref a6_0)])) rfl rfl (hb hby d6_68)
   have f644 := f633.same W643
   have K643 := K631.wr W643 (Or.inl (List.mem_of_getElem? (i := 2) rfl))
   have N643 := Fr.snoc X643 N631 g_a6_0
   refine own_s (g' := (mkF m 71 #[.val (.ref a6_0), .val (.int 3)] [])) st643 ?_
   refine own_s (g' := (mkF m 42 #[.val (.ref a6_0), .val (.int 3)] [])) (fun _ kz => XS.goto X643.here hx rfl (pc0 := 71) (pc' := 42) rfl (hb hby d6_71) (by decide) (by decide) kz) ?_
   refine own_s (g' := (mkF m 43 #[.val (.ref a6_0), .val (.int 3)] [(.ref a6_0)])) (fun _ kz => XS.aloadN X643.here hx rfl (hb hby d6_42) rfl rfl kz) ?_
   obtain ⟨T645, X645, e645, st645⟩ := getF X643 hx hZ hown (host := "") (Or.inl ww28) Via.refl e643 f644 (g := (mkF m 43 #[.val (.ref a6_0), .val (.int 3)] [(.ref a6_0)])) rfl rfl (hb hby d6_43)
   refine own_s (g' := (mkF m 46 #[.val (.ref a6_0), .val (.int 3)] [(.int 2)])) st645 ?_
   refine own_s (g' := (mkF m 49 #[.val (.ref a6_0), .val (.int 3)] [])) (fun _ kz => XS.ifNo X645.here hx rfl (hb hby d6_46) rfl ((if0 _ _).trans (tlt ((by decide) : (0 : Int32) < (2 : Int32))).2.2.2) kz) ?_
   refine own_s (g' := (mkF m 50 #[.val (.ref a6_0), .val (.int 3)] [(.ref a6_0)])) (fun _ kz => XS.aloadN X645.here hx rfl (hb hby d6_49) rfl rfl kz) ?_
   have f646 := (f635.other W643 (Or.inr (own_sn_23_29 hw)))
   obtain ⟨T647, X647, e647, st647⟩ := getF X645 hx hZ hown (host := "") (Or.inl ww22) Via.refl e645 f646 (g := (mkF m 50 #[.val (.ref a6_0), .val (.int 3)] [(.ref a6_0)])) rfl rfl (hb hby d6_50)
   refine own_s (g' := (mkF m 53 #[.val (.ref a6_0), .val (.int 3)] [(.ref b6_countOf)])) st647 ?_
   refine own_s (g' := (mkF m 54 #[.val (.ref a6_0), .val (.int 3)] [(.ref a6_0), (.ref b6_countOf)])) (fun _ kz => XS.aloadN X647.here hx rfl (hb hby d6_53) rfl rfl kz) ?_
   obtain ⟨T648, X648, e648, st648⟩ := getF X647 hx hZ hown (host := "") (Or.inl ww28) Via.refl e647 f644 (g := (mkF m 54 #[.val (.ref a6_0), .val (.int 3)] [(.ref a6_0), (.ref b6_countOf)])) rfl rfl (hb hby d6_54)
   refine own_s (g' := (mkF m 57 #[.val (.ref a6_0), .val (.int 3)] [(.int 2), (.ref b6_countOf)])) st648 ?_
   have f649 := (f638.other W643 (Ne.symm ne_a6_0_b6_countOf))
   obtain ⟨cl650, Ar650, -, S650, -, H650, -⟩ := id f649
   have in650 := inb_of S650 (j := (2 : Int32)) ⟨by decide, by decide⟩
   refine own_s (g' := (mkF m 58 #[.val (.ref a6_0), .val (.int 3)] [(.int (y2 + (1 : Int32)))])) (X648.iaload hx (j := (2 : Int32)) (v := (.int (y2 + (1 : Int32)))) (by rw [e648]; exact Ar650.1) (State.isArrayOf_alike hZ.alike Ar650.2.1) Ar650.2.2 in650 (Has.at H650 in650 rfl) (g := (mkF m 57 #[.val (.ref a6_0), .val (.int 3)] [(.int 2), (.ref b6_countOf)])) rfl rfl (hb hby d6_57)) ?_
   refine own_s (g' := (mkF m 74 #[.val (.ref a6_0), .val (.int 3)] [])) (fun _ kz => XS.ifYes X648.here hx rfl (pc0 := 58) (pc' := 74) rfl (hb hby d6_58) rfl ((if0 _ _).trans (feq hA0).2) (by decide) (by decide) kz) ?_
   have f651 := (((f622.other W626 (Or.inl ne_a6_0_b6_atLeast)).other W631 (Or.inr (own_sn_31_33 hw))).other W643 (Or.inr (own_sn_31_29 hw)))
   have f652 := (((((F_partnersOf_a6_0.other W615 (Or.inl ne_a6_0_b6_countOf)).other W620 (Or.inl ne_a6_0_b6_countOf)).other W626 (Or.inl ne_a6_0_b6_atLeast)).other W631 (Or.inr (own_sn_35_33 hw))).other W643 (Or.inr (own_sn_35_29 hw)))
   have f653 := (((((F_saved_a6_0.other W615 (Or.inl ne_a6_0_b6_countOf)).other W620 (Or.inl ne_a6_0_b6_countOf)).other W626 (Or.inl ne_a6_0_b6_atLeast)).other W631 (Or.inr (own_sn_37_33 hw))).other W643 (Or.inr (own_sn_37_29 hw)))
   have f654 := (((((F_slack_a6_0.other W615 (Or.inl ne_a6_0_b6_countOf)).other W620 (Or.inl ne_a6_0_b6_countOf)).other W626 (Or.inl ne_a6_0_b6_atLeast)).other W631 (Or.inr (own_sn_47_33 hw))).other W643 (Or.inr (own_sn_47_29 hw)))
   have f655 := (((((F_nextTight_a6_0.other W615 (Or.inl ne_a6_0_b6_countOf)).other W620 (Or.inl ne_a6_0_b6_countOf)).other W626 (Or.inl ne_a6_0_b6_atLeast)).other W631 (Or.inr (own_sn_49_33 hw))).other W643 (Or.inr (own_sn_49_29 hw)))
   have f656 := (f642.wr W643)
   have f657 := ((f627.other W631 (Ne.symm ne_a6_0_b6_atLeast)).other W643 (Ne.symm ne_a6_0_b6_atLeast))
   have f658 := (f632.other W643 (Or.inr (own_sn_33_29 hw)))
   refine own_retV X648 hx hlk hret (hb hby d6_74) (by decide) (by decide) ?_
   show Q6L3d3 Z a6_0 b6_countOf b6_atLeast v6_sum b6_partnersOf b6_saved b6_slack b6_nextTight ky y0 y1 y2 y3 kx na x0 x1 x2 x3 x4 h0 n0 _ T648.heap _
   rw [e648]
   exact ⟨rfl, N643, K643, f649, f657, f656, f646, f651, f652, f653, f654, f655, f658, (show Fld Z _ a6_0 "gallai/service/ResidualDegrees" "largest" "I" (.int (w6L3d3_largest y3)) from (by rw [show (w6L3d3_largest y3) = (2 : Int32) from (if_pos c640)]; exact f644))⟩
  ·skip
   refine own_s (g' := (mkF m 74 #[.val (.ref a6_0), .val (.int 3)] [])) (fun _ kz => XS.ifYes X637.here hx rfl (pc0 := 58) (pc' := 74) rfl (hb hby d6_58) rfl ((if0 _ _).trans (feq c640).2) (by decide) (by decide) kz) ?_
   have f659 := ((f622.other W626 (Or.inl ne_a6_0_b6_atLeast)).other W631 (Or.inr (own_sn_31_33 hw)))
   have f660 := ((((F_partnersOf_a6_0.other W615 (Or.inl ne_a6_0_b6_countOf)).other W620 (Or.inl ne_a6_0_b6_countOf)).other W626 (Or.inl ne_a6_0_b6_atLeast)).other W631 (Or.inr (own_sn_35_33 hw)))
   have f661 := ((((F_saved_a6_0.other W615 (Or.inl ne_a6_0_b6_countOf)).other W620 (Or.inl ne_a6_0_b6_countOf)).other W626 (Or.inl ne_a6_0_b6_atLeast)).other W631 (Or.inr (own_sn_37_33 hw)))
   have f662 := ((((F_slack_a6_0.other W615 (Or.inl ne_a6_0_b6_countOf)).other W620 (Or.inl ne_a6_0_b6_countOf)).other W626 (Or.inl ne_a6_0_b6_atLeast)).other W631 (Or.inr (own_sn_47_33 hw)))
   have f663 := ((((F_nextTight_a6_0.other W615 (Or.inl ne_a6_0_b6_countOf)).other W620 (Or.inl ne_a6_0_b6_countOf)).other W626 (Or.inl ne_a6_0_b6_atLeast)).other W631 (Or.inr (own_sn_49_33 hw)))
   have f664 := (f630.wr W631)
   have f665 := (f627.other W631 (Ne.symm ne_a6_0_b6_atLeast))
   refine own_retV X637 hx hlk hret (hb hby d6_74) (by decide) (by decide) ?_
   show Q6L3d3 Z a6_0 b6_countOf b6_atLeast v6_sum b6_partnersOf b6_saved b6_slack b6_nextTight ky y0 y1 y2 y3 kx na x0 x1 x2 x3 x4 h0 n0 _ T637.heap _
   rw [e637]
   exact ⟨rfl, N631, K631, f638, f665, f664, f635, f659, f660, f661, f662, f663, f632, (show Fld Z _ a6_0 "gallai/service/ResidualDegrees" "largest" "I" (.int (w6L3d3_largest y3)) from (by rw [show (w6L3d3_largest y3) = (3 : Int32) from (if_neg c640)]; exact f633))⟩
theorem own_d (x : Int32) : ((1 : Int32) + ((x &&& (2147483647 : Int32)) % (3 : Int32))) = (1 : Int32) ∨ ((1 : Int32) + ((x &&& (2147483647 : Int32)) % (3 : Int32))) = (2 : Int32) ∨ ((1 : Int32) + ((x &&& (2147483647 : Int32)) % (3 : Int32))) = (3 : Int32) := by
  have h1 := c_and x 2147483647 (by decide)
  have h2 := (c_irem (x &&& 2147483647) 3 3 (by decide)).1 h1.1
  have h3 : ((x &&& 2147483647) % 3).toInt = 0 ∨ ((x &&& 2147483647) % 3).toInt = 1 ∨ ((x &&& 2147483647) % 3).toInt = 2 := by omega
  rcases h3 with h | h | h
  · left; rw [show (x &&& 2147483647) % 3 = 0 from Int32.toInt_inj.mp (h.trans (by decide))]; decide
  · right; left; rw [show (x &&& 2147483647) % 3 = 1 from Int32.toInt_inj.mp (h.trans (by decide))]; decide
  · right; right; rw [show (x &&& 2147483647) % 3 = 2 from Int32.toInt_inj.mp (h.trans (by decide))]; decide
theorem own_b7 (x : Int32) : ¬ (x &&& (7 : Int32)) < (0 : Int32) ∧ ¬ (20 : Int32) < (x &&& (7 : Int32)) := by
  have h := c_and x 7 (by decide)
  have e : (7 : Int32).toInt = 7 := by decide
  have e0 : (0 : Int32).toInt = 0 := by decide
  have e20 : (20 : Int32).toInt = 20 := by decide
  rw [e] at h
  rw [Int32.lt_iff_toInt_lt, Int32.lt_iff_toInt_lt, e0, e20]
  omega
theorem own_pm (c : Int32) : ((c + (1 : Int32)) - (1 : Int32)) = c := Int32.add_sub_cancel c 1
theorem own_i0 {c : Int32} (h : ¬ c < (0 : Int32)) : 0 ≤ c.toInt := Int.not_lt.mp fun q => h (Int32.lt_iff_toInt_lt.mpr (by rw [show (0 : Int32).toInt = 0 from by decide]; exact q))
theorem own_i20 {c : Int32} (h : ¬ (20 : Int32) < c) : c.toInt ≤ 20 := Int.not_lt.mp fun q => h (Int32.lt_iff_toInt_lt.mpr (by rw [show (20 : Int32).toInt = 20 from by decide]; exact q))
theorem own_i7 {c : Int32} (h : ¬ (7 : Int32) < c) : c.toInt ≤ 7 := Int.not_lt.mp fun q => h (Int32.lt_iff_toInt_lt.mpr (by rw [show (7 : Int32).toInt = 7 from by decide]; exact q))
theorem own_p1 {c : Int32} (h0 : 0 ≤ c.toInt) (h1 : c.toInt ≤ 20) : (c + (1 : Int32)).toInt = c.toInt + 1 := by
  have e := c_iadd c 1
  rw [show (1 : Int32).toInt = 1 from by decide] at e
  have r := rng32 (c + 1)
  omega
theorem own_inc {c : Int32} (h0 : ¬ c < (0 : Int32)) (h1 : ¬ (20 : Int32) < c) : ¬ (c + (1 : Int32)) = (0 : Int32) ∧ (0 : Int32) < (c + (1 : Int32)) ∧ ¬ (c + (1 : Int32)) < (0 : Int32) := by
  have a0 := own_i0 h0
  have e := own_p1 a0 (own_i20 h1)
  refine ⟨fun q => ?_, Int32.lt_iff_toInt_lt.mpr ?_, fun q => ?_⟩
  · have z := congrArg Int32.toInt q
    rw [e, show (0 : Int32).toInt = 0 from by decide] at z
    omega
  · rw [e, show (0 : Int32).toInt = 0 from by decide]
    omega
  · have z := Int32.lt_iff_toInt_lt.mp q
    rw [e, show (0 : Int32).toInt = 0 from by decide] at z
    omega
theorem own_dec {c : Int32} (h0 : ¬ c < (0 : Int32)) (h1 : ¬ c = (0 : Int32)) : ¬ (c - (1 : Int32)) < (0 : Int32) := by
  have a0 := own_i0 h0
  have a1 : c.toInt ≠ 0 := fun q => h1 (Int32.toInt_inj.mp (q.trans (by decide)))
  have e := c_isub c 1
  rw [show (1 : Int32).toInt = 1 from by decide] at e
  have r := rng32 (c - 1)
  have r2 := rng32 c
  intro q
  have z := Int32.lt_iff_toInt_lt.mp q
  rw [show (0 : Int32).toInt = 0 from by decide] at z
  omega
theorem own_inc20 {c : Int32} (h0 : ¬ c < (0 : Int32)) (h1 : ¬ (7 : Int32) < c) : ¬ (20 : Int32) < (c + (1 : Int32)) := by
  have a0 := own_i0 h0
  have a1 := own_i7 h1
  have e := own_p1 a0 (by omega)
  intro q
  have z := Int32.lt_iff_toInt_lt.mp q
  rw [e, show (20 : Int32).toInt = 20 from by decide] at z
  omega
theorem own_b77 (x : Int32) : ¬ (7 : Int32) < (x &&& (7 : Int32)) := by
  have h := c_and x 7 (by decide)
  rw [Int32.lt_iff_toInt_lt]
  omega
theorem own_s2 (s : Int64) : ((s - (1 : Int64)) - (1 : Int64)) = (s - (2 : Int64)) := by
  rw [Int64.sub_eq_add_neg, Int64.sub_eq_add_neg, Int64.sub_eq_add_neg, Int64.add_assoc]; rfl
theorem pd__I_V : parseMethodDescriptor "(I)V" = some ⟨[.int], none⟩ := by decide +kernel
theorem pd___J : parseMethodDescriptor "()J" = some ⟨[], some .long⟩ := by decide +kernel
theorem pd___I : parseMethodDescriptor "()I" = some ⟨[], some .int⟩ := by decide +kernel
theorem pd___I_I : parseMethodDescriptor "([I)I" = some ⟨[(.array .int)], some .int⟩ := by decide +kernel
abbrev own_Lown_cutB11_0 (sl0 : Slot) (sl1 : Slot) (w2 : Int32) (ar : Addr) (sl4 : Slot) (s0 : Int64) (sl7 : Slot) (ob : Addr)  : Array Slot := #[sl0, sl1, .val (.int w2), .val (.ref ar), sl4, .val (.long s0), .second, sl7, .val (.ref ob), .val (.int 1), .val (.int 1)]
set_option maxRecDepth 65536 in
set_option maxHeartbeats 40000000 in
theorem own_cutB11 (l : Launch) (Z : State) (a0 : Array Value) (hw : ∀ d ∈ tables_1, d.before a0 Z = true) (sl0 : Slot) (sl1 : Slot) (w2 : Int32) (ar : Addr) (sl4 : Slot) (s0 : Int64) (sl7 : Slot) (ob : Addr) (b0_countOf : Addr) (b0_atLeast : Addr) (b0_partnersOf : Addr) (b0_saved : Addr) (b0_slack : Addr) (b0_nextTight : Addr) (kc : ClassId) (y0 : Int32) (y1 : Int32) (y2 : Int32) (y3 : Int32) (kx : ClassId) (na : Int32) (x0 : Int32) (x1 : Int32) (x2 : Int32) (x3 : Int32) (x4 : Int32) (ky : ClassId) {p : Program} {e : Env} {s : State} {m : MethodId} {args : Array Value} {below : List Frame} {meth : Method} {c : Code} {s₁ : State} {locs : List Loc}
    (X0 : Stand p l e room_1 s m args below meth c s₁ locs 12 60) (hx : p.tables.exec = Jvm.exec) (hZ : Z.Warmed39 s.vm) (hby : c.code = code) (hml : c.maxLocals = 11) (hown : s.vm.findClass "gallai/service/ResidualDegreesLowerPinLaw" = some m.cls) (hlk : meth.locks = false) (hret : meth.sig.returnType = some .boolean) (h0 : Heap) (n0 : Nat) (e0 : s₁.heap = h0) (Z0 : n0 ≤ h0.size) (N0 : Fr n0 locs) (F_countOf_ob : Fld Z h0 ob "gallai/service/ResidualDegrees" "countOf" "[I" (.ref b0_countOf)) (F_atLeast_ob : Fld Z h0 ob "gallai/service/ResidualDegrees" "atLeast" "[I" (.ref b0_atLeast)) (F_sum_ob : Fld Z h0 ob "gallai/service/ResidualDegrees" "sum" "J" (.long (s0 - (1 : Int64)))) (F_largest_ob : Fld Z h0 ob "gallai/service/ResidualDegrees" "largest" "I" (.int 1)) (F_partnersOf_ob : Fld Z h0 ob "gallai/service/ResidualDegrees" "partnersOf" "[I" (.ref b0_partnersOf)) (F_saved_ob : Fld Z h0 ob "gallai/service/ResidualDegrees" "saved" "[I" (.ref b0_saved)) (F_slack_ob : Fld Z h0 ob "gallai/service/ResidualDegrees" "slack" "[J" (.ref b0_slack)) (F_nextTight_ob : Fld Z h0 ob "gallai/service/ResidualDegrees" "nextTight" "[I" (.ref b0_nextTight)) (E_ob : Exa Z h0 ob "gallai/service/ResidualDegrees") (V_b0_countOf : Arv Z h0 b0_countOf kc .int (4 : Int32) [(.int y0), (.int y1), (.int y2), (.int y3)] (.int (0 : Int32))) (V_b0_atLeast : Arv Z h0 b0_atLeast kx .int na [(.int x0), (.int x1), (.int x2), (.int x3), (.int x4)] (.int (0 : Int32))) (V_ar : Arv Z h0 ar ky .int (4 : Int32) [(.int y0), (.int y1), (.int y2), (.int y3)] (.int (0 : Int32))) (g_b0_countOf : n0 ≤ b0_countOf) (g_b0_atLeast : n0 ≤ b0_atLeast) (g_ob : n0 ≤ ob) (g_ar : n0 ≤ ar) (ne_ob_b0_countOf : ob ≠ b0_countOf) (ne_b0_atLeast_b0_countOf : b0_atLeast ≠ b0_countOf) (ne_ob_b0_atLeast : ob ≠ b0_atLeast) (ne_ar_b0_countOf : ar ≠ b0_countOf) (ne_ar_b0_atLeast : ar ≠ b0_atLeast) (ne_ar_ob : ar ≠ ob) (hA0 : ¬ y0 < (0 : Int32)) (hA1 : ¬ y1 < (0 : Int32)) (hA2 : ¬ y2 < (0 : Int32)) (hA3 : ¬ y3 < (0 : Int32)) (hA4 : ¬ (20 : Int32) < y0) (hA5 : ¬ (20 : Int32) < y1) (hA6 : ¬ (20 : Int32) < y2) (hA7 : ¬ (20 : Int32) < y3) (hA8 : y3 = (0 : Int32)) (hA9 : y2 = (0 : Int32)) (hA10 : ¬ y1 = (0 : Int32)) (hna : (1 : Int32) < na) :
    own_G p e below s (fun v h L => v = some (.int (1 : Int32)) ∧ Fr n0 L) 32 192 s₁ (mkF m 212 #[sl0, sl1, .val (.int w2), .val (.ref ar), sl4, .val (.long s0), .second, sl7, .val (.ref ob), .val (.int 1), .val (.int 1)] []) := by
  have K0 : Keep h0 h0 [b0_countOf, b0_atLeast, ob, ar] := Keep.refl _ _
  have ww2 := hw _ (List.mem_of_getElem? (i := 2) rfl)
  have ww6 := hw _ (List.mem_of_getElem? (i := 6) rfl)
  have ww50 := hw _ (List.mem_of_getElem? (i := 50) rfl)
  have ww51 := hw _ (List.mem_of_getElem? (i := 51) rfl)
  have ww52 := hw _ (List.mem_of_getElem? (i := 52) rfl)
  have ww53 := hw _ (List.mem_of_getElem? (i := 53) rfl)
  have ww54 := hw _ (List.mem_of_getElem? (i := 54) rfl)
  have ww55 := hw _ (List.mem_of_getElem? (i := 55) rfl)
  have ww56 := hw _ (List.mem_of_getElem? (i := 56) rfl)
  have ww57 := hw _ (List.mem_of_getElem? (i := 57) rfl)
  have ww58 := hw _ (List.mem_of_getElem? (i := 58) rfl)
  have ww59 := hw _ (List.mem_of_getElem? (i := 59) rfl)
  have ww60 := hw _ (List.mem_of_getElem? (i := 60) rfl)
  have ww61 := hw _ (List.mem_of_getElem? (i := 61) rfl)
  have ww62 := hw _ (List.mem_of_getElem? (i := 62) rfl)
  have ww63 := hw _ (List.mem_of_getElem? (i := 63) rfl)
  have ww64 := hw _ (List.mem_of_getElem? (i := 64) rfl)
  have ww65 := hw _ (List.mem_of_getElem? (i := 65) rfl)
  have ww66 := hw _ (List.mem_of_getElem? (i := 66) rfl)
  have ww67 := hw _ (List.mem_of_getElem? (i := 67) rfl)
  have ww68 := hw _ (List.mem_of_getElem? (i := 68) rfl)
  show own_G p e below s _ _ _ s₁ (mkF m _ (own_Lown_cutB11_0 sl0 sl1 w2 ar sl4 s0 sl7 ob ) _)
  refine own_s (g' := (mkF m 214 (own_Lown_cutB11_0 sl0 sl1 w2 ar sl4 s0 sl7 ob ) [(.int 1)])) (fun _ kz => XS.iload X0.here hx rfl (hb hby at_212) rfl kz) ?_
  refine own_s (g' := (mkF m 220 (own_Lown_cutB11_0 sl0 sl1 w2 ar sl4 s0 sl7 ob ) [])) (fun _ kz => XS.ifYes X0.here hx rfl (pc0 := 214) (pc' := 220) rfl (hb hby at_214) rfl ((if0 _ _).trans (feq ((by decide) : ¬ (1 : Int32) = (0 : Int32))).2) (by decide) (by decide) kz) ?_
  refine own_s (g' := (mkF m 222 (own_Lown_cutB11_0 sl0 sl1 w2 ar sl4 s0 sl7 ob ) [(.ref ob)])) (fun _ kz => XS.aload X0.here hx rfl (hb hby at_220) rfl rfl kz) ?_
  refine own_s (g' := (mkF m 224 (own_Lown_cutB11_0 sl0 sl1 w2 ar sl4 s0 sl7 ob ) [(.int 1), (.ref ob)])) (fun _ kz => XS.iload X0.here hx rfl (hb hby at_222) rfl kz) ?_
  have hi666 := own_inc (c := y0) hA0 hA4
  have hd667 := own_dec (c := y1) hA1 hA10
  by_cases c668 : (y1 - (1 : Int32)) = (0 : Int32)
  ·skip
   obtain ⟨cq669, kq669, q669a, q669b, q669c⟩ := isOf hZ e0 E_ob
   obtain ⟨_, _, ⟨T669, L669, k669, n669⟩, -, X669, ⟨Lc669, hQ669, l669, y669, z669⟩, st669⟩ := X0.virtualBack hx (y := (⟨"gallai/service/ResidualDegrees", "lower", "(I)V"⟩ : MethodName)) (z := (⟨"gallai/service/ResidualDegrees", "lower", "(I)V"⟩ : MethodName)) hown (mvT hZ ww50) (mvT hZ ww51) (notFace_of_selects (args := #[]) (mvT hZ ww53)) (mvT hZ ww53) (mvT hZ ww52) (by decide) (backOf (W := 0) (rm6L1d1 l Z a0 hw [] ob b0_countOf b0_atLeast (s0 - (1 : Int64)) b0_partnersOf b0_saved b0_slack b0_nextTight kc y0 y1 y2 y3 kx na x0 x1 x2 x3 x4 h0 n0 Z0 F_countOf_ob F_atLeast_ob F_sum_ob F_largest_ob F_partnersOf_ob F_saved_ob F_slack_ob F_nextTight_ob E_ob V_b0_countOf V_b0_atLeast g_b0_countOf g_b0_atLeast g_ob ne_ob_b0_countOf ne_b0_atLeast_b0_countOf ne_ob_b0_atLeast hna) hZ ww54 ww6 (by decide) (by decide)) q669a q669c (g := (mkF m 224 (own_Lown_cutB11_0 sl0 sl1 w2 ar sl4 s0 sl7 ob ) [(.int 1), (.ref ob)])) rfl (by rw [hml]; rfl) (Steps.refl _) (argsL := [(.int 1)]) (rest := []) (lenOf pd__I_V rfl) rfl (by show 2 * 0 + _ ≤ _; exact Nat.le_of_eq rfl) (hb hby at_224) (fun _ _ => ⟨rfl, e0, (by decide : 12 + 0 ≤ _), (by decide : 60 + 0 ≤ _)⟩)
   dsimp only [Pt.U, Pt.locs, Pt.cells, Pt.slots] at X669 l669 y669 z669 st669 hQ669
   subst l669 y669 z669
   obtain ⟨rfl, N669q, K669q, f670, f671, f672, f673, f674, f675, f676, f677, f678, f679, f680⟩ := hQ669
   have f681 : Fld Z T669.heap ob "gallai/service/ResidualDegrees" "largest" "I" (.int 0) := (show (w6L1d1_largest y1) = (0 : Int32) from (if_pos c668)) ▸ f680
   have K669 := K0.trans K669q (allS (Or.inl (List.mem_of_getElem? (i := 0) rfl)) (allS (Or.inl (List.mem_of_getElem? (i := 1) rfl)) (allS (Or.inl (List.mem_of_getElem? (i := 2) rfl)) all0)))
   have N669 := Fr.app N0 N669q
   refine own_trans (g' := (mkF m 227 (own_Lown_cutB11_0 sl0 sl1 w2 ar sl4 s0 sl7 ob ) [])) st669 ?_
   refine own_s (g' := (mkF m 228 (own_Lown_cutB11_0 sl0 sl1 w2 ar sl4 s0 sl7 ob ) [(.ref ar)])) (fun _ kz => XS.aloadN X669.here hx rfl (hb hby at_227) rfl rfl kz) ?_
   refine own_s (g' := (mkF m 230 (own_Lown_cutB11_0 sl0 sl1 w2 ar sl4 s0 sl7 ob ) [(.int 1), (.ref ar)])) (fun _ kz => XS.iload X669.here hx rfl (hb hby at_228) rfl kz) ?_
   refine own_s (g' := (mkF m 231 (own_Lown_cutB11_0 sl0 sl1 w2 ar sl4 s0 sl7 ob ) [(.ref ar), (.int 1), (.ref ar)])) (fun _ kz => XS.aloadN X669.here hx rfl (hb hby at_230) rfl rfl kz) ?_
   refine own_s (g' := (mkF m 233 (own_Lown_cutB11_0 sl0 sl1 w2 ar sl4 s0 sl7 ob ) [(.int 1), (.ref ar), (.int 1), (.ref ar)])) (fun _ kz => XS.iload X669.here hx rfl (hb hby at_231) rfl kz) ?_
   have f682 := (V_ar.keep K669q (ninS ne_ar_b0_countOf (ninS ne_ar_b0_atLeast (ninS ne_ar_ob nin0))))
   obtain ⟨cl683, Ar683, -, S683, -, H683, -⟩ := id f682
   have in683 := inb_of S683 (j := (1 : Int32)) ⟨by decide, by decide⟩
   refine own_s (g' := (mkF m 234 (own_Lown_cutB11_0 sl0 sl1 w2 ar sl4 s0 sl7 ob ) [(.int y1), (.int 1), (.ref ar)])) (X669.iaload hx (j := (1 : Int32)) (v := (.int y1)) Ar683.1 (State.isArrayOf_alike hZ.alike Ar683.2.1) Ar683.2.2 in683 (Has.at H683 in683 rfl) (g := (mkF m 233 (own_Lown_cutB11_0 sl0 sl1 w2 ar sl4 s0 sl7 ob ) [(.int 1), (.ref ar), (.int 1), (.ref ar)])) rfl rfl (hb hby at_233)) ?_
   refine own_s (g' := (mkF m 235 (own_Lown_cutB11_0 sl0 sl1 w2 ar sl4 s0 sl7 ob ) [(.int 1), (.int y1), (.int 1), (.ref ar)])) (fun _ kz => XS.iconst X669.here hx rfl (hb hby at_234) kz) ?_
   refine own_s (g' := (mkF m 236 (own_Lown_cutB11_0 sl0 sl1 w2 ar sl4 s0 sl7 ob ) [(.int (y1 - (1 : Int32))), (.int 1), (.ref ar)])) (fun _ kz => XS.isub X669.here hx rfl (hb hby at_235) rfl kz) ?_
   obtain ⟨cl684, Ar684, q684, S684, M684, H684, G684⟩ := id f682
   obtain ⟨T684, h684, X684, e684, W684, st684⟩ := stI X669 hx hZ rfl Ar684 (j := (1 : Int32)) (inb_of S684 ⟨by decide, by decide⟩) (g := (mkF m 236 (own_Lown_cutB11_0 sl0 sl1 w2 ar sl4 s0 sl7 ob ) [(.int (y1 - (1 : Int32))), (.int 1), (.ref ar)])) rfl rfl (hb hby at_236)
   have f685 : Arv Z h684 ar ky .int (4 : Int32) [(.int y0), (.int (y1 - (1 : Int32))), (.int y2), (.int y3)] (.int (0 : Int32)) := Arv.set Ar684 q684 S684 M684 H684 G684 rfl W684 1 rfl (Nat.le_of_ble_eq_true rfl)
   have K684 := K669.wr W684 (Or.inl (List.mem_of_getElem? (i := 3) rfl))
   have N684 := Fr.snoc X684 N669 g_ar
   refine own_s (g' := (mkF m 237 (own_Lown_cutB11_0 sl0 sl1 w2 ar sl4 s0 sl7 ob ) [])) st684 ?_
   refine own_s (g' := (mkF m 238 (own_Lown_cutB11_0 sl0 sl1 w2 ar sl4 s0 sl7 ob ) [(.ref ar)])) (fun _ kz => XS.aloadN X684.here hx rfl (hb hby at_237) rfl rfl kz) ?_
   refine own_s (g' := (mkF m 240 (own_Lown_cutB11_0 sl0 sl1 w2 ar sl4 s0 sl7 ob ) [(.int 1), (.ref ar)])) (fun _ kz => XS.iload X684.here hx rfl (hb hby at_238) rfl kz) ?_
   refine own_s (g' := (mkF m 241 (own_Lown_cutB11_0 sl0 sl1 w2 ar sl4 s0 sl7 ob ) [(.int 1), (.int 1), (.ref ar)])) (fun _ kz => XS.iconst X684.here hx rfl (hb hby at_240) kz) ?_
   refine own_s (g' := (mkF m 242 (own_Lown_cutB11_0 sl0 sl1 w2 ar sl4 s0 sl7 ob ) [(.int ((1 : Int32) - (1 : Int32))), (.ref ar)])) (fun _ kz => XS.isub X684.here hx rfl (hb hby at_241) rfl kz) ?_
   rw [show ((1 : Int32) - (1 : Int32)) = (0 : Int32) from by decide]
   refine own_s (g' := (mkF m 243 (own_Lown_cutB11_0 sl0 sl1 w2 ar sl4 s0 sl7 ob ) [(.ref ar), (.int 0), (.ref ar)])) (fun _ kz => XS.aloadN X684.here hx rfl (hb hby at_242) rfl rfl kz) ?_
   refine own_s (g' := (mkF m 245 (own_Lown_cutB11_0 sl0 sl1 w2 ar sl4 s0 sl7 ob ) [(.int 1), (.ref ar), (.int 0), (.ref ar)])) (fun _ kz => XS.iload X684.here hx rfl (hb hby at_243) rfl kz) ?_
   refine own_s (g' := (mkF m 246 (own_Lown_cutB11_0 sl0 sl1 w2 ar sl4 s0 sl7 ob ) [(.int 1), (.int 1), (.ref ar), (.int 0), (.ref ar)])) (fun _ kz => XS.iconst X684.here hx rfl (hb hby at_245) kz) ?_
   refine own_s (g' := (mkF m 247 (own_Lown_cutB11_0 sl0 sl1 w2 ar sl4 s0 sl7 ob ) [(.int ((1 : Int32) - (1 : Int32))), (.ref ar), (.int 0), (.ref ar)])) (fun _ kz => XS.isub X684.here hx rfl (hb hby at_246) rfl kz) ?_
   rw [show ((1 : Int32) - (1 : Int32)) = (0 : Int32) from by decide]
   obtain ⟨cl686, Ar686, -, S686, -, H686, -⟩ := id f685
   have in686 := inb_of S686 (j := (0 : Int32)) ⟨by decide, by decide⟩
   refine own_s (g' := (mkF m 248 (own_Lown_cutB11_0 sl0 sl1 w2 ar sl4 s0 sl7 ob ) [(.int y0), (.int 0), (.ref ar)])) (X684.iaload hx (j := (0 : Int32)) (v := (.int y0)) (by rw [e684]; exact Ar686.1) (State.isArrayOf_alike hZ.alike Ar686.2.1) Ar686.2.2 in686 (Has.at H686 in686 rfl) (g := (mkF m 247 (own_Lown_cutB11_0 sl0 sl1 w2 ar sl4 s0 sl7 ob ) [(.int 0), (.ref ar), (.int 0), (.ref ar)])) rfl rfl (hb hby at_247)) ?_
   refine own_s (g' := (mkF m 249 (own_Lown_cutB11_0 sl0 sl1 w2 ar sl4 s0 sl7 ob ) [(.int 1), (.int y0), (.int 0), (.ref ar)])) (fun _ kz => XS.iconst X684.here hx rfl (hb hby at_248) kz) ?_
   refine own_s (g' := (mkF m 250 (own_Lown_cutB11_0 sl0 sl1 w2 ar sl4 s0 sl7 ob ) [(.int (y0 + (1 : Int32))), (.int 0), (.ref ar)])) (fun _ kz => XS.iadd X684.here hx rfl (hb hby at_249) rfl kz) ?_
   obtain ⟨cl687, Ar687, q687, S687, M687, H687, G687⟩ := id f685
   obtain ⟨T687, h687, X687, e687, W687, st687⟩ := stI X684 hx hZ e684 Ar687 (j := (0 : Int32)) (inb_of S687 ⟨by decide, by decide⟩) (g := (mkF m 250 (own_Lown_cutB11_0 sl0 sl1 w2 ar sl4 s0 sl7 ob ) [(.int (y0 + (1 : Int32))), (.int 0), (.ref ar)])) rfl rfl (hb hby at_250)
   have f688 : Arv Z h687 ar ky .int (4 : Int32) [(.int (y0 + (1 : Int32))), (.int (y1 - (1 : Int32))), (.int y2), (.int y3)] (.int (0 : Int32)) := Arv.set Ar687 q687 S687 M687 H687 G687 rfl W687 0 rfl (Nat.le_of_ble_eq_true rfl)
   have K687 := K684.wr W687 (Or.inl (List.mem_of_getElem? (i := 3) rfl))
   have N687 := Fr.snoc X687 N684 g_ar
   refine own_s (g' := (mkF m 251 (own_Lown_cutB11_0 sl0 sl1 w2 ar sl4 s0 sl7 ob ) [])) st687 ?_
   refine own_s (g' := (mkF m 253 (own_Lown_cutB11_0 sl0 sl1 w2 ar sl4 s0 sl7 ob ) [(.int 1)])) (fun _ kz => XS.iload X687.here hx rfl (hb hby at_251) rfl kz) ?_
   refine own_s (g' := (mkF m 256 (own_Lown_cutB11_0 sl0 sl1 w2 ar sl4 s0 sl7 ob ) [])) (fun _ kz => XS.ifNo X687.here hx rfl (hb hby at_253) rfl ((if0 _ _).trans (feq ((by decide) : ¬ (1 : Int32) = (0 : Int32))).1) kz) ?_
   refine own_s (g' := (mkF m 258 (own_Lown_cutB11_0 sl0 sl1 w2 ar sl4 s0 sl7 ob ) [(.ref ob)])) (fun _ kz => XS.aload X687.here hx rfl (hb hby at_256) rfl rfl kz) ?_
   have f690 := ((f679.other W684 (Or.inl (Ne.symm ne_ar_ob))).other W687 (Or.inl (Ne.symm ne_ar_ob)))
   have f691 := ((f672.wr W684).wr W687)
   obtain ⟨cq689, kq689, q689a, q689b, q689c⟩ := isOf hZ e687 f691
   obtain ⟨_, _, ⟨T689, L689, k689, n689⟩, -, X689, ⟨Lc689, hQ689, l689, y689, z689⟩, st689⟩ := X687.virtualBack hx (y := (⟨"gallai/service/ResidualDegrees", "sum", "()J"⟩ : MethodName)) (z := (⟨"gallai/service/ResidualDegrees", "sum", "()J"⟩ : MethodName)) hown (mvT hZ ww55) (mvT hZ ww56) (notFace_of_selects (args := #[]) (mvT hZ ww58)) (mvT hZ ww58) (mvT hZ ww57) (by decide) (backOf (W := 0) (rm7 l Z a0 hw [] ob ((s0 - (1 : Int64)) - (1 : Int64)) h687 n0 (Nat.le_trans Z0 K687.1) f690) hZ ww59 ww6 (by decide) (by decide)) q689a q689c (g := (mkF m 258 (own_Lown_cutB11_0 sl0 sl1 w2 ar sl4 s0 sl7 ob ) [(.ref ob)])) rfl (by rw [hml]; rfl) (Steps.refl _) (argsL := []) (rest := []) (lenOf pd___J rfl) rfl (by show 2 * 0 + _ ≤ _; exact Nat.le_of_eq rfl) (hb hby at_258) (fun _ _ => ⟨rfl, e687, (by decide : 12 + 0 ≤ _), (by decide : 60 + 0 ≤ _)⟩)
   dsimp only [Pt.U, Pt.locs, Pt.cells, Pt.slots] at X689 l689 y689 z689 st689 hQ689
   subst l689 y689 z689
   obtain ⟨rfl, N689q, eh689⟩ := hQ689
   have N689 := Fr.app N687 N689q
   refine own_trans (g' := (mkF m 261 (own_Lown_cutB11_0 sl0 sl1 w2 ar sl4 s0 sl7 ob ) [(.long ((s0 - (1 : Int64)) - (1 : Int64)))])) st689 ?_
   refine own_s (g' := (mkF m 263 (own_Lown_cutB11_0 sl0 sl1 w2 ar sl4 s0 sl7 ob ) [(.long s0), (.long ((s0 - (1 : Int64)) - (1 : Int64)))])) (fun _ kz => XS.lload X689.here hx rfl (hb hby at_261) rfl kz) ?_
   refine own_s (g' := (mkF m 266 (own_Lown_cutB11_0 sl0 sl1 w2 ar sl4 s0 sl7 ob ) [(.long 2), (.long s0), (.long ((s0 - (1 : Int64)) - (1 : Int64)))])) (X689.ldc2Long hx hown (mvT hZ ww2) (g := (mkF m 263 (own_Lown_cutB11_0 sl0 sl1 w2 ar sl4 s0 sl7 ob ) [(.long s0), (.long ((s0 - (1 : Int64)) - (1 : Int64)))])) rfl (hb hby at_263)) ?_
   refine own_s (g' := (mkF m 267 (own_Lown_cutB11_0 sl0 sl1 w2 ar sl4 s0 sl7 ob ) [(.long (s0 - (2 : Int64))), (.long ((s0 - (1 : Int64)) - (1 : Int64)))])) (fun _ kz => XS.lsub X689.here hx rfl (hb hby at_266) rfl kz) ?_
   refine own_s (g' := (mkF m 268 (own_Lown_cutB11_0 sl0 sl1 w2 ar sl4 s0 sl7 ob ) [(.int (lcmpW ((s0 - (1 : Int64)) - (1 : Int64)) (s0 - (2 : Int64))))])) (fun _ kz => XS.lcmp X689.here hx rfl (hb hby at_267) rfl kz) ?_
   refine own_s (g' := (mkF m 271 (own_Lown_cutB11_0 sl0 sl1 w2 ar sl4 s0 sl7 ob ) [])) (fun _ kz => XS.ifNo X689.here hx rfl (hb hby at_268) rfl ((if0 _ _).trans (teq ((lw_eq ((s0 - (1 : Int64)) - (1 : Int64)) (s0 - (2 : Int64))).mpr (own_s2 _))).2) kz) ?_
   refine own_s (g' := (mkF m 273 (own_Lown_cutB11_0 sl0 sl1 w2 ar sl4 s0 sl7 ob ) [(.ref ob)])) (fun _ kz => XS.aload X689.here hx rfl (hb hby at_271) rfl rfl kz) ?_
   have f693 := ((f681.other W684 (Or.inl (Ne.symm ne_ar_ob))).other W687 (Or.inl (Ne.symm ne_ar_ob)))
   obtain ⟨cq692, kq692, q692a, q692b, q692c⟩ := isOf hZ eh689 f691
   obtain ⟨_, _, ⟨T692, L692, k692, n692⟩, -, X692, ⟨Lc692, hQ692, l692, y692, z692⟩, st692⟩ := X689.virtualBack hx (y := (⟨"gallai/service/ResidualDegrees", "largest", "()I"⟩ : MethodName)) (z := (⟨"gallai/service/ResidualDegrees", "largest", "()I"⟩ : MethodName)) hown (mvT hZ ww60) (mvT hZ ww61) (notFace_of_selects (args := #[]) (mvT hZ ww63)) (mvT hZ ww63) (mvT hZ ww62) (by decide) (backOf (W := 0) (rm8 l Z a0 hw [] ob (0 : Int32) h687 n0 (Nat.le_trans Z0 K687.1) f693) hZ ww64 ww6 (by decide) (by decide)) q692a q692c (g := (mkF m 273 (own_Lown_cutB11_0 sl0 sl1 w2 ar sl4 s0 sl7 ob ) [(.ref ob)])) rfl (by rw [hml]; rfl) (Steps.refl _) (argsL := []) (rest := []) (lenOf pd___I rfl) rfl (by show 2 * 0 + _ ≤ _; exact Nat.le_of_eq rfl) (hb hby at_273) (fun _ _ => ⟨rfl, eh689, (by decide : 12 + 0 ≤ _), (by decide : 60 + 0 ≤ _)⟩)
   dsimp only [Pt.U, Pt.locs, Pt.cells, Pt.slots] at X692 l692 y692 z692 st692 hQ692
   subst l692 y692 z692
   obtain ⟨rfl, N692q, eh692⟩ := hQ692
   have N692 := Fr.app N689 N692q
   refine own_trans (g' := (mkF m 276 (own_Lown_cutB11_0 sl0 sl1 w2 ar sl4 s0 sl7 ob ) [(.int 0)])) st692 ?_
   refine own_s (g' := (mkF m 277 (own_Lown_cutB11_0 sl0 sl1 w2 ar sl4 s0 sl7 ob ) [(.ref ar), (.int 0)])) (fun _ kz => XS.aloadN X692.here hx rfl (hb hby at_276) rfl rfl kz) ?_
   obtain ⟨_, _, ⟨T694, L694, k694, n694⟩, -, X694, ⟨Lc694, hQ694, l694, y694, z694⟩, st694⟩ := Jvm.LawKit.callS X692 hx (y := (⟨"gallai/service/ResidualDegreesLowerPinLaw", "top", "([I)I"⟩ : MethodName)) hown (mvT hZ ww65) (mvT hZ ww66) (mvT hZ ww67) (mvT hZ ww68) (by decide) (backOf (W := 1) (rm9 l Z a0 hw [] ar ky (y0 + (1 : Int32)) (y1 - (1 : Int32)) y2 y3 h687 n0 (Nat.le_trans Z0 K687.1) f688) hZ ww68 ww67 (by decide) (by decide)) (g := (mkF m 277 (own_Lown_cutB11_0 sl0 sl1 w2 ar sl4 s0 sl7 ob ) [(.ref ar), (.int 0)])) rfl (by rw [hml]; rfl) (argsL := [(.ref ar)]) (rest := [(.int 0)]) (lenOf pd___I_I rfl) rfl (by show 2 * 0 + _ ≤ _; exact Nat.le_of_eq rfl) (hb hby at_277) (fun _ _ => ⟨rfl, eh692, (by decide : 12 + 0 ≤ _), (by decide : 60 + 0 ≤ _)⟩)
   dsimp only [Pt.U, Pt.locs, Pt.cells, Pt.slots] at X694 l694 y694 z694 st694 hQ694
   subst l694 y694 z694
   obtain ⟨rfl, N694q, eh694⟩ := hQ694
   have N694 := Fr.app N692 N694q
   refine own_s (g' := (mkF m 280 (own_Lown_cutB11_0 sl0 sl1 w2 ar sl4 s0 sl7 ob ) [(.int (r9 (y1 - (1 : Int32)) y2 y3)), (.int 0)])) st694 ?_
   rw [show (r9 (y1 - (1 : Int32)) y2 y3) = (0 : Int32) from ((if_neg ((own_eqltI (Eq.symm hA8)) : ¬ (0 : Int32) < y3)).trans ((if_neg ((own_eqltI (Eq.symm hA9)) : ¬ (0 : Int32) < y2)).trans (if_neg ((own_eqltI (Eq.symm c668)) : ¬ (0 : Int32) < (y1 - (1 : Int32))))))]
   refine own_s (g' := (mkF m 283 (own_Lown_cutB11_0 sl0 sl1 w2 ar sl4 s0 sl7 ob ) [])) (fun _ kz => XS.icmpNo X694.here hx rfl (hb hby at_280) rfl (teq ((by decide) : (0 : Int32) = (0 : Int32))).2 kz) ?_
   refine own_s (g' := (mkF m 284 (own_Lown_cutB11_0 sl0 sl1 w2 ar sl4 s0 sl7 ob ) [(.int 1)])) (fun _ kz => XS.iconst X694.here hx rfl (hb hby at_283) kz) ?_
   refine own_s (g' := (mkF m 288 (own_Lown_cutB11_0 sl0 sl1 w2 ar sl4 s0 sl7 ob ) [(.int 1)])) (fun _ kz => XS.goto X694.here hx rfl (pc0 := 284) (pc' := 288) rfl (hb hby at_284) (by decide) (by decide) kz) ?_
   refine own_retN X694 hx hlk (t := .boolean) hret (by simp) (hb hby at_288) (z' := (1 : Int32)) (by decide) (by decide) (by decide) ?_
   exact ⟨rfl, N694⟩
  ·skip
   obtain ⟨cq695, kq695, q695a, q695b, q695c⟩ := isOf hZ e0 E_ob
   obtain ⟨_, _, ⟨T695, L695, k695, n695⟩, -, X695, ⟨Lc695, hQ695, l695, y695, z695⟩, st695⟩ := X0.virtualBack hx (y := (⟨"gallai/service/ResidualDegrees", "lower", "(I)V"⟩ : MethodName)) (z := (⟨"gallai/service/ResidualDegrees", "lower", "(I)V"⟩ : MethodName)) hown (mvT hZ ww50) (mvT hZ ww51) (notFace_of_selects (args := #[]) (mvT hZ ww53)) (mvT hZ ww53) (mvT hZ ww52) (by decide) (backOf (W := 0) (rm6L1d1 l Z a0 hw [] ob b0_countOf b0_atLeast (s0 - (1 : Int64)) b0_partnersOf b0_saved b0_slack b0_nextTight kc y0 y1 y2 y3 kx na x0 x1 x2 x3 x4 h0 n0 Z0 F_countOf_ob F_atLeast_ob F_sum_ob F_largest_ob F_partnersOf_ob F_saved_ob F_slack_ob F_nextTight_ob E_ob V_b0_countOf V_b0_atLeast g_b0_countOf g_b0_atLeast g_ob ne_ob_b0_countOf ne_b0_atLeast_b0_countOf ne_ob_b0_atLeast hna) hZ ww54 ww6 (by decide) (by decide)) q695a q695c (g := (mkF m 224 (own_Lown_cutB11_0 sl0 sl1 w2 ar sl4 s0 sl7 ob ) [(.int 1), (.ref ob)])) rfl (by rw [hml]; rfl) (Steps.refl _) (argsL := [(.int 1)]) (rest := []) (lenOf pd__I_V rfl) rfl (by show 2 * 0 + _ ≤ _; exact Nat.le_of_eq rfl) (hb hby at_224) (fun _ _ => ⟨rfl, e0, (by decide : 12 + 0 ≤ _), (by decide : 60 + 0 ≤ _)⟩)
   dsimp only [Pt.U, Pt.locs, Pt.cells, Pt.slots] at X695 l695 y695 z695 st695 hQ695
   subst l695 y695 z695
   obtain ⟨rfl, N695q, K695q, f696, f697, f698, f699, f700, f701, f702, f703, f704, f705, f706⟩ := hQ695
   have f707 : Fld Z T695.heap ob "gallai/service/ResidualDegrees" "largest" "I" (.int 1) := (show (w6L1d1_largest y1) = (1 : Int32) from (if_neg c668)) ▸ f706
   have K695 := K0.trans K695q (allS (Or.inl (List.mem_of_getElem? (i := 0) rfl)) (allS (Or.inl (List.mem_of_getElem? (i := 1) rfl)) (allS (Or.inl (List.mem_of_getElem? (i := 2) rfl)) all0)))
   have N695 := Fr.app N0 N695q
   refine own_trans (g' := (mkF m 227 (own_Lown_cutB11_0 sl0 sl1 w2 ar sl4 s0 sl7 ob ) [])) st695 ?_
   refine own_s (g' := (mkF m 228 (own_Lown_cutB11_0 sl0 sl1 w2 ar sl4 s0 sl7 ob ) [(.ref ar)])) (fun _ kz => XS.aloadN X695.here hx rfl (hb hby at_227) rfl rfl kz) ?_
   refine own_s (g' := (mkF m 230 (own_Lown_cutB11_0 sl0 sl1 w2 ar sl4 s0 sl7 ob ) [(.int 1), (.ref ar)])) (fun _ kz => XS.iload X695.here hx rfl (hb hby at_228) rfl kz) ?_
   refine own_s (g' := (mkF m 231 (own_Lown_cutB11_0 sl0 sl1 w2 ar sl4 s0 sl7 ob ) [(.ref ar), (.int 1), (.ref ar)])) (fun _ kz => XS.aloadN X695.here hx rfl (hb hby at_230) rfl rfl kz) ?_
   refine own_s (g' := (mkF m 233 (own_Lown_cutB11_0 sl0 sl1 w2 ar sl4 s0 sl7 ob ) [(.int 1), (.ref ar), (.int 1), (.ref ar)])) (fun _ kz => XS.iload X695.here hx rfl (hb hby at_231) rfl kz) ?_
   have f708 := (V_ar.keep K695q (ninS ne_ar_b0_countOf (ninS ne_ar_b0_atLeast (ninS ne_ar_ob nin0))))
   obtain ⟨cl709, Ar709, -, S709, -, H709, -⟩ := id f708
   have in709 := inb_of S709 (j := (1 : Int32)) ⟨by decide, by decide⟩
   refine own_s (g' := (mkF m 234 (own_Lown_cutB11_0 sl0 sl1 w2 ar sl4 s0 sl7 ob ) [(.int y1), (.int 1), (.ref ar)])) (X695.iaload hx (j := (1 : Int32)) (v := (.int y1)) Ar709.1 (State.isArrayOf_alike hZ.alike Ar709.2.1) Ar709.2.2 in709 (Has.at H709 in709 rfl) (g := (mkF m 233 (own_Lown_cutB11_0 sl0 sl1 w2 ar sl4 s0 sl7 ob ) [(.int 1), (.ref ar), (.int 1), (.ref ar)])) rfl rfl (hb hby at_233)) ?_
   refine own_s (g' := (mkF m 235 (own_Lown_cutB11_0 sl0 sl1 w2 ar sl4 s0 sl7 ob ) [(.int 1), (.int y1), (.int 1), (.ref ar)])) (fun _ kz => XS.iconst X695.here hx rfl (hb hby at_234) kz) ?_
   refine own_s (g' := (mkF m 236 (own_Lown_cutB11_0 sl0 sl1 w2 ar sl4 s0 sl7 ob ) [(.int (y1 - (1 : Int32))), (.int 1), (.ref ar)])) (fun _ kz => XS.isub X695.here hx rfl (hb hby at_235) rfl kz) ?_
   obtain ⟨cl710, Ar710, q710, S710, M710, H710, G710⟩ := id f708
   obtain ⟨T710, h710, X710, e710, W710, st710⟩ := stI X695 hx hZ rfl Ar710 (j := (1 : Int32)) (inb_of S710 ⟨by decide, by decide⟩) (g := (mkF m 236 (own_Lown_cutB11_0 sl0 sl1 w2 ar sl4 s0 sl7 ob ) [(.int (y1 - (1 : Int32))), (.int 1), (.ref ar)])) rfl rfl (hb hby at_236)
   have f711 : Arv Z h710 ar ky .int (4 : Int32) [(.int y0), (.int (y1 - (1 : Int32))), (.int y2), (.int y3)] (.int (0 : Int32)) := Arv.set Ar710 q710 S710 M710 H710 G710 rfl W710 1 rfl (Nat.le_of_ble_eq_true rfl)
   have K710 := K695.wr W710 (Or.inl (List.mem_of_getElem? (i := 3) rfl))
   have N710 := Fr.snoc X710 N695 g_ar
   refine own_s (g' := (mkF m 237 (own_Lown_cutB11_0 sl0 sl1 w2 ar sl4 s0 sl7 ob ) [])) st710 ?_
   refine own_s (g' := (mkF m 238 (own_Lown_cutB11_0 sl0 sl1 w2 ar sl4 s0 sl7 ob ) [(.ref ar)])) (fun _ kz => XS.aloadN X710.here hx rfl (hb hby at_237) rfl rfl kz) ?_
   refine own_s (g' := (mkF m 240 (own_Lown_cutB11_0 sl0 sl1 w2 ar sl4 s0 sl7 ob ) [(.int 1), (.ref ar)])) (fun _ kz => XS.iload X710.here hx rfl (hb hby at_238) rfl kz) ?_
   refine own_s (g' := (mkF m 241 (own_Lown_cutB11_0 sl0 sl1 w2 ar sl4 s0 sl7 ob ) [(.int 1), (.int 1), (.ref ar)])) (fun _ kz => XS.iconst X710.here hx rfl (hb hby at_240) kz) ?_
   refine own_s (g' := (mkF m 242 (own_Lown_cutB11_0 sl0 sl1 w2 ar sl4 s0 sl7 ob ) [(.int ((1 : Int32) - (1 : Int32))), (.ref ar)])) (fun _ kz => XS.isub X710.here hx rfl (hb hby at_241) rfl kz) ?_
   rw [show ((1 : Int32) - (1 : Int32)) = (0 : Int32) from by decide]
   refine own_s (g' := (mkF m 243 (own_Lown_cutB11_0 sl0 sl1 w2 ar sl4 s0 sl7 ob ) [(.ref ar), (.int 0), (.ref ar)])) (fun _ kz => XS.aloadN X710.here hx rfl (hb hby at_242) rfl rfl kz) ?_
   refine own_s (g' := (mkF m 245 (own_Lown_cutB11_0 sl0 sl1 w2 ar sl4 s0 sl7 ob ) [(.int 1), (.ref ar), (.int 0), (.ref ar)])) (fun _ kz => XS.iload X710.here hx rfl (hb hby at_243) rfl kz) ?_
   refine own_s (g' := (mkF m 246 (own_Lown_cutB11_0 sl0 sl1 w2 ar sl4 s0 sl7 ob ) [(.int 1), (.int 1), (.ref ar), (.int 0), (.ref ar)])) (fun _ kz => XS.iconst X710.here hx rfl (hb hby at_245) kz) ?_
   refine own_s (g' := (mkF m 247 (own_Lown_cutB11_0 sl0 sl1 w2 ar sl4 s0 sl7 ob ) [(.int ((1 : Int32) - (1 : Int32))), (.ref ar), (.int 0), (.ref ar)])) (fun _ kz => XS.isub X710.here hx rfl (hb hby at_246) rfl kz) ?_
   rw [show ((1 : Int32) - (1 : Int32)) = (0 : Int32) from by decide]
   obtain ⟨cl712, Ar712, -, S712, -, H712, -⟩ := id f711
   have in712 := inb_of S712 (j := (0 : Int32)) ⟨by decide, by decide⟩
   refine own_s (g' := (mkF m 248 (own_Lown_cutB11_0 sl0 sl1 w2 ar sl4 s0 sl7 ob ) [(.int y0), (.int 0), (.ref ar)])) (X710.iaload hx (j := (0 : Int32)) (v := (.int y0)) (by rw [e710]; exact Ar712.1) (State.isArrayOf_alike hZ.alike Ar712.2.1) Ar712.2.2 in712 (Has.at H712 in712 rfl) (g := (mkF m 247 (own_Lown_cutB11_0 sl0 sl1 w2 ar sl4 s0 sl7 ob ) [(.int 0), (.ref ar), (.int 0), (.ref ar)])) rfl rfl (hb hby at_247)) ?_
   refine own_s (g' := (mkF m 249 (own_Lown_cutB11_0 sl0 sl1 w2 ar sl4 s0 sl7 ob ) [(.int 1), (.int y0), (.int 0), (.ref ar)])) (fun _ kz => XS.iconst X710.here hx rfl (hb hby at_248) kz) ?_
   refine own_s (g' := (mkF m 250 (own_Lown_cutB11_0 sl0 sl1 w2 ar sl4 s0 sl7 ob ) [(.int (y0 + (1 : Int32))), (.int 0), (.ref ar)])) (fun _ kz => XS.iadd X710.here hx rfl (hb hby at_249) rfl kz) ?_
   obtain ⟨cl713, Ar713, q713, S713, M713, H713, G713⟩ := id f711
   obtain ⟨T713, h713, X713, e713, W713, st713⟩ := stI X710 hx hZ e710 Ar713 (j := (0 : Int32)) (inb_of S713 ⟨by decide, by decide⟩) (g := (mkF m 250 (own_Lown_cutB11_0 sl0 sl1 w2 ar sl4 s0 sl7 ob ) [(.int (y0 + (1 : Int32))), (.int 0), (.ref ar)])) rfl rfl (hb hby at_250)
   have f714 : Arv Z h713 ar ky .int (4 : Int32) [(.int (y0 + (1 : Int32))), (.int (y1 - (1 : Int32))), (.int y2), (.int y3)] (.int (0 : Int32)) := Arv.set Ar713 q713 S713 M713 H713 G713 rfl W713 0 rfl (Nat.le_of_ble_eq_true rfl)
   have K713 := K710.wr W713 (Or.inl (List.mem_of_getElem? (i := 3) rfl))
   have N713 := Fr.snoc X713 N710 g_ar
   refine own_s (g' := (mkF m 251 (own_Lown_cutB11_0 sl0 sl1 w2 ar sl4 s0 sl7 ob ) [])) st713 ?_
   refine own_s (g' := (mkF m 253 (own_Lown_cutB11_0 sl0 sl1 w2 ar sl4 s0 sl7 ob ) [(.int 1)])) (fun _ kz => XS.iload X713.here hx rfl (hb hby at_251) rfl kz) ?_
   refine own_s (g' := (mkF m 256 (own_Lown_cutB11_0 sl0 sl1 w2 ar sl4 s0 sl7 ob ) [])) (fun _ kz => XS.ifNo X713.here hx rfl (hb hby at_253) rfl ((if0 _ _).trans (feq ((by decide) : ¬ (1 : Int32) = (0 : Int32))).1) kz) ?_
   refine own_s (g' := (mkF m 258 (own_Lown_cutB11_0 sl0 sl1 w2 ar sl4 s0 sl7 ob ) [(.ref ob)])) (fun _ kz => XS.aload X713.here hx rfl (hb hby at_256) rfl rfl kz) ?_
   have f716 := ((f705.other W710 (Or.inl (Ne.symm ne_ar_ob))).other W713 (Or.inl (Ne.symm ne_ar_ob)))
   have f717 := ((f698.wr W710).wr W713)
   obtain ⟨cq715, kq715, q715a, q715b, q715c⟩ := isOf hZ e713 f717
   obtain ⟨_, _, ⟨T715, L715, k715, n715⟩, -, X715, ⟨Lc715, hQ715, l715, y715, z715⟩, st715⟩ := X713.virtualBack hx (y := (⟨"gallai/service/ResidualDegrees", "sum", "()J"⟩ : MethodName)) (z := (⟨"gallai/service/ResidualDegrees", "sum", "()J"⟩ : MethodName)) hown (mvT hZ ww55) (mvT hZ ww56) (notFace_of_selects (args := #[]) (mvT hZ ww58)) (mvT hZ ww58) (mvT hZ ww57) (by decide) (backOf (W := 0) (rm7 l Z a0 hw [] ob ((s0 - (1 : Int64)) - (1 : Int64)) h713 n0 (Nat.le_trans Z0 K713.1) f716) hZ ww59 ww6 (by decide) (by decide)) q715a q715c (g := (mkF m 258 (own_Lown_cutB11_0 sl0 sl1 w2 ar sl4 s0 sl7 ob ) [(.ref ob)])) rfl (by rw [hml]; rfl) (Steps.refl _) (argsL := []) (rest := []) (lenOf pd___J rfl) rfl (by show 2 * 0 + _ ≤ _; exact Nat.le_of_eq rfl) (hb hby at_258) (fun _ _ => ⟨rfl, e713, (by decide : 12 + 0 ≤ _), (by decide : 60 + 0 ≤ _)⟩)
   dsimp only [Pt.U, Pt.locs, Pt.cells, Pt.slots] at X715 l715 y715 z715 st715 hQ715
   subst l715 y715 z715
   obtain ⟨rfl, N715q, eh715⟩ := hQ715
   have N715 := Fr.app N713 N715q
   refine own_trans (g' := (mkF m 261 (own_Lown_cutB11_0 sl0 sl1 w2 ar sl4 s0 sl7 ob ) [(.long ((s0 - (1 : Int64)) - (1 : Int64)))])) st715 ?_
   refine own_s (g' := (mkF m 263 (own_Lown_cutB11_0 sl0 sl1 w2 ar sl4 s0 sl7 ob ) [(.long s0), (.long ((s0 - (1 : Int64)) - (1 : Int64)))])) (fun _ kz => XS.lload X715.here hx rfl (hb hby at_261) rfl kz) ?_
   refine own_s (g' := (mkF m 266 (own_Lown_cutB11_0 sl0 sl1 w2 ar sl4 s0 sl7 ob ) [(.long 2), (.long s0), (.long ((s0 - (1 : Int64)) - (1 : Int64)))])) (X715.ldc2Long hx hown (mvT hZ ww2) (g := (mkF m 263 (own_Lown_cutB11_0 sl0 sl1 w2 ar sl4 s0 sl7 ob ) [(.long s0), (.long ((s0 - (1 : Int64)) - (1 : Int64)))])) rfl (hb hby at_263)) ?_
   refine own_s (g' := (mkF m 267 (own_Lown_cutB11_0 sl0 sl1 w2 ar sl4 s0 sl7 ob ) [(.long (s0 - (2 : Int64))), (.long ((s0 - (1 : Int64)) - (1 : Int64)))])) (fun _ kz => XS.lsub X715.here hx rfl (hb hby at_266) rfl kz) ?_
   refine own_s (g' := (mkF m 268 (own_Lown_cutB11_0 sl0 sl1 w2 ar sl4 s0 sl7 ob ) [(.int (lcmpW ((s0 - (1 : Int64)) - (1 : Int64)) (s0 - (2 : Int64))))])) (fun _ kz => XS.lcmp X715.here hx rfl (hb hby at_267) rfl kz) ?_
   refine own_s (g' := (mkF m 271 (own_Lown_cutB11_0 sl0 sl1 w2 ar sl4 s0 sl7 ob ) [])) (fun _ kz => XS.ifNo X715.here hx rfl (hb hby at_268) rfl ((if0 _ _).trans (teq ((lw_eq ((s0 - (1 : Int64)) - (1 : Int64)) (s0 - (2 : Int64))).mpr (own_s2 _))).2) kz) ?_
   refine own_s (g' := (mkF m 273 (own_Lown_cutB11_0 sl0 sl1 w2 ar sl4 s0 sl7 ob ) [(.ref ob)])) (fun _ kz => XS.aload X715.here hx rfl (hb hby at_271) rfl rfl kz) ?_
   have f719 := ((f707.other W710 (Or.inl (Ne.symm ne_ar_ob))).other W713 (Or.inl (Ne.symm ne_ar_ob)))
   obtain ⟨cq718, kq718, q718a, q718b, q718c⟩ := isOf hZ eh715 f717
   obtain ⟨_, _, ⟨T718, L718, k718, n718⟩, -, X718, ⟨Lc718, hQ718, l718, y718, z718⟩, st718⟩ := X715.virtualBack hx (y := (⟨"gallai/service/ResidualDegrees", "largest", "()I"⟩ : MethodName)) (z := (⟨"gallai/service/ResidualDegrees", "largest", "()I"⟩ : MethodName)) hown (mvT hZ ww60) (mvT hZ ww61) (notFace_of_selects (args := #[]) (mvT hZ ww63)) (mvT hZ ww63) (mvT hZ ww62) (by decide) (backOf (W := 0) (rm8 l Z a0 hw [] ob (1 : Int32) h713 n0 (Nat.le_trans Z0 K713.1) f719) hZ ww64 ww6 (by decide) (by decide)) q718a q718c (g := (mkF m 273 (own_Lown_cutB11_0 sl0 sl1 w2 ar sl4 s0 sl7 ob ) [(.ref ob)])) rfl (by rw [hml]; rfl) (Steps.refl _) (argsL := []) (rest := []) (lenOf pd___I rfl) rfl (by show 2 * 0 + _ ≤ _; exact Nat.le_of_eq rfl) (hb hby at_273) (fun _ _ => ⟨rfl, eh715, (by decide : 12 + 0 ≤ _), (by decide : 60 + 0 ≤ _)⟩)
   dsimp only [Pt.U, Pt.locs, Pt.cells, Pt.slots] at X718 l718 y718 z718 st718 hQ718
   subst l718 y718 z718
   obtain ⟨rfl, N718q, eh718⟩ := hQ718
   have N718 := Fr.app N715 N718q
   refine own_trans (g' := (mkF m 276 (own_Lown_cutB11_0 sl0 sl1 w2 ar sl4 s0 sl7 ob ) [(.int 1)])) st718 ?_
   refine own_s (g' := (mkF m 277 (own_Lown_cutB11_0 sl0 sl1 w2 ar sl4 s0 sl7 ob ) [(.ref ar), (.int 1)])) (fun _ kz => XS.aloadN X718.here hx rfl (hb hby at_276) rfl rfl kz) ?_
   obtain ⟨_, _, ⟨T720, L720, k720, n720⟩, -, X720, ⟨Lc720, hQ720, l720, y720, z720⟩, st720⟩ := Jvm.LawKit.callS X718 hx (y := (⟨"gallai/service/ResidualDegreesLowerPinLaw", "top", "([I)I"⟩ : MethodName)) hown (mvT hZ ww65) (mvT hZ ww66) (mvT hZ ww67) (mvT hZ ww68) (by decide) (backOf (W := 1) (rm9 l Z a0 hw [] ar ky (y0 + (1 : Int32)) (y1 - (1 : Int32)) y2 y3 h713 n0 (Nat.le_trans Z0 K713.1) f714) hZ ww68 ww67 (by decide) (by decide)) (g := (mkF m 277 (own_Lown_cutB11_0 sl0 sl1 w2 ar sl4 s0 sl7 ob ) [(.ref ar), (.int 1)])) rfl (by rw [hml]; rfl) (argsL := [(.ref ar)]) (rest := [(.int 1)]) (lenOf pd___I_I rfl) rfl (by show 2 * 0 + _ ≤ _; exact Nat.le_of_eq rfl) (hb hby at_277) (fun _ _ => ⟨rfl, eh718, (by decide : 12 + 0 ≤ _), (by decide : 60 + 0 ≤ _)⟩)
   dsimp only [Pt.U, Pt.locs, Pt.cells, Pt.slots] at X720 l720 y720 z720 st720 hQ720
   subst l720 y720 z720
   obtain ⟨rfl, N720q, eh720⟩ := hQ720
   have N720 := Fr.app N718 N720q
   refine own_s (g' := (mkF m 280 (own_Lown_cutB11_0 sl0 sl1 w2 ar sl4 s0 sl7 ob ) [(.int (r9 (y1 - (1 : Int32)) y2 y3)), (.int 1)])) st720 ?_
   rw [show (r9 (y1 - (1 : Int32)) y2 y3) = (1 : Int32) from ((if_neg ((own_eqltI (Eq.symm hA8)) : ¬ (0 : Int32) < y3)).trans ((if_neg ((own_eqltI (Eq.symm hA9)) : ¬ (0 : Int32) < y2)).trans (if_pos ((own_triI (fun q => c668 q.symm) hd667) : (0 : Int32) < (y1 - (1 : Int32))))))]
   refine own_s (g' := (mkF m 283 (own_Lown_cutB11_0 sl0 sl1 w2 ar sl4 s0 sl7 ob ) [])) (fun _ kz => XS.icmpNo X720.here hx rfl (hb hby at_280) rfl (teq ((by decide) : (1 : Int32) = (1 : Int32))).2 kz) ?_
   refine own_s (g' := (mkF m 284 (own_Lown_cutB11_0 sl0 sl1 w2 ar sl4 s0 sl7 ob ) [(.int 1)])) (fun _ kz => XS.iconst X720.here hx rfl (hb hby at_283) kz) ?_
   refine own_s (g' := (mkF m 288 (own_Lown_cutB11_0 sl0 sl1 w2 ar sl4 s0 sl7 ob ) [(.int 1)])) (fun _ kz => XS.goto X720.here hx rfl (pc0 := 284) (pc' := 288) rfl (hb hby at_284) (by decide) (by decide) kz) ?_
   refine own_retN X720 hx hlk (t := .boolean) hret (by simp) (hb hby at_288) (z' := (1 : Int32)) (by decide) (by decide) (by decide) ?_
   exact ⟨rfl, N720⟩
abbrev own_Lown_cutB21_0 (sl0 : Slot) (sl1 : Slot) (w2 : Int32) (ar : Addr) (sl4 : Slot) (s0 : Int64) (sl7 : Slot) (ob : Addr)  : Array Slot := #[sl0, sl1, .val (.int w2), .val (.ref ar), sl4, .val (.long s0), .second, sl7, .val (.ref ob), .val (.int 1), .val (.int 1)]
set_option maxRecDepth 65536 in
set_option maxHeartbeats 40000000 in
theorem own_cutB21 (l : Launch) (Z : State) (a0 : Array Value) (hw : ∀ d ∈ tables_1, d.before a0 Z = true) (sl0 : Slot) (sl1 : Slot) (w2 : Int32) (ar : Addr) (sl4 : Slot) (s0 : Int64) (sl7 : Slot) (ob : Addr) (b0_countOf : Addr) (b0_atLeast : Addr) (b0_partnersOf : Addr) (b0_saved : Addr) (b0_slack : Addr) (b0_nextTight : Addr) (kc : ClassId) (y0 : Int32) (y1 : Int32) (y2 : Int32) (y3 : Int32) (kx : ClassId) (na : Int32) (x0 : Int32) (x1 : Int32) (x2 : Int32) (x3 : Int32) (x4 : Int32) (ky : ClassId) {p : Program} {e : Env} {s : State} {m : MethodId} {args : Array Value} {below : List Frame} {meth : Method} {c : Code} {s₁ : State} {locs : List Loc}
    (X0 : Stand p l e room_1 s m args below meth c s₁ locs 12 60) (hx : p.tables.exec = Jvm.exec) (hZ : Z.Warmed39 s.vm) (hby : c.code = code) (hml : c.maxLocals = 11) (hown : s.vm.findClass "gallai/service/ResidualDegreesLowerPinLaw" = some m.cls) (hlk : meth.locks = false) (hret : meth.sig.returnType = some .boolean) (h0 : Heap) (n0 : Nat) (e0 : s₁.heap = h0) (Z0 : n0 ≤ h0.size) (N0 : Fr n0 locs) (F_countOf_ob : Fld Z h0 ob "gallai/service/ResidualDegrees" "countOf" "[I" (.ref b0_countOf)) (F_atLeast_ob : Fld Z h0 ob "gallai/service/ResidualDegrees" "atLeast" "[I" (.ref b0_atLeast)) (F_sum_ob : Fld Z h0 ob "gallai/service/ResidualDegrees" "sum" "J" (.long (s0 - (1 : Int64)))) (F_largest_ob : Fld Z h0 ob "gallai/service/ResidualDegrees" "largest" "I" (.int 2)) (F_partnersOf_ob : Fld Z h0 ob "gallai/service/ResidualDegrees" "partnersOf" "[I" (.ref b0_partnersOf)) (F_saved_ob : Fld Z h0 ob "gallai/service/ResidualDegrees" "saved" "[I" (.ref b0_saved)) (F_slack_ob : Fld Z h0 ob "gallai/service/ResidualDegrees" "slack" "[J" (.ref b0_slack)) (F_nextTight_ob : Fld Z h0 ob "gallai/service/ResidualDegrees" "nextTight" "[I" (.ref b0_nextTight)) (E_ob : Exa Z h0 ob "gallai/service/ResidualDegrees") (V_b0_countOf : Arv Z h0 b0_countOf kc .int (4 : Int32) [(.int y0), (.int y1), (.int y2), (.int y3)] (.int (0 : Int32))) (V_b0_atLeast : Arv Z h0 b0_atLeast kx .int na [(.int x0), (.int x1), (.int x2), (.int x3), (.int x4)] (.int (0 : Int32))) (V_ar : Arv Z h0 ar ky .int (4 : Int32) [(.int y0), (.int y1), (.int y2), (.int y3)] (.int (0 : Int32))) (g_b0_countOf : n0 ≤ b0_countOf) (g_b0_atLeast : n0 ≤ b0_atLeast) (g_ob : n0 ≤ ob) (g_ar : n0 ≤ ar) (ne_ob_b0_countOf : ob ≠ b0_countOf) (ne_b0_atLeast_b0_countOf : b0_atLeast ≠ b0_countOf) (ne_ob_b0_atLeast : ob ≠ b0_atLeast) (ne_ar_b0_countOf : ar ≠ b0_countOf) (ne_ar_b0_atLeast : ar ≠ b0_atLeast) (ne_ar_ob : ar ≠ ob) (hA0 : ¬ y0 < (0 : Int32)) (hA1 : ¬ y1 < (0 : Int32)) (hA2 : ¬ y2 < (0 : Int32)) (hA3 : ¬ y3 < (0 : Int32)) (hA4 : ¬ (20 : Int32) < y0) (hA5 : ¬ (20 : Int32) < y1) (hA6 : ¬ (20 : Int32) < y2) (hA7 : ¬ (20 : Int32) < y3) (hA8 : y3 = (0 : Int32)) (hA9 : ¬ y2 = (0 : Int32)) (hna : (1 : Int32) < na) :
    own_G p e below s (fun v h L => v = some (.int (1 : Int32)) ∧ Fr n0 L) 32 192 s₁ (mkF m 212 #[sl0, sl1, .val (.int w2), .val (.ref ar), sl4, .val (.long s0), .second, sl7, .val (.ref ob), .val (.int 1), .val (.int 1)] []) := by
  have K0 : Keep h0 h0 [b0_countOf, b0_atLeast, ob, ar] := Keep.refl _ _
  have ww2 := hw _ (List.mem_of_getElem? (i := 2) rfl)
  have ww6 := hw _ (List.mem_of_getElem? (i := 6) rfl)
  have ww50 := hw _ (List.mem_of_getElem? (i := 50) rfl)
  have ww51 := hw _ (List.mem_of_getElem? (i := 51) rfl)
  have ww52 := hw _ (List.mem_of_getElem? (i := 52) rfl)
  have ww53 := hw _ (List.mem_of_getElem? (i := 53) rfl)
  have ww54 := hw _ (List.mem_of_getElem? (i := 54) rfl)
  have ww55 := hw _ (List.mem_of_getElem? (i := 55) rfl)
  have ww56 := hw _ (List.mem_of_getElem? (i := 56) rfl)
  have ww57 := hw _ (List.mem_of_getElem? (i := 57) rfl)
  have ww58 := hw _ (List.mem_of_getElem? (i := 58) rfl)
  have ww59 := hw _ (List.mem_of_getElem? (i := 59) rfl)
  have ww60 := hw _ (List.mem_of_getElem? (i := 60) rfl)
  have ww61 := hw _ (List.mem_of_getElem? (i := 61) rfl)
  have ww62 := hw _ (List.mem_of_getElem? (i := 62) rfl)
  have ww63 := hw _ (List.mem_of_getElem? (i := 63) rfl)
  have ww64 := hw _ (List.mem_of_getElem? (i := 64) rfl)
  have ww65 := hw _ (List.mem_of_getElem? (i := 65) rfl)
  have ww66 := hw _ (List.mem_of_getElem? (i := 66) rfl)
  have ww67 := hw _ (List.mem_of_getElem? (i := 67) rfl)
  have ww68 := hw _ (List.mem_of_getElem? (i := 68) rfl)
  show own_G p e below s _ _ _ s₁ (mkF m _ (own_Lown_cutB21_0 sl0 sl1 w2 ar sl4 s0 sl7 ob ) _)
  refine own_s (g' := (mkF m 214 (own_Lown_cutB21_0 sl0 sl1 w2 ar sl4 s0 sl7 ob ) [(.int 1)])) (fun _ kz => XS.iload X0.here hx rfl (hb hby at_212) rfl kz) ?_
  refine own_s (g' := (mkF m 220 (own_Lown_cutB21_0 sl0 sl1 w2 ar sl4 s0 sl7 ob ) [])) (fun _ kz => XS.ifYes X0.here hx rfl (pc0 := 214) (pc' := 220) rfl (hb hby at_214) rfl ((if0 _ _).trans (feq ((by decide) : ¬ (1 : Int32) = (0 : Int32))).2) (by decide) (by decide) kz) ?_
  refine own_s (g' := (mkF m 222 (own_Lown_cutB21_0 sl0 sl1 w2 ar sl4 s0 sl7 ob ) [(.ref ob)])) (fun _ kz => XS.aload X0.here hx rfl (hb hby at_220) rfl rfl kz) ?_
  refine own_s (g' := (mkF m 224 (own_Lown_cutB21_0 sl0 sl1 w2 ar sl4 s0 sl7 ob ) [(.int 1), (.ref ob)])) (fun _ kz => XS.iload X0.here hx rfl (hb hby at_222) rfl kz) ?_
  have hi721 := own_inc (c := y0) hA0 hA4
  obtain ⟨cq722, kq722, q722a, q722b, q722c⟩ := isOf hZ e0 E_ob
  obtain ⟨_, _, ⟨T722, L722, k722, n722⟩, -, X722, ⟨Lc722, hQ722, l722, y722, z722⟩, st722⟩ := X0.virtualBack hx (y := (⟨"gallai/service/ResidualDegrees", "lower", "(I)V"⟩ : MethodName)) (z := (⟨"gallai/service/ResidualDegrees", "lower", "(I)V"⟩ : MethodName)) hown (mvT hZ ww50) (mvT hZ ww51) (notFace_of_selects (args := #[]) (mvT hZ ww53)) (mvT hZ ww53) (mvT hZ ww52) (by decide) (backOf (W := 0) (rm6L2d1 l Z a0 hw [] ob b0_countOf b0_atLeast (s0 - (1 : Int64)) b0_partnersOf b0_saved b0_slack b0_nextTight kc y0 y1 y2 y3 kx na x0 x1 x2 x3 x4 h0 n0 Z0 F_countOf_ob F_atLeast_ob F_sum_ob F_largest_ob F_partnersOf_ob F_saved_ob F_slack_ob F_nextTight_ob E_ob V_b0_countOf V_b0_atLeast g_b0_countOf g_b0_atLeast g_ob ne_ob_b0_countOf ne_b0_atLeast_b0_countOf ne_ob_b0_atLeast hA9 hna) hZ ww54 ww6 (by decide) (by decide)) q722a q722c (g := (mkF m 224 (own_Lown_cutB21_0 sl0 sl1 w2 ar sl4 s0 sl7 ob ) [(.int 1), (.ref ob)])) rfl (by rw [hml]; rfl) (Steps.refl _) (argsL := [(.int 1)]) (rest := []) (lenOf pd__I_V rfl) rfl (by show 2 * 0 + _ ≤ _; exact Nat.le_of_eq rfl) (hb hby at_224) (fun _ _ => ⟨rfl, e0, (by decide : 12 + 0 ≤ _), (by decide : 60 + 0 ≤ _)⟩)
  dsimp only [Pt.U, Pt.locs, Pt.cells, Pt.slots] at X722 l722 y722 z722 st722 hQ722
  subst l722 y722 z722
  obtain ⟨rfl, N722q, K722q, f723, f724, f725, f726, f727, f728, f729, f730, f731, f732, f733⟩ := hQ722
  have K722 := K0.trans K722q (allS (Or.inl (List.mem_of_getElem? (i := 0) rfl)) (allS (Or.inl (List.mem_of_getElem? (i := 1) rfl)) (allS (Or.inl (List.mem_of_getElem? (i := 2) rfl)) all0)))
  have N722 := Fr.app N0 N722q
  refine own_trans (g' := (mkF m 227 (own_Lown_cutB21_0 sl0 sl1 w2 ar sl4 s0 sl7 ob ) [])) st722 ?_
  refine own_s (g' := (mkF m 228 (own_Lown_cutB21_0 sl0 sl1 w2 ar sl4 s0 sl7 ob ) [(.ref ar)])) (fun _ kz => XS.aloadN X722.here hx rfl (hb hby at_227) rfl rfl kz) ?_
  refine own_s (g' := (mkF m 230 (own_Lown_cutB21_0 sl0 sl1 w2 ar sl4 s0 sl7 ob ) [(.int 1), (.ref ar)])) (fun _ kz => XS.iload X722.here hx rfl (hb hby at_228) rfl kz) ?_
  refine own_s (g' := (mkF m 231 (own_Lown_cutB21_0 sl0 sl1 w2 ar sl4 s0 sl7 ob ) [(.ref ar), (.int 1), (.ref ar)])) (fun _ kz => XS.aloadN X722.here hx rfl (hb hby at_230) rfl rfl kz) ?_
  refine own_s (g' := (mkF m 233 (own_Lown_cutB21_0 sl0 sl1 w2 ar sl4 s0 sl7 ob ) [(.int 1), (.ref ar), (.int 1), (.ref ar)])) (fun _ kz => XS.iload X722.here hx rfl (hb hby at_231) rfl kz) ?_
  have f734 := (V_ar.keep K722q (ninS ne_ar_b0_countOf (ninS ne_ar_b0_atLeast (ninS ne_ar_ob nin0))))
  obtain ⟨cl735, Ar735, -, S735, -, H735, -⟩ := id f734
  have in735 := inb_of S735 (j := (1 : Int32)) ⟨by decide, by decide⟩
  refine own_s (g' := (mkF m 234 (own_Lown_cutB21_0 sl0 sl1 w2 ar sl4 s0 sl7 ob ) [(.int y1), (.int 1), (.ref ar)])) (X722.iaload hx (j := (1 : Int32)) (v := (.int y1)) Ar735.1 (State.isArrayOf_alike hZ.alike Ar735.2.1) Ar735.2.2 in735 (Has.at H735 in735 rfl) (g := (mkF m 233 (own_Lown_cutB21_0 sl0 sl1 w2 ar sl4 s0 sl7 ob ) [(.int 1), (.ref ar), (.int 1), (.ref ar)])) rfl rfl (hb hby at_233)) ?_
  refine own_s (g' := (mkF m 235 (own_Lown_cutB21_0 sl0 sl1 w2 ar sl4 s0 sl7 ob ) [(.int 1), (.int y1), (.int 1), (.ref ar)])) (fun _ kz => XS.iconst X722.here hx rfl (hb hby at_234) kz) ?_
  refine own_s (g' := (mkF m 236 (own_Lown_cutB21_0 sl0 sl1 w2 ar sl4 s0 sl7 ob ) [(.int (y1 - (1 : Int32))), (.int 1), (.ref ar)])) (fun _ kz => XS.isub X722.here hx rfl (hb hby at_235) rfl kz) ?_
  obtain ⟨cl736, Ar736, q736, S736, M736, H736, G736⟩ := id f734
  obtain ⟨T736, h736, X736, e736, W736, st736⟩ := stI X722 hx hZ rfl Ar736 (j := (1 : Int32)) (inb_of S736 ⟨by decide, by decide⟩) (g := (mkF m 236 (own_Lown_cutB21_0 sl0 sl1 w2 ar sl4 s0 sl7 ob ) [(.int (y1 - (1 : Int32))), (.int 1), (.ref ar)])) rfl rfl (hb hby at_236)
  have f737 : Arv Z h736 ar ky .int (4 : Int32) [(.int y0), (.int (y1 - (1 : Int32))), (.int y2), (.int y3)] (.int (0 : Int32)) := Arv.set Ar736 q736 S736 M736 H736 G736 rfl W736 1 rfl (Nat.le_of_ble_eq_true rfl)
  have K736 := K722.wr W736 (Or.inl (List.mem_of_getElem? (i := 3) rfl))
  have N736 := Fr.snoc X736 N722 g_ar
  refine own_s (g' := (mkF m 237 (own_Lown_cutB21_0 sl0 sl1 w2 ar sl4 s0 sl7 ob ) [])) st736 ?_
  refine own_s (g' := (mkF m 238 (own_Lown_cutB21_0 sl0 sl1 w2 ar sl4 s0 sl7 ob ) [(.ref ar)])) (fun _ kz => XS.aloadN X736.here hx rfl (hb hby at_237) rfl rfl kz) ?_
  refine own_s (g' := (mkF m 240 (own_Lown_cutB21_0 sl0 sl1 w2 ar sl4 s0 sl7 ob ) [(.int 1), (.ref ar)])) (fun _ kz => XS.iload X736.here hx rfl (hb hby at_238) rfl kz) ?_
  refine own_s (g' := (mkF m 241 (own_Lown_cutB21_0 sl0 sl1 w2 ar sl4 s0 sl7 ob ) [(.int 1), (.int 1), (.ref ar)])) (fun _ kz => XS.iconst X736.here hx rfl (hb hby at_240) kz) ?_
  refine own_s (g' := (mkF m 242 (own_Lown_cutB21_0 sl0 sl1 w2 ar sl4 s0 sl7 ob ) [(.int ((1 : Int32) - (1 : Int32))), (.ref ar)])) (fun _ kz => XS.isub X736.here hx rfl (hb hby at_241) rfl kz) ?_
  rw [show ((1 : Int32) - (1 : Int32)) = (0 : Int32) from by decide]
  refine own_s (g' := (mkF m 243 (own_Lown_cutB21_0 sl0 sl1 w2 ar sl4 s0 sl7 ob ) [(.ref ar), (.int 0), (.ref ar)])) (fun _ kz => XS.aloadN X736.here hx rfl (hb hby at_242) rfl rfl kz) ?_
  refine own_s (g' := (mkF m 245 (own_Lown_cutB21_0 sl0 sl1 w2 ar sl4 s0 sl7 ob ) [(.int 1), (.ref ar), (.int 0), (.ref ar)])) (fun _ kz => XS.iload X736.here hx rfl (hb hby at_243) rfl kz) ?_
  refine own_s (g' := (mkF m 246 (own_Lown_cutB21_0 sl0 sl1 w2 ar sl4 s0 sl7 ob ) [(.int 1), (.int 1), (.ref ar), (.int 0), (.ref ar)])) (fun _ kz => XS.iconst X736.here hx rfl (hb hby at_245) kz) ?_
  refine own_s (g' := (mkF m 247 (own_Lown_cutB21_0 sl0 sl1 w2 ar sl4 s0 sl7 ob ) [(.int ((1 : Int32) - (1 : Int32))), (.ref ar), (.int 0), (.ref ar)])) (fun _ kz => XS.isub X736.here hx rfl (hb hby at_246) rfl kz) ?_
  rw [show ((1 : Int32) - (1 : Int32)) = (0 : Int32) from by decide]
  obtain ⟨cl738, Ar738, -, S738, -, H738, -⟩ := id f737
  have in738 := inb_of S738 (j := (0 : Int32)) ⟨by decide, by decide⟩
  refine own_s (g' := (mkF m 248 (own_Lown_cutB21_0 sl0 sl1 w2 ar sl4 s0 sl7 ob ) [(.int y0), (.int 0), (.ref ar)])) (X736.iaload hx (j := (0 : Int32)) (v := (.int y0)) (by rw [e736]; exact Ar738.1) (State.isArrayOf_alike hZ.alike Ar738.2.1) Ar738.2.2 in738 (Has.at H738 in738 rfl) (g := (mkF m 247 (own_Lown_cutB21_0 sl0 sl1 w2 ar sl4 s0 sl7 ob ) [(.int 0), (.ref ar), (.int 0), (.ref ar)])) rfl rfl (hb hby at_247)) ?_
  refine own_s (g' := (mkF m 249 (own_Lown_cutB21_0 sl0 sl1 w2 ar sl4 s0 sl7 ob ) [(.int 1), (.int y0), (.int 0), (.ref ar)])) (fun _ kz => XS.iconst X736.here hx rfl (hb hby at_248) kz) ?_
  refine own_s (g' := (mkF m 250 (own_Lown_cutB21_0 sl0 sl1 w2 ar sl4 s0 sl7 ob ) [(.int (y0 + (1 : Int32))), (.int 0), (.ref ar)])) (fun _ kz => XS.iadd X736.here hx rfl (hb hby at_249) rfl kz) ?_
  obtain ⟨cl739, Ar739, q739, S739, M739, H739, G739⟩ := id f737
  obtain ⟨T739, h739, X739, e739, W739, st739⟩ := stI X736 hx hZ e736 Ar739 (j := (0 : Int32)) (inb_of S739 ⟨by decide, by decide⟩) (g := (mkF m 250 (own_Lown_cutB21_0 sl0 sl1 w2 ar sl4 s0 sl7 ob ) [(.int (y0 + (1 : Int32))), (.int 0), (.ref ar)])) rfl rfl (hb hby at_250)
  have f740 : Arv Z h739 ar ky .int (4 : Int32) [(.int (y0 + (1 : Int32))), (.int (y1 - (1 : Int32))), (.int y2), (.int y3)] (.int (0 : Int32)) := Arv.set Ar739 q739 S739 M739 H739 G739 rfl W739 0 rfl (Nat.le_of_ble_eq_true rfl)
  have K739 := K736.wr W739 (Or.inl (List.mem_of_getElem? (i := 3) rfl))
  have N739 := Fr.snoc X739 N736 g_ar
  refine own_s (g' := (mkF m 251 (own_Lown_cutB21_0 sl0 sl1 w2 ar sl4 s0 sl7 ob ) [])) st739 ?_
  refine own_s (g' := (mkF m 253 (own_Lown_cutB21_0 sl0 sl1 w2 ar sl4 s0 sl7 ob ) [(.int 1)])) (fun _ kz => XS.iload X739.here hx rfl (hb hby at_251) rfl kz) ?_
  refine own_s (g' := (mkF m 256 (own_Lown_cutB21_0 sl0 sl1 w2 ar sl4 s0 sl7 ob ) [])) (fun _ kz => XS.ifNo X739.here hx rfl (hb hby at_253) rfl ((if0 _ _).trans (feq ((by decide) : ¬ (1 : Int32) = (0 : Int32))).1) kz) ?_
  refine own_s (g' := (mkF m 258 (own_Lown_cutB21_0 sl0 sl1 w2 ar sl4 s0 sl7 ob ) [(.ref ob)])) (fun _ kz => XS.aload X739.here hx rfl (hb hby at_256) rfl rfl kz) ?_
  have f742 := ((f733.other W736 (Or.inl (Ne.symm ne_ar_ob))).other W739 (Or.inl (Ne.symm ne_ar_ob)))
  have f743 := ((f725.wr W736).wr W739)
  obtain ⟨cq741, kq741, q741a, q741b, q741c⟩ := isOf hZ e739 f743
  obtain ⟨_, _, ⟨T741, L741, k741, n741⟩, -, X741, ⟨Lc741, hQ741, l741, y741, z741⟩, st741⟩ := X739.virtualBack hx (y := (⟨"gallai/service/ResidualDegrees", "sum", "()J"⟩ : MethodName)) (z := (⟨"gallai/service/ResidualDegrees", "sum", "()J"⟩ : MethodName)) hown (mvT hZ ww55) (mvT hZ ww56) (notFace_of_selects (args := #[]) (mvT hZ ww58)) (mvT hZ ww58) (mvT hZ ww57) (by decide) (backOf (W := 0) (rm7 l Z a0 hw [] ob ((s0 - (1 : Int64)) - (1 : Int64)) h739 n0 (Nat.le_trans Z0 K739.1) f742) hZ ww59 ww6 (by decide) (by decide)) q741a q741c (g := (mkF m 258 (own_Lown_cutB21_0 sl0 sl1 w2 ar sl4 s0 sl7 ob ) [(.ref ob)])) rfl (by rw [hml]; rfl) (Steps.refl _) (argsL := []) (rest := []) (lenOf pd___J rfl) rfl (by show 2 * 0 + _ ≤ _; exact Nat.le_of_eq rfl) (hb hby at_258) (fun _ _ => ⟨rfl, e739, (by decide : 12 + 0 ≤ _), (by decide : 60 + 0 ≤ _)⟩)
  dsimp only [Pt.U, Pt.locs, Pt.cells, Pt.slots] at X741 l741 y741 z741 st741 hQ741
  subst l741 y741 z741
  obtain ⟨rfl, N741q, eh741⟩ := hQ741
  have N741 := Fr.app N739 N741q
  refine own_trans (g' := (mkF m 261 (own_Lown_cutB21_0 sl0 sl1 w2 ar sl4 s0 sl7 ob ) [(.long ((s0 - (1 : Int64)) - (1 : Int64)))])) st741 ?_
  refine own_s (g' := (mkF m 263 (own_Lown_cutB21_0 sl0 sl1 w2 ar sl4 s0 sl7 ob ) [(.long s0), (.long ((s0 - (1 : Int64)) - (1 : Int64)))])) (fun _ kz => XS.lload X741.here hx rfl (hb hby at_261) rfl kz) ?_
  refine own_s (g' := (mkF m 266 (own_Lown_cutB21_0 sl0 sl1 w2 ar sl4 s0 sl7 ob ) [(.long 2), (.long s0), (.long ((s0 - (1 : Int64)) - (1 : Int64)))])) (X741.ldc2Long hx hown (mvT hZ ww2) (g := (mkF m 263 (own_Lown_cutB21_0 sl0 sl1 w2 ar sl4 s0 sl7 ob ) [(.long s0), (.long ((s0 - (1 : Int64)) - (1 : Int64)))])) rfl (hb hby at_263)) ?_
  refine own_s (g' := (mkF m 267 (own_Lown_cutB21_0 sl0 sl1 w2 ar sl4 s0 sl7 ob ) [(.long (s0 - (2 : Int64))), (.long ((s0 - (1 : Int64)) - (1 : Int64)))])) (fun _ kz => XS.lsub X741.here hx rfl (hb hby at_266) rfl kz) ?_
  refine own_s (g' := (mkF m 268 (own_Lown_cutB21_0 sl0 sl1 w2 ar sl4 s0 sl7 ob ) [(.int (lcmpW ((s0 - (1 : Int64)) - (1 : Int64)) (s0 - (2 : Int64))))])) (fun _ kz => XS.lcmp X741.here hx rfl (hb hby at_267) rfl kz) ?_
  refine own_s (g' := (mkF m 271 (own_Lown_cutB21_0 sl0 sl1 w2 ar sl4 s0 sl7 ob ) [])) (fun _ kz => XS.ifNo X741.here hx rfl (hb hby at_268) rfl ((if0 _ _).trans (teq ((lw_eq ((s0 - (1 : Int64)) - (1 : Int64)) (s0 - (2 : Int64))).mpr (own_s2 _))).2) kz) ?_
  refine own_s (g' := (mkF m 273 (own_Lown_cutB21_0 sl0 sl1 w2 ar sl4 s0 sl7 ob ) [(.ref ob)])) (fun _ kz => XS.aload X741.here hx rfl (hb hby at_271) rfl rfl kz) ?_
  have f745 := ((f728.other W736 (Or.inl (Ne.symm ne_ar_ob))).other W739 (Or.inl (Ne.symm ne_ar_ob)))
  obtain ⟨cq744, kq744, q744a, q744b, q744c⟩ := isOf hZ eh741 f743
  obtain ⟨_, _, ⟨T744, L744, k744, n744⟩, -, X744, ⟨Lc744, hQ744, l744, y744, z744⟩, st744⟩ := X741.virtualBack hx (y := (⟨"gallai/service/ResidualDegrees", "largest", "()I"⟩ : MethodName)) (z := (⟨"gallai/service/ResidualDegrees", "largest", "()I"⟩ : MethodName)) hown (mvT hZ ww60) (mvT hZ ww61) (notFace_of_selects (args := #[]) (mvT hZ ww63)) (mvT hZ ww63) (mvT hZ ww62) (by decide) (backOf (W := 0) (rm8 l Z a0 hw [] ob (2 : Int32) h739 n0 (Nat.le_trans Z0 K739.1) f745) hZ ww64 ww6 (by decide) (by decide)) q744a q744c (g := (mkF m 273 (own_Lown_cutB21_0 sl0 sl1 w2 ar sl4 s0 sl7 ob ) [(.ref ob)])) rfl (by rw [hml]; rfl) (Steps.refl _) (argsL := []) (rest := []) (lenOf pd___I rfl) rfl (by show 2 * 0 + _ ≤ _; exact Nat.le_of_eq rfl) (hb hby at_273) (fun _ _ => ⟨rfl, eh741, (by decide : 12 + 0 ≤ _), (by decide : 60 + 0 ≤ _)⟩)
  dsimp only [Pt.U, Pt.locs, Pt.cells, Pt.slots] at X744 l744 y744 z744 st744 hQ744
  subst l744 y744 z744
  obtain ⟨rfl, N744q, eh744⟩ := hQ744
  have N744 := Fr.app N741 N744q
  refine own_trans (g' := (mkF m 276 (own_Lown_cutB21_0 sl0 sl1 w2 ar sl4 s0 sl7 ob ) [(.int 2)])) st744 ?_
  refine own_s (g' := (mkF m 277 (own_Lown_cutB21_0 sl0 sl1 w2 ar sl4 s0 sl7 ob ) [(.ref ar), (.int 2)])) (fun _ kz => XS.aloadN X744.here hx rfl (hb hby at_276) rfl rfl kz) ?_
  obtain ⟨_, _, ⟨T746, L746, k746, n746⟩, -, X746, ⟨Lc746, hQ746, l746, y746, z746⟩, st746⟩ := Jvm.LawKit.callS X744 hx (y := (⟨"gallai/service/ResidualDegreesLowerPinLaw", "top", "([I)I"⟩ : MethodName)) hown (mvT hZ ww65) (mvT hZ ww66) (mvT hZ ww67) (mvT hZ ww68) (by decide) (backOf (W := 1) (rm9 l Z a0 hw [] ar ky (y0 + (1 : Int32)) (y1 - (1 : Int32)) y2 y3 h739 n0 (Nat.le_trans Z0 K739.1) f740) hZ ww68 ww67 (by decide) (by decide)) (g := (mkF m 277 (own_Lown_cutB21_0 sl0 sl1 w2 ar sl4 s0 sl7 ob ) [(.ref ar), (.int 2)])) rfl (by rw [hml]; rfl) (argsL := [(.ref ar)]) (rest := [(.int 2)]) (lenOf pd___I_I rfl) rfl (by show 2 * 0 + _ ≤ _; exact Nat.le_of_eq rfl) (hb hby at_277) (fun _ _ => ⟨rfl, eh744, (by decide : 12 + 0 ≤ _), (by decide : 60 + 0 ≤ _)⟩)
  dsimp only [Pt.U, Pt.locs, Pt.cells, Pt.slots] at X746 l746 y746 z746 st746 hQ746
  subst l746 y746 z746
  obtain ⟨rfl, N746q, eh746⟩ := hQ746
  have N746 := Fr.app N744 N746q
  refine own_s (g' := (mkF m 280 (own_Lown_cutB21_0 sl0 sl1 w2 ar sl4 s0 sl7 ob ) [(.int (r9 (y1 - (1 : Int32)) y2 y3)), (.int 2)])) st746 ?_
  rw [show (r9 (y1 - (1 : Int32)) y2 y3) = (2 : Int32) from ((if_neg ((own_eqltI (Eq.symm hA8)) : ¬ (0 : Int32) < y3)).trans (if_pos ((own_triI (fun q => hA9 q.symm) hA2) : (0 : Int32) < y2)))]
  refine own_s (g' := (mkF m 283 (own_Lown_cutB21_0 sl0 sl1 w2 ar sl4 s0 sl7 ob ) [])) (fun _ kz => XS.icmpNo X746.here hx rfl (hb hby at_280) rfl (teq ((by decide) : (2 : Int32) = (2 : Int32))).2 kz) ?_
  refine own_s (g' := (mkF m 284 (own_Lown_cutB21_0 sl0 sl1 w2 ar sl4 s0 sl7 ob ) [(.int 1)])) (fun _ kz => XS.iconst X746.here hx rfl (hb hby at_283) kz) ?_
  refine own_s (g' := (mkF m 288 (own_Lown_cutB21_0 sl0 sl1 w2 ar sl4 s0 sl7 ob ) [(.int 1)])) (fun _ kz => XS.goto X746.here hx rfl (pc0 := 284) (pc' := 288) rfl (hb hby at_284) (by decide) (by decide) kz) ?_
  refine own_retN X746 hx hlk (t := .boolean) hret (by simp) (hb hby at_288) (z' := (1 : Int32)) (by decide) (by decide) (by decide) ?_
  exact ⟨rfl, N746⟩
abbrev own_Lown_cutB22_0 (sl0 : Slot) (sl1 : Slot) (w2 : Int32) (ar : Addr) (sl4 : Slot) (s0 : Int64) (sl7 : Slot) (ob : Addr)  : Array Slot := #[sl0, sl1, .val (.int w2), .val (.ref ar), sl4, .val (.long s0), .second, sl7, .val (.ref ob), .val (.int 1), .val (.int 2)]
set_option maxRecDepth 65536 in
set_option maxHeartbeats 40000000 in
theorem own_cutB22 (l : Launch) (Z : State) (a0 : Array Value) (hw : ∀ d ∈ tables_1, d.before a0 Z = true) (sl0 : Slot) (sl1 : Slot) (w2 : Int32) (ar : Addr) (sl4 : Slot) (s0 : Int64) (sl7 : Slot) (ob : Addr) (b0_countOf : Addr) (b0_atLeast : Addr) (b0_partnersOf : Addr) (b0_saved : Addr) (b0_slack : Addr) (b0_nextTight : Addr) (kc : ClassId) (y0 : Int32) (y1 : Int32) (y2 : Int32) (y3 : Int32) (kx : ClassId) (na : Int32) (x0 : Int32) (x1 : Int32) (x2 : Int32) (x3 : Int32) (x4 : Int32) (ky : ClassId) {p : Program} {e : Env} {s : State} {m : MethodId} {args : Array Value} {below : List Frame} {meth : Method} {c : Code} {s₁ : State} {locs : List Loc}
    (X0 : Stand p l e room_1 s m args below meth c s₁ locs 12 60) (hx : p.tables.exec = Jvm.exec) (hZ : Z.Warmed39 s.vm) (hby : c.code = code) (hml : c.maxLocals = 11) (hown : s.vm.findClass "gallai/service/ResidualDegreesLowerPinLaw" = some m.cls) (hlk : meth.locks = false) (hret : meth.sig.returnType = some .boolean) (h0 : Heap) (n0 : Nat) (e0 : s₁.heap = h0) (Z0 : n0 ≤ h0.size) (N0 : Fr n0 locs) (F_countOf_ob : Fld Z h0 ob "gallai/service/ResidualDegrees" "countOf" "[I" (.ref b0_countOf)) (F_atLeast_ob : Fld Z h0 ob "gallai/service/ResidualDegrees" "atLeast" "[I" (.ref b0_atLeast)) (F_sum_ob : Fld Z h0 ob "gallai/service/ResidualDegrees" "sum" "J" (.long (s0 - (1 : Int64)))) (F_largest_ob : Fld Z h0 ob "gallai/service/ResidualDegrees" "largest" "I" (.int 2)) (F_partnersOf_ob : Fld Z h0 ob "gallai/service/ResidualDegrees" "partnersOf" "[I" (.ref b0_partnersOf)) (F_saved_ob : Fld Z h0 ob "gallai/service/ResidualDegrees" "saved" "[I" (.ref b0_saved)) (F_slack_ob : Fld Z h0 ob "gallai/service/ResidualDegrees" "slack" "[J" (.ref b0_slack)) (F_nextTight_ob : Fld Z h0 ob "gallai/service/ResidualDegrees" "nextTight" "[I" (.ref b0_nextTight)) (E_ob : Exa Z h0 ob "gallai/service/ResidualDegrees") (V_b0_countOf : Arv Z h0 b0_countOf kc .int (4 : Int32) [(.int y0), (.int y1), (.int y2), (.int y3)] (.int (0 : Int32))) (V_b0_atLeast : Arv Z h0 b0_atLeast kx .int na [(.int x0), (.int x1), (.int x2), (.int x3), (.int x4)] (.int (0 : Int32))) (V_ar : Arv Z h0 ar ky .int (4 : Int32) [(.int y0), (.int y1), (.int y2), (.int y3)] (.int (0 : Int32))) (g_b0_countOf : n0 ≤ b0_countOf) (g_b0_atLeast : n0 ≤ b0_atLeast) (g_ob : n0 ≤ ob) (g_ar : n0 ≤ ar) (ne_ob_b0_countOf : ob ≠ b0_countOf) (ne_b0_atLeast_b0_countOf : b0_atLeast ≠ b0_countOf) (ne_ob_b0_atLeast : ob ≠ b0_atLeast) (ne_ar_b0_countOf : ar ≠ b0_countOf) (ne_ar_b0_atLeast : ar ≠ b0_atLeast) (ne_ar_ob : ar ≠ ob) (hA0 : ¬ y0 < (0 : Int32)) (hA1 : ¬ y1 < (0 : Int32)) (hA2 : ¬ y2 < (0 : Int32)) (hA3 : ¬ y3 < (0 : Int32)) (hA4 : ¬ (20 : Int32) < y0) (hA5 : ¬ (20 : Int32) < y1) (hA6 : ¬ (20 : Int32) < y2) (hA7 : ¬ (20 : Int32) < y3) (hA8 : y3 = (0 : Int32)) (hA9 : ¬ y2 = (0 : Int32)) (hna : (2 : Int32) < na) :
    own_G p e below s (fun v h L => v = some (.int (1 : Int32)) ∧ Fr n0 L) 32 192 s₁ (mkF m 212 #[sl0, sl1, .val (.int w2), .val (.ref ar), sl4, .val (.long s0), .second, sl7, .val (.ref ob), .val (.int 1), .val (.int 2)] []) := by
  have K0 : Keep h0 h0 [b0_countOf, b0_atLeast, ob, ar] := Keep.refl _ _
  have ww2 := hw _ (List.mem_of_getElem? (i := 2) rfl)
  have ww6 := hw _ (List.mem_of_getElem? (i := 6) rfl)
  have ww50 := hw _ (List.mem_of_getElem? (i := 50) rfl)
  have ww51 := hw _ (List.mem_of_getElem? (i := 51) rfl)
  have ww52 := hw _ (List.mem_of_getElem? (i := 52) rfl)
  have ww53 := hw _ (List.mem_of_getElem? (i := 53) rfl)
  have ww54 := hw _ (List.mem_of_getElem? (i := 54) rfl)
  have ww55 := hw _ (List.mem_of_getElem? (i := 55) rfl)
  have ww56 := hw _ (List.mem_of_getElem? (i := 56) rfl)
  have ww57 := hw _ (List.mem_of_getElem? (i := 57) rfl)
  have ww58 := hw _ (List.mem_of_getElem? (i := 58) rfl)
  have ww59 := hw _ (List.mem_of_getElem? (i := 59) rfl)
  have ww60 := hw _ (List.mem_of_getElem? (i := 60) rfl)
  have ww61 := hw _ (List.mem_of_getElem? (i := 61) rfl)
  have ww62 := hw _ (List.mem_of_getElem? (i := 62) rfl)
  have ww63 := hw _ (List.mem_of_getElem? (i := 63) rfl)
  have ww64 := hw _ (List.mem_of_getElem? (i := 64) rfl)
  have ww65 := hw _ (List.mem_of_getElem? (i := 65) rfl)
  have ww66 := hw _ (List.mem_of_getElem? (i := 66) rfl)
  have ww67 := hw _ (List.mem_of_getElem? (i := 67) rfl)
  have ww68 := hw _ (List.mem_of_getElem? (i := 68) rfl)
  show own_G p e below s _ _ _ s₁ (mkF m _ (own_Lown_cutB22_0 sl0 sl1 w2 ar sl4 s0 sl7 ob ) _)
  refine own_s (g' := (mkF m 214 (own_Lown_cutB22_0 sl0 sl1 w2 ar sl4 s0 sl7 ob ) [(.int 2)])) (fun _ kz => XS.iload X0.here hx rfl (hb hby at_212) rfl kz) ?_
  refine own_s (g' := (mkF m 220 (own_Lown_cutB22_0 sl0 sl1 w2 ar sl4 s0 sl7 ob ) [])) (fun _ kz => XS.ifYes X0.here hx rfl (pc0 := 214) (pc' := 220) rfl (hb hby at_214) rfl ((if0 _ _).trans (feq ((by decide) : ¬ (2 : Int32) = (0 : Int32))).2) (by decide) (by decide) kz) ?_
  refine own_s (g' := (mkF m 222 (own_Lown_cutB22_0 sl0 sl1 w2 ar sl4 s0 sl7 ob ) [(.ref ob)])) (fun _ kz => XS.aload X0.here hx rfl (hb hby at_220) rfl rfl kz) ?_
  refine own_s (g' := (mkF m 224 (own_Lown_cutB22_0 sl0 sl1 w2 ar sl4 s0 sl7 ob ) [(.int 2), (.ref ob)])) (fun _ kz => XS.iload X0.here hx rfl (hb hby at_222) rfl kz) ?_
  have hi747 := own_inc (c := y1) hA1 hA5
  have hd748 := own_dec (c := y2) hA2 hA9
  by_cases c749 : (y2 - (1 : Int32)) = (0 : Int32)
  ·skip
   obtain ⟨cq750, kq750, q750a, q750b, q750c⟩ := isOf hZ e0 E_ob
   obtain ⟨_, _, ⟨T750, L750, k750, n750⟩, -, X750, ⟨Lc750, hQ750, l750, y750, z750⟩, st750⟩ := X0.virtualBack hx (y := (⟨"gallai/service/ResidualDegrees", "lower", "(I)V"⟩ : MethodName)) (z := (⟨"gallai/service/ResidualDegrees", "lower", "(I)V"⟩ : MethodName)) hown (mvT hZ ww50) (mvT hZ ww51) (notFace_of_selects (args := #[]) (mvT hZ ww53)) (mvT hZ ww53) (mvT hZ ww52) (by decide) (backOf (W := 0) (rm6L2d2 l Z a0 hw [] ob b0_countOf b0_atLeast (s0 - (1 : Int64)) b0_partnersOf b0_saved b0_slack b0_nextTight kc y0 y1 y2 y3 kx na x0 x1 x2 x3 x4 h0 n0 Z0 F_countOf_ob F_atLeast_ob F_sum_ob F_largest_ob F_partnersOf_ob F_saved_ob F_slack_ob F_nextTight_ob E_ob V_b0_countOf V_b0_atLeast g_b0_countOf g_b0_atLeast g_ob ne_ob_b0_countOf ne_b0_atLeast_b0_countOf ne_ob_b0_atLeast (hi747.1 : ¬ (y1 + (1 : Int32)) = (0 : Int32)) hna) hZ ww54 ww6 (by decide) (by decide)) q750a q750c (g := (mkF m 224 (own_Lown_cutB22_0 sl0 sl1 w2 ar sl4 s0 sl7 ob ) [(.int 2), (.ref ob)])) rfl (by rw [hml]; rfl) (Steps.refl _) (argsL := [(.int 2)]) (rest := []) (lenOf pd__I_V rfl) rfl (by show 2 * 0 + _ ≤ _; exact Nat.le_of_eq rfl) (hb hby at_224) (fun _ _ => ⟨rfl, e0, (by decide : 12 + 0 ≤ _), (by decide : 60 + 0 ≤ _)⟩)
   dsimp only [Pt.U, Pt.locs, Pt.cells, Pt.slots] at X750 l750 y750 z750 st750 hQ750
   subst l750 y750 z750
   obtain ⟨rfl, N750q, K750q, f751, f752, f753, f754, f755, f756, f757, f758, f759, f760, f761⟩ := hQ750
   have f762 : Fld Z T750.heap ob "gallai/service/ResidualDegrees" "largest" "I" (.int 1) := (show (w6L2d2_largest y2) = (1 : Int32) from (if_pos c749)) ▸ f761
   have K750 := K0.trans K750q (allS (Or.inl (List.mem_of_getElem? (i := 0) rfl)) (allS (Or.inl (List.mem_of_getElem? (i := 1) rfl)) (allS (Or.inl (List.mem_of_getElem? (i := 2) rfl)) all0)))
   have N750 := Fr.app N0 N750q
   refine own_trans (g' := (mkF m 227 (own_Lown_cutB22_0 sl0 sl1 w2 ar sl4 s0 sl7 ob ) [])) st750 ?_
   refine own_s (g' := (mkF m 228 (own_Lown_cutB22_0 sl0 sl1 w2 ar sl4 s0 sl7 ob ) [(.ref ar)])) (fun _ kz => XS.aloadN X750.here hx rfl (hb hby at_227) rfl rfl kz) ?_
   refine own_s (g' := (mkF m 230 (own_Lown_cutB22_0 sl0 sl1 w2 ar sl4 s0 sl7 ob ) [(.int 2), (.ref ar)])) (fun _ kz => XS.iload X750.here hx rfl (hb hby at_228) rfl kz) ?_
   refine own_s (g' := (mkF m 231 (own_Lown_cutB22_0 sl0 sl1 w2 ar sl4 s0 sl7 ob ) [(.ref ar), (.int 2), (.ref ar)])) (fun _ kz => XS.aloadN X750.here hx rfl (hb hby at_230) rfl rfl kz) ?_
   refine own_s (g' := (mkF m 233 (own_Lown_cutB22_0 sl0 sl1 w2 ar sl4 s0 sl7 ob ) [(.int 2), (.ref ar), (.int 2), (.ref ar)])) (fun _ kz => XS.iload X750.here hx rfl (hb hby at_231) rfl kz) ?_
   have f763 := (V_ar.keep K750q (ninS ne_ar_b0_countOf (ninS ne_ar_b0_atLeast (ninS ne_ar_ob nin0))))
   obtain ⟨cl764, Ar764, -, S764, -, H764, -⟩ := id f763
   have in764 := inb_of S764 (j := (2 : Int32)) ⟨by decide, by decide⟩
   refine own_s (g' := (mkF m 234 (own_Lown_cutB22_0 sl0 sl1 w2 ar sl4 s0 sl7 ob ) [(.int y2), (.int 2), (.ref ar)])) (X750.iaload hx (j := (2 : Int32)) (v := (.int y2)) Ar764.1 (State.isArrayOf_alike hZ.alike Ar764.2.1) Ar764.2.2 in764 (Has.at H764 in764 rfl) (g := (mkF m 233 (own_Lown_cutB22_0 sl0 sl1 w2 ar sl4 s0 sl7 ob ) [(.int 2), (.ref ar), (.int 2), (.ref ar)])) rfl rfl (hb hby at_233)) ?_
   refine own_s (g' := (mkF m 235 (own_Lown_cutB22_0 sl0 sl1 w2 ar sl4 s0 sl7 ob ) [(.int 1), (.int y2), (.int 2), (.ref ar)])) (fun _ kz => XS.iconst X750.here hx rfl (hb hby at_234) kz) ?_
   refine own_s (g' := (mkF m 236 (own_Lown_cutB22_0 sl0 sl1 w2 ar sl4 s0 sl7 ob ) [(.int (y2 - (1 : Int32))), (.int 2), (.ref ar)])) (fun _ kz => XS.isub X750.here hx rfl (hb hby at_235) rfl kz) ?_
   obtain ⟨cl765, Ar765, q765, S765, M765, H765, G765⟩ := id f763
   obtain ⟨T765, h765, X765, e765, W765, st765⟩ := stI X750 hx hZ rfl Ar765 (j := (2 : Int32)) (inb_of S765 ⟨by decide, by decide⟩) (g := (mkF m 236 (own_Lown_cutB22_0 sl0 sl1 w2 ar sl4 s0 sl7 ob ) [(.int (y2 - (1 : Int32))), (.int 2), (.ref ar)])) rfl rfl (hb hby at_236)
   have f766 : Arv Z h765 ar ky .int (4 : Int32) [(.int y0), (.int y1), (.int (y2 - (1 : Int32))), (.int y3)] (.int (0 : Int32)) := Arv.set Ar765 q765 S765 M765 H765 G765 rfl W765 2 rfl (Nat.le_of_ble_eq_true rfl)
   have K765 := K750.wr W765 (Or.inl (List.mem_of_getElem? (i := 3) rfl))
   have N765 := Fr.snoc X765 N750 g_ar
   refine own_s (g' := (mkF m 237 (own_Lown_cutB22_0 sl0 sl1 w2 ar sl4 s0 sl7 ob ) [])) st765 ?_
   refine own_s (g' := (mkF m 238 (own_Lown_cutB22_0 sl0 sl1 w2 ar sl4 s0 sl7 ob ) [(.ref ar)])) (fun _ kz => XS.aloadN X765.here hx rfl (hb hby at_237) rfl rfl kz) ?_
   refine own_s (g' := (mkF m 240 (own_Lown_cutB22_0 sl0 sl1 w2 ar sl4 s0 sl7 ob ) [(.int 2), (.ref ar)])) (fun _ kz => XS.iload X765.here hx rfl (hb hby at_238) rfl kz) ?_
   refine own_s (g' := (mkF m 241 (own_Lown_cutB22_0 sl0 sl1 w2 ar sl4 s0 sl7 ob ) [(.int 1), (.int 2), (.ref ar)])) (fun _ kz => XS.iconst X765.here hx rfl (hb hby at_240) kz) ?_
   refine own_s (g' := (mkF m 242 (own_Lown_cutB22_0 sl0 sl1 w2 ar sl4 s0 sl7 ob ) [(.int ((2 : Int32) - (1 : Int32))), (.ref ar)])) (fun _ kz => XS.isub X765.here hx rfl (hb hby at_241) rfl kz) ?_
   rw [show ((2 : Int32) - (1 : Int32)) = (1 : Int32) from by decide]
   refine own_s (g' := (mkF m 243 (own_Lown_cutB22_0 sl0 sl1 w2 ar sl4 s0 sl7 ob ) [(.ref ar), (.int 1), (.ref ar)])) (fun _ kz => XS.aloadN X765.here hx rfl (hb hby at_242) rfl rfl kz) ?_
   refine own_s (g' := (mkF m 245 (own_Lown_cutB22_0 sl0 sl1 w2 ar sl4 s0 sl7 ob ) [(.int 2), (.ref ar), (.int 1), (.ref ar)])) (fun _ kz => XS.iload X765.here hx rfl (hb hby at_243) rfl kz) ?_
   refine own_s (g' := (mkF m 246 (own_Lown_cutB22_0 sl0 sl1 w2 ar sl4 s0 sl7 ob ) [(.int 1), (.int 2), (.ref ar), (.int 1), (.ref ar)])) (fun _ kz => XS.iconst X765.here hx rfl (hb hby at_245) kz) ?_
   refine own_s (g' := (mkF m 247 (own_Lown_cutB22_0 sl0 sl1 w2 ar sl4 s0 sl7 ob ) [(.int ((2 : Int32) - (1 : Int32))), (.ref ar), (.int 1), (.ref ar)])) (fun _ kz => XS.isub X765.here hx rfl (hb hby at_246) rfl kz) ?_
   rw [show ((2 : Int32) - (1 : Int32)) = (1 : Int32) from by decide]
   obtain ⟨cl767, Ar767, -, S767, -, H767, -⟩ := id f766
   have in767 := inb_of S767 (j := (1 : Int32)) ⟨by decide, by decide⟩
   refine own_s (g' := (mkF m 248 (own_Lown_cutB22_0 sl0 sl1 w2 ar sl4 s0 sl7 ob ) [(.int y1), (.int 1), (.ref ar)])) (X765.iaload hx (j := (1 : Int32)) (v := (.int y1)) (by rw [e765]; exact Ar767.1) (State.isArrayOf_alike hZ.alike Ar767.2.1) Ar767.2.2 in767 (Has.at H767 in767 rfl) (g := (mkF m 247 (own_Lown_cutB22_0 sl0 sl1 w2 ar sl4 s0 sl7 ob ) [(.int 1), (.ref ar), (.int 1), (.ref ar)])) rfl rfl (hb hby at_247)) ?_
   refine own_s (g' := (mkF m 249 (own_Lown_cutB22_0 sl0 sl1 w2 ar sl4 s0 sl7 ob ) [(.int 1), (.int y1), (.int 1), (.ref ar)])) (fun _ kz => XS.iconst X765.here hx rfl (hb hby at_248) kz) ?_
   refine own_s (g' := (mkF m 250 (own_Lown_cutB22_0 sl0 sl1 w2 ar sl4 s0 sl7 ob ) [(.int (y1 + (1 : Int32))), (.int 1), (.ref ar)])) (fun _ kz => XS.iadd X765.here hx rfl (hb hby at_249) rfl kz) ?_
   obtain ⟨cl768, Ar768, q768, S768, M768, H768, G768⟩ := id f766
   obtain ⟨T768, h768, X768, e768, W768, st768⟩ := stI X765 hx hZ e765 Ar768 (j := (1 : Int32)) (inb_of S768 ⟨by decide, by decide⟩) (g := (mkF m 250 (own_Lown_cutB22_0 sl0 sl1 w2 ar sl4 s0 sl7 ob ) [(.int (y1 + (1 : Int32))), (.int 1), (.ref ar)])) rfl rfl (hb hby at_250)
   have f769 : Arv Z h768 ar ky .int (4 : Int32) [(.int y0), (.int (y1 + (1 : Int32))), (.int (y2 - (1 : Int32))), (.int y3)] (.int (0 : Int32)) := Arv.set Ar768 q768 S768 M768 H768 G768 rfl W768 1 rfl (Nat.le_of_ble_eq_true rfl)
   have K768 := K765.wr W768 (Or.inl (List.mem_of_getElem? (i := 3) rfl))
   have N768 := Fr.snoc X768 N765 g_ar
   refine own_s (g' := (mkF m 251 (own_Lown_cutB22_0 sl0 sl1 w2 ar sl4 s0 sl7 ob ) [])) st768 ?_
   refine own_s (g' := (mkF m 253 (own_Lown_cutB22_0 sl0 sl1 w2 ar sl4 s0 sl7 ob ) [(.int 1)])) (fun _ kz => XS.iload X768.here hx rfl (hb hby at_251) rfl kz) ?_
   refine own_s (g' := (mkF m 256 (own_Lown_cutB22_0 sl0 sl1 w2 ar sl4 s0 sl7 ob ) [])) (fun _ kz => XS.ifNo X768.here hx rfl (hb hby at_253) rfl ((if0 _ _).trans (feq ((by decide) : ¬ (1 : Int32) = (0 : Int32))).1) kz) ?_
   refine own_s (g' := (mkF m 258 (own_Lown_cutB22_0 sl0 sl1 w2 ar sl4 s0 sl7 ob ) [(.ref ob)])) (fun _ kz => XS.aload X768.here hx rfl (hb hby at_256) rfl rfl kz) ?_
   have f771 := ((f760.other W765 (Or.inl (Ne.symm ne_ar_ob))).other W768 (Or.inl (Ne.symm ne_ar_ob)))
   have f772 := ((f753.wr W765).wr W768)
   obtain ⟨cq770, kq770, q770a, q770b, q770c⟩ := isOf hZ e768 f772
   obtain ⟨_, _, ⟨T770, L770, k770, n770⟩, -, X770, ⟨Lc770, hQ770, l770, y770, z770⟩, st770⟩ := X768.virtualBack hx (y := (⟨"gallai/service/ResidualDegrees", "sum", "()J"⟩ : MethodName)) (z := (⟨"gallai/service/ResidualDegrees", "sum", "()J"⟩ : MethodName)) hown (mvT hZ ww55) (mvT hZ ww56) (notFace_of_selects (args := #[]) (mvT hZ ww58)) (mvT hZ ww58) (mvT hZ ww57) (by decide) (backOf (W := 0) (rm7 l Z a0 hw [] ob ((s0 - (1 : Int64)) - (1 : Int64)) h768 n0 (Nat.le_trans Z0 K768.1) f771) hZ ww59 ww6 (by decide) (by decide)) q770a q770c (g := (mkF m 258 (own_Lown_cutB22_0 sl0 sl1 w2 ar sl4 s0 sl7 ob ) [(.ref ob)])) rfl (by rw [hml]; rfl) (Steps.refl _) (argsL := []) (rest := []) (lenOf pd___J rfl) rfl (by show 2 * 0 + _ ≤ _; exact Nat.le_of_eq rfl) (hb hby at_258) (fun _ _ => ⟨rfl, e768, (by decide : 12 + 0 ≤ _), (by decide : 60 + 0 ≤ _)⟩)
   dsimp only [Pt.U, Pt.locs, Pt.cells, Pt.slots] at X770 l770 y770 z770 st770 hQ770
   subst l770 y770 z770
   obtain ⟨rfl, N770q, eh770⟩ := hQ770
   have N770 := Fr.app N768 N770q
   refine own_trans (g' := (mkF m 261 (own_Lown_cutB22_0 sl0 sl1 w2 ar sl4 s0 sl7 ob ) [(.long ((s0 - (1 : Int64)) - (1 : Int64)))])) st770 ?_
   refine own_s (g' := (mkF m 263 (own_Lown_cutB22_0 sl0 sl1 w2 ar sl4 s0 sl7 ob ) [(.long s0), (.long ((s0 - (1 : Int64)) - (1 : Int64)))])) (fun _ kz => XS.lload X770.here hx rfl (hb hby at_261) rfl kz) ?_
   refine own_s (g' := (mkF m 266 (own_Lown_cutB22_0 sl0 sl1 w2 ar sl4 s0 sl7 ob ) [(.long 2), (.long s0), (.long ((s0 - (1 : Int64)) - (1 : Int64)))])) (X770.ldc2Long hx hown (mvT hZ ww2) (g := (mkF m 263 (own_Lown_cutB22_0 sl0 sl1 w2 ar sl4 s0 sl7 ob ) [(.long s0), (.long ((s0 - (1 : Int64)) - (1 : Int64)))])) rfl (hb hby at_263)) ?_
   refine own_s (g' := (mkF m 267 (own_Lown_cutB22_0 sl0 sl1 w2 ar sl4 s0 sl7 ob ) [(.long (s0 - (2 : Int64))), (.long ((s0 - (1 : Int64)) - (1 : Int64)))])) (fun _ kz => XS.lsub X770.here hx rfl (hb hby at_266) rfl kz) ?_
   refine own_s (g' := (mkF m 268 (own_Lown_cutB22_0 sl0 sl1 w2 ar sl4 s0 sl7 ob ) [(.int (lcmpW ((s0 - (1 : Int64)) - (1 : Int64)) (s0 - (2 : Int64))))])) (fun _ kz => XS.lcmp X770.here hx rfl (hb hby at_267) rfl kz) ?_
   refine own_s (g' := (mkF m 271 (own_Lown_cutB22_0 sl0 sl1 w2 ar sl4 s0 sl7 ob ) [])) (fun _ kz => XS.ifNo X770.here hx rfl (hb hby at_268) rfl ((if0 _ _).trans (teq ((lw_eq ((s0 - (1 : Int64)) - (1 : Int64)) (s0 - (2 : Int64))).mpr (own_s2 _))).2) kz) ?_
   refine own_s (g' := (mkF m 273 (own_Lown_cutB22_0 sl0 sl1 w2 ar sl4 s0 sl7 ob ) [(.ref ob)])) (fun _ kz => XS.aload X770.here hx rfl (hb hby at_271) rfl rfl kz) ?_
   have f774 := ((f762.other W765 (Or.inl (Ne.symm ne_ar_ob))).other W768 (Or.inl (Ne.symm ne_ar_ob)))
   obtain ⟨cq773, kq773, q773a, q773b, q773c⟩ := isOf hZ eh770 f772
   obtain ⟨_, _, ⟨T773, L773, k773, n773⟩, -, X773, ⟨Lc773, hQ773, l773, y773, z773⟩, st773⟩ := X770.virtualBack hx (y := (⟨"gallai/service/ResidualDegrees", "largest", "()I"⟩ : MethodName)) (z := (⟨"gallai/service/ResidualDegrees", "largest", "()I"⟩ : MethodName)) hown (mvT hZ ww60) (mvT hZ ww61) (notFace_of_selects (args := #[]) (mvT hZ ww63)) (mvT hZ ww63) (mvT hZ ww62) (by decide) (backOf (W := 0) (rm8 l Z a0 hw [] ob (1 : Int32) h768 n0 (Nat.le_trans Z0 K768.1) f774) hZ ww64 ww6 (by decide) (by decide)) q773a q773c (g := (mkF m 273 (own_Lown_cutB22_0 sl0 sl1 w2 ar sl4 s0 sl7 ob ) [(.ref ob)])) rfl (by rw [hml]; rfl) (Steps.refl _) (argsL := []) (rest := []) (lenOf pd___I rfl) rfl (by show 2 * 0 + _ ≤ _; exact Nat.le_of_eq rfl) (hb hby at_273) (fun _ _ => ⟨rfl, eh770, (by decide : 12 + 0 ≤ _), (by decide : 60 + 0 ≤ _)⟩)
   dsimp only [Pt.U, Pt.locs, Pt.cells, Pt.slots] at X773 l773 y773 z773 st773 hQ773
   subst l773 y773 z773
   obtain ⟨rfl, N773q, eh773⟩ := hQ773
   have N773 := Fr.app N770 N773q
   refine own_trans (g' := (mkF m 276 (own_Lown_cutB22_0 sl0 sl1 w2 ar sl4 s0 sl7 ob ) [(.int 1)])) st773 ?_
   refine own_s (g' := (mkF m 277 (own_Lown_cutB22_0 sl0 sl1 w2 ar sl4 s0 sl7 ob ) [(.ref ar), (.int 1)])) (fun _ kz => XS.aloadN X773.here hx rfl (hb hby at_276) rfl rfl kz) ?_
   obtain ⟨_, _, ⟨T775, L775, k775, n775⟩, -, X775, ⟨Lc775, hQ775, l775, y775, z775⟩, st775⟩ := Jvm.LawKit.callS X773 hx (y := (⟨"gallai/service/ResidualDegreesLowerPinLaw", "top", "([I)I"⟩ : MethodName)) hown (mvT hZ ww65) (mvT hZ ww66) (mvT hZ ww67) (mvT hZ ww68) (by decide) (backOf (W := 1) (rm9 l Z a0 hw [] ar ky y0 (y1 + (1 : Int32)) (y2 - (1 : Int32)) y3 h768 n0 (Nat.le_trans Z0 K768.1) f769) hZ ww68 ww67 (by decide) (by decide)) (g := (mkF m 277 (own_Lown_cutB22_0 sl0 sl1 w2 ar sl4 s0 sl7 ob ) [(.ref ar), (.int 1)])) rfl (by rw [hml]; rfl) (argsL := [(.ref ar)]) (rest := [(.int 1)]) (lenOf pd___I_I rfl) rfl (by show 2 * 0 + _ ≤ _; exact Nat.le_of_eq rfl) (hb hby at_277) (fun _ _ => ⟨rfl, eh773, (by decide : 12 + 0 ≤ _), (by decide : 60 + 0 ≤ _)⟩)
   dsimp only [Pt.U, Pt.locs, Pt.cells, Pt.slots] at X775 l775 y775 z775 st775 hQ775
   subst l775 y775 z775
   obtain ⟨rfl, N775q, eh775⟩ := hQ775
   have N775 := Fr.app N773 N775q
   refine own_s (g' := (mkF m 280 (own_Lown_cutB22_0 sl0 sl1 w2 ar sl4 s0 sl7 ob ) [(.int (r9 (y1 + (1 : Int32)) (y2 - (1 : Int32)) y3)), (.int 1)])) st775 ?_
   rw [show (r9 (y1 + (1 : Int32)) (y2 - (1 : Int32)) y3) = (1 : Int32) from ((if_neg ((own_eqltI (Eq.symm hA8)) : ¬ (0 : Int32) < y3)).trans ((if_neg ((own_eqltI (Eq.symm c749)) : ¬ (0 : Int32) < (y2 - (1 : Int32)))).trans (if_pos (hi747.2.1 : (0 : Int32) < (y1 + (1 : Int32))))))]
   refine own_s (g' := (mkF m 283 (own_Lown_cutB22_0 sl0 sl1 w2 ar sl4 s0 sl7 ob ) [])) (fun _ kz => XS.icmpNo X775.here hx rfl (hb hby at_280) rfl (teq ((by decide) : (1 : Int32) = (1 : Int32))).2 kz) ?_
   refine own_s (g' := (mkF m 284 (own_Lown_cutB22_0 sl0 sl1 w2 ar sl4 s0 sl7 ob ) [(.int 1)])) (fun _ kz => XS.iconst X775.here hx rfl (hb hby at_283) kz) ?_
   refine own_s (g' := (mkF m 288 (own_Lown_cutB22_0 sl0 sl1 w2 ar sl4 s0 sl7 ob ) [(.int 1)])) (fun _ kz => XS.goto X775.here hx rfl (pc0 := 284) (pc' := 288) rfl (hb hby at_284) (by decide) (by decide) kz) ?_
   refine own_retN X775 hx hlk (t := .boolean) hret (by simp) (hb hby at_288) (z' := (1 : Int32)) (by decide) (by decide) (by decide) ?_
   exact ⟨rfl, N775⟩
  ·skip
   obtain ⟨cq776, kq776, q776a, q776b, q776c⟩ := isOf hZ e0 E_ob
   obtain ⟨_, _, ⟨T776, L776, k776, n776⟩, -, X776, ⟨Lc776, hQ776, l776, y776, z776⟩, st776⟩ := X0.virtualBack hx (y := (⟨"gallai/service/ResidualDegrees", "lower", "(I)V"⟩ : MethodName)) (z := (⟨"gallai/service/ResidualDegrees", "lower", "(I)V"⟩ : MethodName)) hown (mvT hZ ww50) (mvT hZ ww51) (notFace_of_selects (args := #[]) (mvT hZ ww53)) (mvT hZ ww53) (mvT hZ ww52) (by decide) (backOf (W := 0) (rm6L2d2 l Z a0 hw [] ob b0_countOf b0_atLeast (s0 - (1 : Int64)) b0_partnersOf b0_saved b0_slack b0_nextTight kc y0 y1 y2 y3 kx na x0 x1 x2 x3 x4 h0 n0 Z0 F_countOf_ob F_atLeast_ob F_sum_ob F_largest_ob F_partnersOf_ob F_saved_ob F_slack_ob F_nextTight_ob E_ob V_b0_countOf V_b0_atLeast g_b0_countOf g_b0_atLeast g_ob ne_ob_b0_countOf ne_b0_atLeast_b0_countOf ne_ob_b0_atLeast (hi747.1 : ¬ (y1 + (1 : Int32)) = (0 : Int32)) hna) hZ ww54 ww6 (by decide) (by decide)) q776a q776c (g := (mkF m 224 (own_Lown_cutB22_0 sl0 sl1 w2 ar sl4 s0 sl7 ob ) [(.int 2), (.ref ob)])) rfl (by rw [hml]; rfl) (Steps.refl _) (argsL := [(.int 2)]) (rest := []) (lenOf pd__I_V rfl) rfl (by show 2 * 0 + _ ≤ _; exact Nat.le_of_eq rfl) (hb hby at_224) (fun _ _ => ⟨rfl, e0, (by decide : 12 + 0 ≤ _), (by decide : 60 + 0 ≤ _)⟩)
   dsimp only [Pt.U, Pt.locs, Pt.cells, Pt.slots] at X776 l776 y776 z776 st776 hQ776
   subst l776 y776 z776
   obtain ⟨rfl, N776q, K776q, f777, f778, f779, f780, f781, f782, f783, f784, f785, f786, f787⟩ := hQ776
   have f788 : Fld Z T776.heap ob "gallai/service/ResidualDegrees" "largest" "I" (.int 2) := (show (w6L2d2_largest y2) = (2 : Int32) from (if_neg c749)) ▸ f787
   have K776 := K0.trans K776q (allS (Or.inl (List.mem_of_getElem? (i := 0) rfl)) (allS (Or.inl (List.mem_of_getElem? (i := 1) rfl)) (allS (Or.inl (List.mem_of_getElem? (i := 2) rfl)) all0)))
   have N776 := Fr.app N0 N776q
   refine own_trans (g' := (mkF m 227 (own_Lown_cutB22_0 sl0 sl1 w2 ar sl4 s0 sl7 ob ) [])) st776 ?_
   refine own_s (g' := (mkF m 228 (own_Lown_cutB22_0 sl0 sl1 w2 ar sl4 s0 sl7 ob ) [(.ref ar)])) (fun _ kz => XS.aloadN X776.here hx rfl (hb hby at_227) rfl rfl kz) ?_
   refine own_s (g' := (mkF m 230 (own_Lown_cutB22_0 sl0 sl1 w2 ar sl4 s0 sl7 ob ) [(.int 2), (.ref ar)])) (fun _ kz => XS.iload X776.here hx rfl (hb hby at_228) rfl kz) ?_
   refine own_s (g' := (mkF m 231 (own_Lown_cutB22_0 sl0 sl1 w2 ar sl4 s0 sl7 ob ) [(.ref ar), (.int 2), (.ref ar)])) (fun _ kz => XS.aloadN X776.here hx rfl (hb hby at_230) rfl rfl kz) ?_
   refine own_s (g' := (mkF m 233 (own_Lown_cutB22_0 sl0 sl1 w2 ar sl4 s0 sl7 ob ) [(.int 2), (.ref ar), (.int 2), (.ref ar)])) (fun _ kz => XS.iload X776.here hx rfl (hb hby at_231) rfl kz) ?_
   have f789 := (V_ar.keep K776q (ninS ne_ar_b0_countOf (ninS ne_ar_b0_atLeast (ninS ne_ar_ob nin0))))
   obtain ⟨cl790, Ar790, -, S790, -, H790, -⟩ := id f789
   have in790 := inb_of S790 (j := (2 : Int32)) ⟨by decide, by decide⟩
   refine own_s (g' := (mkF m 234 (own_Lown_cutB22_0 sl0 sl1 w2 ar sl4 s0 sl7 ob ) [(.int y2), (.int 2), (.ref ar)])) (X776.iaload hx (j := (2 : Int32)) (v := (.int y2)) Ar790.1 (State.isArrayOf_alike hZ.alike Ar790.2.1) Ar790.2.2 in790 (Has.at H790 in790 rfl) (g := (mkF m 233 (own_Lown_cutB22_0 sl0 sl1 w2 ar sl4 s0 sl7 ob ) [(.int 2), (.ref ar), (.int 2), (.ref ar)])) rfl rfl (hb hby at_233)) ?_
   refine own_s (g' := (mkF m 235 (own_Lown_cutB22_0 sl0 sl1 w2 ar sl4 s0 sl7 ob ) [(.int 1), (.int y2), (.int 2), (.ref ar)])) (fun _ kz => XS.iconst X776.here hx rfl (hb hby at_234) kz) ?_
   refine own_s (g' := (mkF m 236 (own_Lown_cutB22_0 sl0 sl1 w2 ar sl4 s0 sl7 ob ) [(.int (y2 - (1 : Int32))), (.int 2), (.ref ar)])) (fun _ kz => XS.isub X776.here hx rfl (hb hby at_235) rfl kz) ?_
   obtain ⟨cl791, Ar791, q791, S791, M791, H791, G791⟩ := id f789
   obtain ⟨T791, h791, X791, e791, W791, st791⟩ := stI X776 hx hZ rfl Ar791 (j := (2 : Int32)) (inb_of S791 ⟨by decide, by decide⟩) (g := (mkF m 236 (own_Lown_cutB22_0 sl0 sl1 w2 ar sl4 s0 sl7 ob ) [(.int (y2 - (1 : Int32))), (.int 2), (.ref ar)])) rfl rfl (hb hby at_236)
   have f792 : Arv Z h791 ar ky .int (4 : Int32) [(.int y0), (.int y1), (.int (y2 - (1 : Int32))), (.int y3)] (.int (0 : Int32)) := Arv.set Ar791 q791 S791 M791 H791 G791 rfl W791 2 rfl (Nat.le_of_ble_eq_true rfl)
   have K791 := K776.wr W791 (Or.inl (List.mem_of_getElem? (i := 3) rfl))
   have N791 := Fr.snoc X791 N776 g_ar
   refine own_s (g' := (mkF m 237 (own_Lown_cutB22_0 sl0 sl1 w2 ar sl4 s0 sl7 ob ) [])) st791 ?_
   refine own_s (g' := (mkF m 238 (own_Lown_cutB22_0 sl0 sl1 w2 ar sl4 s0 sl7 ob ) [(.ref ar)])) (fun _ kz => XS.aloadN X791.here hx rfl (hb hby at_237) rfl rfl kz) ?_
   refine own_s (g' := (mkF m 240 (own_Lown_cutB22_0 sl0 sl1 w2 ar sl4 s0 sl7 ob ) [(.int 2), (.ref ar)])) (fun _ kz => XS.iload X791.here hx rfl (hb hby at_238) rfl kz) ?_
   refine own_s (g' := (mkF m 241 (own_Lown_cutB22_0 sl0 sl1 w2 ar sl4 s0 sl7 ob ) [(.int 1), (.int 2), (.ref ar)])) (fun _ kz => XS.iconst X791.here hx rfl (hb hby at_240) kz) ?_
   refine own_s (g' := (mkF m 242 (own_Lown_cutB22_0 sl0 sl1 w2 ar sl4 s0 sl7 ob ) [(.int ((2 : Int32) - (1 : Int32))), (.ref ar)])) (fun _ kz => XS.isub X791.here hx rfl (hb hby at_241) rfl kz) ?_
   rw [show ((2 : Int32) - (1 : Int32)) = (1 : Int32) from by decide]
   refine own_s (g' := (mkF m 243 (own_Lown_cutB22_0 sl0 sl1 w2 ar sl4 s0 sl7 ob ) [(.ref ar), (.int 1), (.ref ar)])) (fun _ kz => XS.aloadN X791.here hx rfl (hb hby at_242) rfl rfl kz) ?_
   refine own_s (g' := (mkF m 245 (own_Lown_cutB22_0 sl0 sl1 w2 ar sl4 s0 sl7 ob ) [(.int 2), (.ref ar), (.int 1), (.ref ar)])) (fun _ kz => XS.iload X791.here hx rfl (hb hby at_243) rfl kz) ?_
   refine own_s (g' := (mkF m 246 (own_Lown_cutB22_0 sl0 sl1 w2 ar sl4 s0 sl7 ob ) [(.int 1), (.int 2), (.ref ar), (.int 1), (.ref ar)])) (fun _ kz => XS.iconst X791.here hx rfl (hb hby at_245) kz) ?_
   refine own_s (g' := (mkF m 247 (own_Lown_cutB22_0 sl0 sl1 w2 ar sl4 s0 sl7 ob ) [(.int ((2 : Int32) - (1 : Int32))), (.ref ar), (.int 1), (.ref ar)])) (fun _ kz => XS.isub X791.here hx rfl (hb hby at_246) rfl kz) ?_
   rw [show ((2 : Int32) - (1 : Int32)) = (1 : Int32) from by decide]
   obtain ⟨cl793, Ar793, -, S793, -, H793, -⟩ := id f792
   have in793 := inb_of S793 (j := (1 : Int32)) ⟨by decide, by decide⟩
   refine own_s (g' := (mkF m 248 (own_Lown_cutB22_0 sl0 sl1 w2 ar sl4 s0 sl7 ob ) [(.int y1), (.int 1), (.ref ar)])) (X791.iaload hx (j := (1 : Int32)) (v := (.int y1)) (by rw [e791]; exact Ar793.1) (State.isArrayOf_alike hZ.alike Ar793.2.1) Ar793.2.2 in793 (Has.at H793 in793 rfl) (g := (mkF m 247 (own_Lown_cutB22_0 sl0 sl1 w2 ar sl4 s0 sl7 ob ) [(.int 1), (.ref ar), (.int 1), (.ref ar)])) rfl rfl (hb hby at_247)) ?_
   refine own_s (g' := (mkF m 249 (own_Lown_cutB22_0 sl0 sl1 w2 ar sl4 s0 sl7 ob ) [(.int 1), (.int y1), (.int 1), (.ref ar)])) (fun _ kz => XS.iconst X791.here hx rfl (hb hby at_248) kz) ?_
   refine own_s (g' := (mkF m 250 (own_Lown_cutB22_0 sl0 sl1 w2 ar sl4 s0 sl7 ob ) [(.int (y1 + (1 : Int32))), (.int 1), (.ref ar)])) (fun _ kz => XS.iadd X791.here hx rfl (hb hby at_249) rfl kz) ?_
   obtain ⟨cl794, Ar794, q794, S794, M794, H794, G794⟩ := id f792
   obtain ⟨T794, h794, X794, e794, W794, st794⟩ := stI X791 hx hZ e791 Ar794 (j := (1 : Int32)) (inb_of S794 ⟨by decide, by decide⟩) (g := (mkF m 250 (own_Lown_cutB22_0 sl0 sl1 w2 ar sl4 s0 sl7 ob ) [(.int (y1 + (1 : Int32))), (.int 1), (.ref ar)])) rfl rfl (hb hby at_250)
   have f795 : Arv Z h794 ar ky .int (4 : Int32) [(.int y0), (.int (y1 + (1 : Int32))), (.int (y2 - (1 : Int32))), (.int y3)] (.int (0 : Int32)) := Arv.set Ar794 q794 S794 M794 H794 G794 rfl W794 1 rfl (Nat.le_of_ble_eq_true rfl)
   have K794 := K791.wr W794 (Or.inl (List.mem_of_getElem? (i := 3) rfl))
   have N794 := Fr.snoc X794 N791 g_ar
   refine own_s (g' := (mkF m 251 (own_Lown_cutB22_0 sl0 sl1 w2 ar sl4 s0 sl7 ob ) [])) st794 ?_
   refine own_s (g' := (mkF m 253 (own_Lown_cutB22_0 sl0 sl1 w2 ar sl4 s0 sl7 ob ) [(.int 1)])) (fun _ kz => XS.iload X794.here hx rfl (hb hby at_251) rfl kz) ?_
   refine own_s (g' := (mkF m 256 (own_Lown_cutB22_0 sl0 sl1 w2 ar sl4 s0 sl7 ob ) [])) (fun _ kz => XS.ifNo X794.here hx rfl (hb hby at_253) rfl ((if0 _ _).trans (feq ((by decide) : ¬ (1 : Int32) = (0 : Int32))).1) kz) ?_
   refine own_s (g' := (mkF m 258 (own_Lown_cutB22_0 sl0 sl1 w2 ar sl4 s0 sl7 ob ) [(.ref ob)])) (fun _ kz => XS.aload X794.here hx rfl (hb hby at_256) rfl rfl kz) ?_
   have f797 := ((f786.other W791 (Or.inl (Ne.symm ne_ar_ob))).other W794 (Or.inl (Ne.symm ne_ar_ob)))
   have f798 := ((f779.wr W791).wr W794)
   obtain ⟨cq796, kq796, q796a, q796b, q796c⟩ := isOf hZ e794 f798
   obtain ⟨_, _, ⟨T796, L796, k796, n796⟩, -, X796, ⟨Lc796, hQ796, l796, y796, z796⟩, st796⟩ := X794.virtualBack hx (y := (⟨"gallai/service/ResidualDegrees", "sum", "()J"⟩ : MethodName)) (z := (⟨"gallai/service/ResidualDegrees", "sum", "()J"⟩ : MethodName)) hown (mvT hZ ww55) (mvT hZ ww56) (notFace_of_selects (args := #[]) (mvT hZ ww58)) (mvT hZ ww58) (mvT hZ ww57) (by decide) (backOf (W := 0) (rm7 l Z a0 hw [] ob ((s0 - (1 : Int64)) - (1 : Int64)) h794 n0 (Nat.le_trans Z0 K794.1) f797) hZ ww59 ww6 (by decide) (by decide)) q796a q796c (g := (mkF m 258 (own_Lown_cutB22_0 sl0 sl1 w2 ar sl4 s0 sl7 ob ) [(.ref ob)])) rfl (by rw [hml]; rfl) (Steps.refl _) (argsL := []) (rest := []) (lenOf pd___J rfl) rfl (by show 2 * 0 + _ ≤ _; exact Nat.le_of_eq rfl) (hb hby at_258) (fun _ _ => ⟨rfl, e794, (by decide : 12 + 0 ≤ _), (by decide : 60 + 0 ≤ _)⟩)
   dsimp only [Pt.U, Pt.locs, Pt.cells, Pt.slots] at X796 l796 y796 z796 st796 hQ796
   subst l796 y796 z796
   obtain ⟨rfl, N796q, eh796⟩ := hQ796
   have N796 := Fr.app N794 N796q
   refine own_trans (g' := (mkF m 261 (own_Lown_cutB22_0 sl0 sl1 w2 ar sl4 s0 sl7 ob ) [(.long ((s0 - (1 : Int64)) - (1 : Int64)))])) st796 ?_
   refine own_s (g' := (mkF m 263 (own_Lown_cutB22_0 sl0 sl1 w2 ar sl4 s0 sl7 ob ) [(.long s0), (.long ((s0 - (1 : Int64)) - (1 : Int64)))])) (fun _ kz => XS.lload X796.here hx rfl (hb hby at_261) rfl kz) ?_
   refine own_s (g' := (mkF m 266 (own_Lown_cutB22_0 sl0 sl1 w2 ar sl4 s0 sl7 ob ) [(.long 2), (.long s0), (.long ((s0 - (1 : Int64)) - (1 : Int64)))])) (X796.ldc2Long hx hown (mvT hZ ww2) (g := (mkF m 263 (own_Lown_cutB22_0 sl0 sl1 w2 ar sl4 s0 sl7 ob ) [(.long s0), (.long ((s0 - (1 : Int64)) - (1 : Int64)))])) rfl (hb hby at_263)) ?_
   refine own_s (g' := (mkF m 267 (own_Lown_cutB22_0 sl0 sl1 w2 ar sl4 s0 sl7 ob ) [(.long (s0 - (2 : Int64))), (.long ((s0 - (1 : Int64)) - (1 : Int64)))])) (fun _ kz => XS.lsub X796.here hx rfl (hb hby at_266) rfl kz) ?_
   refine own_s (g' := (mkF m 268 (own_Lown_cutB22_0 sl0 sl1 w2 ar sl4 s0 sl7 ob ) [(.int (lcmpW ((s0 - (1 : Int64)) - (1 : Int64)) (s0 - (2 : Int64))))])) (fun _ kz => XS.lcmp X796.here hx rfl (hb hby at_267) rfl kz) ?_
   refine own_s (g' := (mkF m 271 (own_Lown_cutB22_0 sl0 sl1 w2 ar sl4 s0 sl7 ob ) [])) (fun _ kz => XS.ifNo X796.here hx rfl (hb hby at_268) rfl ((if0 _ _).trans (teq ((lw_eq ((s0 - (1 : Int64)) - (1 : Int64)) (s0 - (2 : Int64))).mpr (own_s2 _))).2) kz) ?_
   refine own_s (g' := (mkF m 273 (own_Lown_cutB22_0 sl0 sl1 w2 ar sl4 s0 sl7 ob ) [(.ref ob)])) (fun _ kz => XS.aload X796.here hx rfl (hb hby at_271) rfl rfl kz) ?_
   have f800 := ((f788.other W791 (Or.inl (Ne.symm ne_ar_ob))).other W794 (Or.inl (Ne.symm ne_ar_ob)))
   obtain ⟨cq799, kq799, q799a, q799b, q799c⟩ := isOf hZ eh796 f798
   obtain ⟨_, _, ⟨T799, L799, k799, n799⟩, -, X799, ⟨Lc799, hQ799, l799, y799, z799⟩, st799⟩ := X796.virtualBack hx (y := (⟨"gallai/service/ResidualDegrees", "largest", "()I"⟩ : MethodName)) (z := (⟨"gallai/service/ResidualDegrees", "largest", "()I"⟩ : MethodName)) hown (mvT hZ ww60) (mvT hZ ww61) (notFace_of_selects (args := #[]) (mvT hZ ww63)) (mvT hZ ww63) (mvT hZ ww62) (by decide) (backOf (W := 0) (rm8 l Z a0 hw [] ob (2 : Int32) h794 n0 (Nat.le_trans Z0 K794.1) f800) hZ ww64 ww6 (by decide) (by decide)) q799a q799c (g := (mkF m 273 (own_Lown_cutB22_0 sl0 sl1 w2 ar sl4 s0 sl7 ob ) [(.ref ob)])) rfl (by rw [hml]; rfl) (Steps.refl _) (argsL := []) (rest := []) (lenOf pd___I rfl) rfl (by show 2 * 0 + _ ≤ _; exact Nat.le_of_eq rfl) (hb hby at_273) (fun _ _ => ⟨rfl, eh796, (by decide : 12 + 0 ≤ _), (by decide : 60 + 0 ≤ _)⟩)
   dsimp only [Pt.U, Pt.locs, Pt.cells, Pt.slots] at X799 l799 y799 z799 st799 hQ799
   subst l799 y799 z799
   obtain ⟨rfl, N799q, eh799⟩ := hQ799
   have N799 := Fr.app N796 N799q
   refine own_trans (g' := (mkF m 276 (own_Lown_cutB22_0 sl0 sl1 w2 ar sl4 s0 sl7 ob ) [(.int 2)])) st799 ?_
   refine own_s (g' := (mkF m 277 (own_Lown_cutB22_0 sl0 sl1 w2 ar sl4 s0 sl7 ob ) [(.ref ar), (.int 2)])) (fun _ kz => XS.aloadN X799.here hx rfl (hb hby at_276) rfl rfl kz) ?_
   obtain ⟨_, _, ⟨T801, L801, k801, n801⟩, -, X801, ⟨Lc801, hQ801, l801, y801, z801⟩, st801⟩ := Jvm.LawKit.callS X799 hx (y := (⟨"gallai/service/ResidualDegreesLowerPinLaw", "top", "([I)I"⟩ : MethodName)) hown (mvT hZ ww65) (mvT hZ ww66) (mvT hZ ww67) (mvT hZ ww68) (by decide) (backOf (W := 1) (rm9 l Z a0 hw [] ar ky y0 (y1 + (1 : Int32)) (y2 - (1 : Int32)) y3 h794 n0 (Nat.le_trans Z0 K794.1) f795) hZ ww68 ww67 (by decide) (by decide)) (g := (mkF m 277 (own_Lown_cutB22_0 sl0 sl1 w2 ar sl4 s0 sl7 ob ) [(.ref ar), (.int 2)])) rfl (by rw [hml]; rfl) (argsL := [(.ref ar)]) (rest := [(.int 2)]) (lenOf pd___I_I rfl) rfl (by show 2 * 0 + _ ≤ _; exact Nat.le_of_eq rfl) (hb hby at_277) (fun _ _ => ⟨rfl, eh799, (by decide : 12 + 0 ≤ _), (by decide : 60 + 0 ≤ _)⟩)
   dsimp only [Pt.U, Pt.locs, Pt.cells, Pt.slots] at X801 l801 y801 z801 st801 hQ801
   subst l801 y801 z801
   obtain ⟨rfl, N801q, eh801⟩ := hQ801
   have N801 := Fr.app N799 N801q
   refine own_s (g' := (mkF m 280 (own_Lown_cutB22_0 sl0 sl1 w2 ar sl4 s0 sl7 ob ) [(.int (r9 (y1 + (1 : Int32)) (y2 - (1 : Int32)) y3)), (.int 2)])) st801 ?_
   rw [show (r9 (y1 + (1 : Int32)) (y2 - (1 : Int32)) y3) = (2 : Int32) from ((if_neg ((own_eqltI (Eq.symm hA8)) : ¬ (0 : Int32) < y3)).trans (if_pos ((own_triI (fun q => c749 q.symm) hd748) : (0 : Int32) < (y2 - (1 : Int32)))))]
   refine own_s (g' := (mkF m 283 (own_Lown_cutB22_0 sl0 sl1 w2 ar sl4 s0 sl7 ob ) [])) (fun _ kz => XS.icmpNo X801.here hx rfl (hb hby at_280) rfl (teq ((by decide) : (2 : Int32) = (2 : Int32))).2 kz) ?_
   refine own_s (g' := (mkF m 284 (own_Lown_cutB22_0 sl0 sl1 w2 ar sl4 s0 sl7 ob ) [(.int 1)])) (fun _ kz => XS.iconst X801.here hx rfl (hb hby at_283) kz) ?_
   refine own_s (g' := (mkF m 288 (own_Lown_cutB22_0 sl0 sl1 w2 ar sl4 s0 sl7 ob ) [(.int 1)])) (fun _ kz => XS.goto X801.here hx rfl (pc0 := 284) (pc' := 288) rfl (hb hby at_284) (by decide) (by decide) kz) ?_
   refine own_retN X801 hx hlk (t := .boolean) hret (by simp) (hb hby at_288) (z' := (1 : Int32)) (by decide) (by decide) (by decide) ?_
   exact ⟨rfl, N801⟩
abbrev own_Lown_cutB31_0 (sl0 : Slot) (sl1 : Slot) (w2 : Int32) (ar : Addr) (sl4 : Slot) (s0 : Int64) (sl7 : Slot) (ob : Addr)  : Array Slot := #[sl0, sl1, .val (.int w2), .val (.ref ar), sl4, .val (.long s0), .second, sl7, .val (.ref ob), .val (.int 1), .val (.int 1)]
set_option maxRecDepth 65536 in
set_option maxHeartbeats 40000000 in
theorem own_cutB31 (l : Launch) (Z : State) (a0 : Array Value) (hw : ∀ d ∈ tables_1, d.before a0 Z = true) (sl0 : Slot) (sl1 : Slot) (w2 : Int32) (ar : Addr) (sl4 : Slot) (s0 : Int64) (sl7 : Slot) (ob : Addr) (b0_countOf : Addr) (b0_atLeast : Addr) (b0_partnersOf : Addr) (b0_saved : Addr) (b0_slack : Addr) (b0_nextTight : Addr) (kc : ClassId) (y0 : Int32) (y1 : Int32) (y2 : Int32) (y3 : Int32) (kx : ClassId) (na : Int32) (x0 : Int32) (x1 : Int32) (x2 : Int32) (x3 : Int32) (x4 : Int32) (ky : ClassId) {p : Program} {e : Env} {s : State} {m : MethodId} {args : Array Value} {below : List Frame} {meth : Method} {c : Code} {s₁ : State} {locs : List Loc}
    (X0 : Stand p l e room_1 s m args below meth c s₁ locs 12 60) (hx : p.tables.exec = Jvm.exec) (hZ : Z.Warmed39 s.vm) (hby : c.code = code) (hml : c.maxLocals = 11) (hown : s.vm.findClass "gallai/service/ResidualDegreesLowerPinLaw" = some m.cls) (hlk : meth.locks = false) (hret : meth.sig.returnType = some .boolean) (h0 : Heap) (n0 : Nat) (e0 : s₁.heap = h0) (Z0 : n0 ≤ h0.size) (N0 : Fr n0 locs) (F_countOf_ob : Fld Z h0 ob "gallai/service/ResidualDegrees" "countOf" "[I" (.ref b0_countOf)) (F_atLeast_ob : Fld Z h0 ob "gallai/service/ResidualDegrees" "atLeast" "[I" (.ref b0_atLeast)) (F_sum_ob : Fld Z h0 ob "gallai/service/ResidualDegrees" "sum" "J" (.long (s0 - (1 : Int64)))) (F_largest_ob : Fld Z h0 ob "gallai/service/ResidualDegrees" "largest" "I" (.int 3)) (F_partnersOf_ob : Fld Z h0 ob "gallai/service/ResidualDegrees" "partnersOf" "[I" (.ref b0_partnersOf)) (F_saved_ob : Fld Z h0 ob "gallai/service/ResidualDegrees" "saved" "[I" (.ref b0_saved)) (F_slack_ob : Fld Z h0 ob "gallai/service/ResidualDegrees" "slack" "[J" (.ref b0_slack)) (F_nextTight_ob : Fld Z h0 ob "gallai/service/ResidualDegrees" "nextTight" "[I" (.ref b0_nextTight)) (E_ob : Exa Z h0 ob "gallai/service/ResidualDegrees") (V_b0_countOf : Arv Z h0 b0_countOf kc .int (4 : Int32) [(.int y0), (.int y1), (.int y2), (.int y3)] (.int (0 : Int32))) (V_b0_atLeast : Arv Z h0 b0_atLeast kx .int na [(.int x0), (.int x1), (.int x2), (.int x3), (.int x4)] (.int (0 : Int32))) (V_ar : Arv Z h0 ar ky .int (4 : Int32) [(.int y0), (.int y1), (.int y2), (.int y3)] (.int (0 : Int32))) (g_b0_countOf : n0 ≤ b0_countOf) (g_b0_atLeast : n0 ≤ b0_atLeast) (g_ob : n0 ≤ ob) (g_ar : n0 ≤ ar) (ne_ob_b0_countOf : ob ≠ b0_countOf) (ne_b0_atLeast_b0_countOf : b0_atLeast ≠ b0_countOf) (ne_ob_b0_atLeast : ob ≠ b0_atLeast) (ne_ar_b0_countOf : ar ≠ b0_countOf) (ne_ar_b0_atLeast : ar ≠ b0_atLeast) (ne_ar_ob : ar ≠ ob) (hA0 : ¬ y0 < (0 : Int32)) (hA1 : ¬ y1 < (0 : Int32)) (hA2 : ¬ y2 < (0 : Int32)) (hA3 : ¬ y3 < (0 : Int32)) (hA4 : ¬ (20 : Int32) < y0) (hA5 : ¬ (20 : Int32) < y1) (hA6 : ¬ (20 : Int32) < y2) (hA7 : ¬ (20 : Int32) < y3) (hA8 : ¬ y3 = (0 : Int32)) (hna : (1 : Int32) < na) :
    own_G p e below s (fun v h L => v = some (.int (1 : Int32)) ∧ Fr n0 L) 32 192 s₁ (mkF m 212 #[sl0, sl1, .val (.int w2), .val (.ref ar), sl4, .val (.long s0), .second, sl7, .val (.ref ob), .val (.int 1), .val (.int 1)] []) := by
  have K0 : Keep h0 h0 [b0_countOf, b0_atLeast, ob, ar] := Keep.refl _ _
  have ww2 := hw _ (List.mem_of_getElem? (i := 2) rfl)
  have ww6 := hw _ (List.mem_of_getElem? (i := 6) rfl)
  have ww50 := hw _ (List.mem_of_getElem? (i := 50) rfl)
  have ww51 := hw _ (List.mem_of_getElem? (i := 51) rfl)
  have ww52 := hw _ (List.mem_of_getElem? (i := 52) rfl)
  have ww53 := hw _ (List.mem_of_getElem? (i := 53) rfl)
  have ww54 := hw _ (List.mem_of_getElem? (i := 54) rfl)
  have ww55 := hw _ (List.mem_of_getElem? (i := 55) rfl)
  have ww56 := hw _ (List.mem_of_getElem? (i := 56) rfl)
  have ww57 := hw _ (List.mem_of_getElem? (i := 57) rfl)
  have ww58 := hw _ (List.mem_of_getElem? (i := 58) rfl)
  have ww59 := hw _ (List.mem_of_getElem? (i := 59) rfl)
  have ww60 := hw _ (List.mem_of_getElem? (i := 60) rfl)
  have ww61 := hw _ (List.mem_of_getElem? (i := 61) rfl)
  have ww62 := hw _ (List.mem_of_getElem? (i := 62) rfl)
  have ww63 := hw _ (List.mem_of_getElem? (i := 63) rfl)
  have ww64 := hw _ (List.mem_of_getElem? (i := 64) rfl)
  have ww65 := hw _ (List.mem_of_getElem? (i := 65) rfl)
  have ww66 := hw _ (List.mem_of_getElem? (i := 66) rfl)
  have ww67 := hw _ (List.mem_of_getElem? (i := 67) rfl)
  have ww68 := hw _ (List.mem_of_getElem? (i := 68) rfl)
  show own_G p e below s _ _ _ s₁ (mkF m _ (own_Lown_cutB31_0 sl0 sl1 w2 ar sl4 s0 sl7 ob ) _)
  refine own_s (g' := (mkF m 214 (own_Lown_cutB31_0 sl0 sl1 w2 ar sl4 s0 sl7 ob ) [(.int 1)])) (fun _ kz => XS.iload X0.here hx rfl (hb hby at_212) rfl kz) ?_
  refine own_s (g' := (mkF m 220 (own_Lown_cutB31_0 sl0 sl1 w2 ar sl4 s0 sl7 ob ) [])) (fun _ kz => XS.ifYes X0.here hx rfl (pc0 := 214) (pc' := 220) rfl (hb hby at_214) rfl ((if0 _ _).trans (feq ((by decide) : ¬ (1 : Int32) = (0 : Int32))).2) (by decide) (by decide) kz) ?_
  refine own_s (g' := (mkF m 222 (own_Lown_cutB31_0 sl0 sl1 w2 ar sl4 s0 sl7 ob ) [(.ref ob)])) (fun _ kz => XS.aload X0.here hx rfl (hb hby at_220) rfl rfl kz) ?_
  refine own_s (g' := (mkF m 224 (own_Lown_cutB31_0 sl0 sl1 w2 ar sl4 s0 sl7 ob ) [(.int 1), (.ref ob)])) (fun _ kz => XS.iload X0.here hx rfl (hb hby at_222) rfl kz) ?_
  have hi802 := own_inc (c := y0) hA0 hA4
  obtain ⟨cq803, kq803, q803a, q803b, q803c⟩ := isOf hZ e0 E_ob
  obtain ⟨_, _, ⟨T803, L803, k803, n803⟩, -, X803, ⟨Lc803, hQ803, l803, y803, z803⟩, st803⟩ := X0.virtualBack hx (y := (⟨"gallai/service/ResidualDegrees", "lower", "(I)V"⟩ : MethodName)) (z := (⟨"gallai/service/ResidualDegrees", "lower", "(I)V"⟩ : MethodName)) hown (mvT hZ ww50) (mvT hZ ww51) (notFace_of_selects (args := #[]) (mvT hZ ww53)) (mvT hZ ww53) (mvT hZ ww52) (by decide) (backOf (W := 0) (rm6L3d1 l Z a0 hw [] ob b0_countOf b0_atLeast (s0 - (1 : Int64)) b0_partnersOf b0_saved b0_slack b0_nextTight kc y0 y1 y2 y3 kx na x0 x1 x2 x3 x4 h0 n0 Z0 F_countOf_ob F_atLeast_ob F_sum_ob F_largest_ob F_partnersOf_ob F_saved_ob F_slack_ob F_nextTight_ob E_ob V_b0_countOf V_b0_atLeast g_b0_countOf g_b0_atLeast g_ob ne_ob_b0_countOf ne_b0_atLeast_b0_countOf ne_ob_b0_atLeast hA8 hna) hZ ww54 ww6 (by decide) (by decide)) q803a q803c (g := (mkF m 224 (own_Lown_cutB31_0 sl0 sl1 w2 ar sl4 s0 sl7 ob ) [(.int 1), (.ref ob)])) rfl (by rw [hml]; rfl) (Steps.refl _) (argsL := [(.int 1)]) (rest := []) (lenOf pd__I_V rfl) rfl (by show 2 * 0 + _ ≤ _; exact Nat.le_of_eq rfl) (hb hby at_224) (fun _ _ => ⟨rfl, e0, (by decide : 12 + 0 ≤ _), (by decide : 60 + 0 ≤ _)⟩)
  dsimp only [Pt.U, Pt.locs, Pt.cells, Pt.slots] at X803 l803 y803 z803 st803 hQ803
  subst l803 y803 z803
  obtain ⟨rfl, N803q, K803q, f804, f805, f806, f807, f808, f809, f810, f811, f812, f813, f814⟩ := hQ803
  have K803 := K0.trans K803q (allS (Or.inl (List.mem_of_getElem? (i := 0) rfl)) (allS (Or.inl (List.mem_of_getElem? (i := 1) rfl)) (allS (Or.inl (List.mem_of_getElem? (i := 2) rfl)) all0)))
  have N803 := Fr.app N0 N803q
  refine own_trans (g' := (mkF m 227 (own_Lown_cutB31_0 sl0 sl1 w2 ar sl4 s0 sl7 ob ) [])) st803 ?_
  refine own_s (g' := (mkF m 228 (own_Lown_cutB31_0 sl0 sl1 w2 ar sl4 s0 sl7 ob ) [(.ref ar)])) (fun _ kz => XS.aloadN X803.here hx rfl (hb hby at_227) rfl rfl kz) ?_
  refine own_s (g' := (mkF m 230 (own_Lown_cutB31_0 sl0 sl1 w2 ar sl4 s0 sl7 ob ) [(.int 1), (.ref ar)])) (fun _ kz => XS.iload X803.here hx rfl (hb hby at_228) rfl kz) ?_
  refine own_s (g' := (mkF m 231 (own_Lown_cutB31_0 sl0 sl1 w2 ar sl4 s0 sl7 ob ) [(.ref ar), (.int 1), (.ref ar)])) (fun _ kz => XS.aloadN X803.here hx rfl (hb hby at_230) rfl rfl kz) ?_
  refine own_s (g' := (mkF m 233 (own_Lown_cutB31_0 sl0 sl1 w2 ar sl4 s0 sl7 ob ) [(.int 1), (.ref ar), (.int 1), (.ref ar)])) (fun _ kz => XS.iload X803.here hx rfl (hb hby at_231) rfl kz) ?_
  have f815 := (V_ar.keep K803q (ninS ne_ar_b0_countOf (ninS ne_ar_b0_atLeast (ninS ne_ar_ob nin0))))
  obtain ⟨cl816, Ar816, -, S816, -, H816, -⟩ := id f815
  have in816 := inb_of S816 (j := (1 : Int32)) ⟨by decide, by decide⟩
  refine own_s (g' := (mkF m 234 (own_Lown_cutB31_0 sl0 sl1 w2 ar sl4 s0 sl7 ob ) [(.int y1), (.int 1), (.ref ar)])) (X803.iaload hx (j := (1 : Int32)) (v := (.int y1)) Ar816.1 (State.isArrayOf_alike hZ.alike Ar816.2.1) Ar816.2.2 in816 (Has.at H816 in816 rfl) (g := (mkF m 233 (own_Lown_cutB31_0 sl0 sl1 w2 ar sl4 s0 sl7 ob ) [(.int 1), (.ref ar), (.int 1), (.ref ar)])) rfl rfl (hb hby at_233)) ?_
  refine own_s (g' := (mkF m 235 (own_Lown_cutB31_0 sl0 sl1 w2 ar sl4 s0 sl7 ob ) [(.int 1), (.int y1), (.int 1), (.ref ar)])) (fun _ kz => XS.iconst X803.here hx rfl (hb hby at_234) kz) ?_
  refine own_s (g' := (mkF m 236 (own_Lown_cutB31_0 sl0 sl1 w2 ar sl4 s0 sl7 ob ) [(.int (y1 - (1 : Int32))), (.int 1), (.ref ar)])) (fun _ kz => XS.isub X803.here hx rfl (hb hby at_235) rfl kz) ?_
  obtain ⟨cl817, Ar817, q817, S817, M817, H817, G817⟩ := id f815
  obtain ⟨T817, h817, X817, e817, W817, st817⟩ := stI X803 hx hZ rfl Ar817 (j := (1 : Int32)) (inb_of S817 ⟨by decide, by decide⟩) (g := (mkF m 236 (own_Lown_cutB31_0 sl0 sl1 w2 ar sl4 s0 sl7 ob ) [(.int (y1 - (1 : Int32))), (.int 1), (.ref ar)])) rfl rfl (hb hby at_236)
  have f818 : Arv Z h817 ar ky .int (4 : Int32) [(.int y0), (.int (y1 - (1 : Int32))), (.int y2), (.int y3)] (.int (0 : Int32)) := Arv.set Ar817 q817 S817 M817 H817 G817 rfl W817 1 rfl (Nat.le_of_ble_eq_true rfl)
  have K817 := K803.wr W817 (Or.inl (List.mem_of_getElem? (i := 3) rfl))
  have N817 := Fr.snoc X817 N803 g_ar
  refine own_s (g' := (mkF m 237 (own_Lown_cutB31_0 sl0 sl1 w2 ar sl4 s0 sl7 ob ) [])) st817 ?_
  refine own_s (g' := (mkF m 238 (own_Lown_cutB31_0 sl0 sl1 w2 ar sl4 s0 sl7 ob ) [(.ref ar)])) (fun _ kz => XS.aloadN X817.here hx rfl (hb hby at_237) rfl rfl kz) ?_
  refine own_s (g' := (mkF m 240 (own_Lown_cutB31_0 sl0 sl1 w2 ar sl4 s0 sl7 ob ) [(.int 1), (.ref ar)])) (fun _ kz => XS.iload X817.here hx rfl (hb hby at_238) rfl kz) ?_
  refine own_s (g' := (mkF m 241 (own_Lown_cutB31_0 sl0 sl1 w2 ar sl4 s0 sl7 ob ) [(.int 1), (.int 1), (.ref ar)])) (fun _ kz => XS.iconst X817.here hx rfl (hb hby at_240) kz) ?_
  refine own_s (g' := (mkF m 242 (own_Lown_cutB31_0 sl0 sl1 w2 ar sl4 s0 sl7 ob ) [(.int ((1 : Int32) - (1 : Int32))), (.ref ar)])) (fun _ kz => XS.isub X817.here hx rfl (hb hby at_241) rfl kz) ?_
  rw [show ((1 : Int32) - (1 : Int32)) = (0 : Int32) from by decide]
  refine own_s (g' := (mkF m 243 (own_Lown_cutB31_0 sl0 sl1 w2 ar sl4 s0 sl7 ob ) [(.ref ar), (.int 0), (.ref ar)])) (fun _ kz => XS.aloadN X817.here hx rfl (hb hby at_242) rfl rfl kz) ?_
  refine own_s (g' := (mkF m 245 (own_Lown_cutB31_0 sl0 sl1 w2 ar sl4 s0 sl7 ob ) [(.int 1), (.ref ar), (.int 0), (.ref ar)])) (fun _ kz => XS.iload X817.here hx rfl (hb hby at_243) rfl kz) ?_
  refine own_s (g' := (mkF m 246 (own_Lown_cutB31_0 sl0 sl1 w2 ar sl4 s0 sl7 ob ) [(.int 1), (.int 1), (.ref ar), (.int 0), (.ref ar)])) (fun _ kz => XS.iconst X817.here hx rfl (hb hby at_245) kz) ?_
  refine own_s (g' := (mkF m 247 (own_Lown_cutB31_0 sl0 sl1 w2 ar sl4 s0 sl7 ob ) [(.int ((1 : Int32) - (1 : Int32))), (.ref ar), (.int 0), (.ref ar)])) (fun _ kz => XS.isub X817.here hx rfl (hb hby at_246) rfl kz) ?_
  rw [show ((1 : Int32) - (1 : Int32)) = (0 : Int32) from by decide]
  obtain ⟨cl819, Ar819, -, S819, -, H819, -⟩ := id f818
  have in819 := inb_of S819 (j := (0 : Int32)) ⟨by decide, by decide⟩
  refine own_s (g' := (mkF m 248 (own_Lown_cutB31_0 sl0 sl1 w2 ar sl4 s0 sl7 ob ) [(.int y0), (.int 0), (.ref ar)])) (X817.iaload hx (j := (0 : Int32)) (v := (.int y0)) (by rw [e817]; exact Ar819.1) (State.isArrayOf_alike hZ.alike Ar819.2.1) Ar819.2.2 in819 (Has.at H819 in819 rfl) (g := (mkF m 247 (own_Lown_cutB31_0 sl0 sl1 w2 ar sl4 s0 sl7 ob ) [(.int 0), (.ref ar), (.int 0), (.ref ar)])) rfl rfl (hb hby at_247)) ?_
  refine own_s (g' := (mkF m 249 (own_Lown_cutB31_0 sl0 sl1 w2 ar sl4 s0 sl7 ob ) [(.int 1), (.int y0), (.int 0), (.ref ar)])) (fun _ kz => XS.iconst X817.here hx rfl (hb hby at_248) kz) ?_
  refine own_s (g' := (mkF m 250 (own_Lown_cutB31_0 sl0 sl1 w2 ar sl4 s0 sl7 ob ) [(.int (y0 + (1 : Int32))), (.int 0), (.ref ar)])) (fun _ kz => XS.iadd X817.here hx rfl (hb hby at_249) rfl kz) ?_
  obtain ⟨cl820, Ar820, q820, S820, M820, H820, G820⟩ := id f818
  obtain ⟨T820, h820, X820, e820, W820, st820⟩ := stI X817 hx hZ e817 Ar820 (j := (0 : Int32)) (inb_of S820 ⟨by decide, by decide⟩) (g := (mkF m 250 (own_Lown_cutB31_0 sl0 sl1 w2 ar sl4 s0 sl7 ob ) [(.int (y0 + (1 : Int32))), (.int 0), (.ref ar)])) rfl rfl (hb hby at_250)
  have f821 : Arv Z h820 ar ky .int (4 : Int32) [(.int (y0 + (1 : Int32))), (.int (y1 - (1 : Int32))), (.int y2), (.int y3)] (.int (0 : Int32)) := Arv.set Ar820 q820 S820 M820 H820 G820 rfl W820 0 rfl (Nat.le_of_ble_eq_true rfl)
  have K820 := K817.wr W820 (Or.inl (List.mem_of_getElem? (i := 3) rfl))
  have N820 := Fr.snoc X820 N817 g_ar
  refine own_s (g' := (mkF m 251 (own_Lown_cutB31_0 sl0 sl1 w2 ar sl4 s0 sl7 ob ) [])) st820 ?_
  refine own_s (g' := (mkF m 253 (own_Lown_cutB31_0 sl0 sl1 w2 ar sl4 s0 sl7 ob ) [(.int 1)])) (fun _ kz => XS.iload X820.here hx rfl (hb hby at_251) rfl kz) ?_
  refine own_s (g' := (mkF m 256 (own_Lown_cutB31_0 sl0 sl1 w2 ar sl4 s0 sl7 ob ) [])) (fun _ kz => XS.ifNo X820.here hx rfl (hb hby at_253) rfl ((if0 _ _).trans (feq ((by decide) : ¬ (1 : Int32) = (0 : Int32))).1) kz) ?_
  refine own_s (g' := (mkF m 258 (own_Lown_cutB31_0 sl0 sl1 w2 ar sl4 s0 sl7 ob ) [(.ref ob)])) (fun _ kz => XS.aload X820.here hx rfl (hb hby at_256) rfl rfl kz) ?_
  have f823 := ((f814.other W817 (Or.inl (Ne.symm ne_ar_ob))).other W820 (Or.inl (Ne.symm ne_ar_ob)))
  have f824 := ((f806.wr W817).wr W820)
  obtain ⟨cq822, kq822, q822a, q822b, q822c⟩ := isOf hZ e820 f824
  obtain ⟨_, _, ⟨T822, L822, k822, n822⟩, -, X822, ⟨Lc822, hQ822, l822, y822, z822⟩, st822⟩ := X820.virtualBack hx (y := (⟨"gallai/service/ResidualDegrees", "sum", "()J"⟩ : MethodName)) (z := (⟨"gallai/service/ResidualDegrees", "sum", "()J"⟩ : MethodName)) hown (mvT hZ ww55) (mvT hZ ww56) (notFace_of_selects (args := #[]) (mvT hZ ww58)) (mvT hZ ww58) (mvT hZ ww57) (by decide) (backOf (W := 0) (rm7 l Z a0 hw [] ob ((s0 - (1 : Int64)) - (1 : Int64)) h820 n0 (Nat.le_trans Z0 K820.1) f823) hZ ww59 ww6 (by decide) (by decide)) q822a q822c (g := (mkF m 258 (own_Lown_cutB31_0 sl0 sl1 w2 ar sl4 s0 sl7 ob ) [(.ref ob)])) rfl (by rw [hml]; rfl) (Steps.refl _) (argsL := []) (rest := []) (lenOf pd___J rfl) rfl (by show 2 * 0 + _ ≤ _; exact Nat.le_of_eq rfl) (hb hby at_258) (fun _ _ => ⟨rfl, e820, (by decide : 12 + 0 ≤ _), (by decide : 60 + 0 ≤ _)⟩)
  dsimp only [Pt.U, Pt.locs, Pt.cells, Pt.slots] at X822 l822 y822 z822 st822 hQ822
  subst l822 y822 z822
  obtain ⟨rfl, N822q, eh822⟩ := hQ822
  have N822 := Fr.app N820 N822q
  refine own_trans (g' := (mkF m 261 (own_Lown_cutB31_0 sl0 sl1 w2 ar sl4 s0 sl7 ob ) [(.long ((s0 - (1 : Int64)) - (1 : Int64)))])) st822 ?_
  refine own_s (g' := (mkF m 263 (own_Lown_cutB31_0 sl0 sl1 w2 ar sl4 s0 sl7 ob ) [(.long s0), (.long ((s0 - (1 : Int64)) - (1 : Int64)))])) (fun _ kz => XS.lload X822.here hx rfl (hb hby at_261) rfl kz) ?_
  refine own_s (g' := (mkF m 266 (own_Lown_cutB31_0 sl0 sl1 w2 ar sl4 s0 sl7 ob ) [(.long 2), (.long s0), (.long ((s0 - (1 : Int64)) - (1 : Int64)))])) (X822.ldc2Long hx hown (mvT hZ ww2) (g := (mkF m 263 (own_Lown_cutB31_0 sl0 sl1 w2 ar sl4 s0 sl7 ob ) [(.long s0), (.long ((s0 - (1 : Int64)) - (1 : Int64)))])) rfl (hb hby at_263)) ?_
  refine own_s (g' := (mkF m 267 (own_Lown_cutB31_0 sl0 sl1 w2 ar sl4 s0 sl7 ob ) [(.long (s0 - (2 : Int64))), (.long ((s0 - (1 : Int64)) - (1 : Int64)))])) (fun _ kz => XS.lsub X822.here hx rfl (hb hby at_266) rfl kz) ?_
  refine own_s (g' := (mkF m 268 (own_Lown_cutB31_0 sl0 sl1 w2 ar sl4 s0 sl7 ob ) [(.int (lcmpW ((s0 - (1 : Int64)) - (1 : Int64)) (s0 - (2 : Int64))))])) (fun _ kz => XS.lcmp X822.here hx rfl (hb hby at_267) rfl kz) ?_
  refine own_s (g' := (mkF m 271 (own_Lown_cutB31_0 sl0 sl1 w2 ar sl4 s0 sl7 ob ) [])) (fun _ kz => XS.ifNo X822.here hx rfl (hb hby at_268) rfl ((if0 _ _).trans (teq ((lw_eq ((s0 - (1 : Int64)) - (1 : Int64)) (s0 - (2 : Int64))).mpr (own_s2 _))).2) kz) ?_
  refine own_s (g' := (mkF m 273 (own_Lown_cutB31_0 sl0 sl1 w2 ar sl4 s0 sl7 ob ) [(.ref ob)])) (fun _ kz => XS.aload X822.here hx rfl (hb hby at_271) rfl rfl kz) ?_
  have f826 := ((f809.other W817 (Or.inl (Ne.symm ne_ar_ob))).other W820 (Or.inl (Ne.symm ne_ar_ob)))
  obtain ⟨cq825, kq825, q825a, q825b, q825c⟩ := isOf hZ eh822 f824
  obtain ⟨_, _, ⟨T825, L825, k825, n825⟩, -, X825, ⟨Lc825, hQ825, l825, y825, z825⟩, st825⟩ := X822.virtualBack hx (y := (⟨"gallai/service/ResidualDegrees", "largest", "()I"⟩ : MethodName)) (z := (⟨"gallai/service/ResidualDegrees", "largest", "()I"⟩ : MethodName)) hown (mvT hZ ww60) (mvT hZ ww61) (notFace_of_selects (args := #[]) (mvT hZ ww63)) (mvT hZ ww63) (mvT hZ ww62) (by decide) (backOf (W := 0) (rm8 l Z a0 hw [] ob (3 : Int32) h820 n0 (Nat.le_trans Z0 K820.1) f826) hZ ww64 ww6 (by decide) (by decide)) q825a q825c (g := (mkF m 273 (own_Lown_cutB31_0 sl0 sl1 w2 ar sl4 s0 sl7 ob ) [(.ref ob)])) rfl (by rw [hml]; rfl) (Steps.refl _) (argsL := []) (rest := []) (lenOf pd___I rfl) rfl (by show 2 * 0 + _ ≤ _; exact Nat.le_of_eq rfl) (hb hby at_273) (fun _ _ => ⟨rfl, eh822, (by decide : 12 + 0 ≤ _), (by decide : 60 + 0 ≤ _)⟩)
  dsimp only [Pt.U, Pt.locs, Pt.cells, Pt.slots] at X825 l825 y825 z825 st825 hQ825
  subst l825 y825 z825
  obtain ⟨rfl, N825q, eh825⟩ := hQ825
  have N825 := Fr.app N822 N825q
  refine own_trans (g' := (mkF m 276 (own_Lown_cutB31_0 sl0 sl1 w2 ar sl4 s0 sl7 ob ) [(.int 3)])) st825 ?_
  refine own_s (g' := (mkF m 277 (own_Lown_cutB31_0 sl0 sl1 w2 ar sl4 s0 sl7 ob ) [(.ref ar), (.int 3)])) (fun _ kz => XS.aloadN X825.here hx rfl (hb hby at_276) rfl rfl kz) ?_
  obtain ⟨_, _, ⟨T827, L827, k827, n827⟩, -, X827, ⟨Lc827, hQ827, l827, y827, z827⟩, st827⟩ := Jvm.LawKit.callS X825 hx (y := (⟨"gallai/service/ResidualDegreesLowerPinLaw", "top", "([I)I"⟩ : MethodName)) hown (mvT hZ ww65) (mvT hZ ww66) (mvT hZ ww67) (mvT hZ ww68) (by decide) (backOf (W := 1) (rm9 l Z a0 hw [] ar ky (y0 + (1 : Int32)) (y1 - (1 : Int32)) y2 y3 h820 n0 (Nat.le_trans Z0 K820.1) f821) hZ ww68 ww67 (by decide) (by decide)) (g := (mkF m 277 (own_Lown_cutB31_0 sl0 sl1 w2 ar sl4 s0 sl7 ob ) [(.ref ar), (.int 3)])) rfl (by rw [hml]; rfl) (argsL := [(.ref ar)]) (rest := [(.int 3)]) (lenOf pd___I_I rfl) rfl (by show 2 * 0 + _ ≤ _; exact Nat.le_of_eq rfl) (hb hby at_277) (fun _ _ => ⟨rfl, eh825, (by decide : 12 + 0 ≤ _), (by decide : 60 + 0 ≤ _)⟩)
  dsimp only [Pt.U, Pt.locs, Pt.cells, Pt.slots] at X827 l827 y827 z827 st827 hQ827
  subst l827 y827 z827
  obtain ⟨rfl, N827q, eh827⟩ := hQ827
  have N827 := Fr.app N825 N827q
  refine own_s (g' := (mkF m 280 (own_Lown_cutB31_0 sl0 sl1 w2 ar sl4 s0 sl7 ob ) [(.int (r9 (y1 - (1 : Int32)) y2 y3)), (.int 3)])) st827 ?_
  rw [show (r9 (y1 - (1 : Int32)) y2 y3) = (3 : Int32) from (if_pos ((own_triI (fun q => hA8 q.symm) hA3) : (0 : Int32) < y3))]
  refine own_s (g' := (mkF m 283 (own_Lown_cutB31_0 sl0 sl1 w2 ar sl4 s0 sl7 ob ) [])) (fun _ kz => XS.icmpNo X827.here hx rfl (hb hby at_280) rfl (teq ((by decide) : (3 : Int32) = (3 : Int32))).2 kz) ?_
  refine own_s (g' := (mkF m 284 (own_Lown_cutB31_0 sl0 sl1 w2 ar sl4 s0 sl7 ob ) [(.int 1)])) (fun _ kz => XS.iconst X827.here hx rfl (hb hby at_283) kz) ?_
  refine own_s (g' := (mkF m 288 (own_Lown_cutB31_0 sl0 sl1 w2 ar sl4 s0 sl7 ob ) [(.int 1)])) (fun _ kz => XS.goto X827.here hx rfl (pc0 := 284) (pc' := 288) rfl (hb hby at_284) (by decide) (by decide) kz) ?_
  refine own_retN X827 hx hlk (t := .boolean) hret (by simp) (hb hby at_288) (z' := (1 : Int32)) (by decide) (by decide) (by decide) ?_
  exact ⟨rfl, N827⟩
abbrev own_Lown_cutB32_0 (sl0 : Slot) (sl1 : Slot) (w2 : Int32) (ar : Addr) (sl4 : Slot) (s0 : Int64) (sl7 : Slot) (ob : Addr)  : Array Slot := #[sl0, sl1, .val (.int w2), .val (.ref ar), sl4, .val (.long s0), .second, sl7, .val (.ref ob), .val (.int 1), .val (.int 2)]
set_option maxRecDepth 65536 in
set_option maxHeartbeats 40000000 in
theorem own_cutB32 (l : Launch) (Z : State) (a0 : Array Value) (hw : ∀ d ∈ tables_1, d.before a0 Z = true) (sl0 : Slot) (sl1 : Slot) (w2 : Int32) (ar : Addr) (sl4 : Slot) (s0 : Int64) (sl7 : Slot) (ob : Addr) (b0_countOf : Addr) (b0_atLeast : Addr) (b0_partnersOf : Addr) (b0_saved : Addr) (b0_slack : Addr) (b0_nextTight : Addr) (kc : ClassId) (y0 : Int32) (y1 : Int32) (y2 : Int32) (y3 : Int32) (kx : ClassId) (na : Int32) (x0 : Int32) (x1 : Int32) (x2 : Int32) (x3 : Int32) (x4 : Int32) (ky : ClassId) {p : Program} {e : Env} {s : State} {m : MethodId} {args : Array Value} {below : List Frame} {meth : Method} {c : Code} {s₁ : State} {locs : List Loc}
    (X0 : Stand p l e room_1 s m args below meth c s₁ locs 12 60) (hx : p.tables.exec = Jvm.exec) (hZ : Z.Warmed39 s.vm) (hby : c.code = code) (hml : c.maxLocals = 11) (hown : s.vm.findClass "gallai/service/ResidualDegreesLowerPinLaw" = some m.cls) (hlk : meth.locks = false) (hret : meth.sig.returnType = some .boolean) (h0 : Heap) (n0 : Nat) (e0 : s₁.heap = h0) (Z0 : n0 ≤ h0.size) (N0 : Fr n0 locs) (F_countOf_ob : Fld Z h0 ob "gallai/service/ResidualDegrees" "countOf" "[I" (.ref b0_countOf)) (F_atLeast_ob : Fld Z h0 ob "gallai/service/ResidualDegrees" "atLeast" "[I" (.ref b0_atLeast)) (F_sum_ob : Fld Z h0 ob "gallai/service/ResidualDegrees" "sum" "J" (.long (s0 - (1 : Int64)))) (F_largest_ob : Fld Z h0 ob "gallai/service/ResidualDegrees" "largest" "I" (.int 3)) (F_partnersOf_ob : Fld Z h0 ob "gallai/service/ResidualDegrees" "partnersOf" "[I" (.ref b0_partnersOf)) (F_saved_ob : Fld Z h0 ob "gallai/service/ResidualDegrees" "saved" "[I" (.ref b0_saved)) (F_slack_ob : Fld Z h0 ob "gallai/service/ResidualDegrees" "slack" "[J" (.ref b0_slack)) (F_nextTight_ob : Fld Z h0 ob "gallai/service/ResidualDegrees" "nextTight" "[I" (.ref b0_nextTight)) (E_ob : Exa Z h0 ob "gallai/service/ResidualDegrees") (V_b0_countOf : Arv Z h0 b0_countOf kc .int (4 : Int32) [(.int y0), (.int y1), (.int y2), (.int y3)] (.int (0 : Int32))) (V_b0_atLeast : Arv Z h0 b0_atLeast kx .int na [(.int x0), (.int x1), (.int x2), (.int x3), (.int x4)] (.int (0 : Int32))) (V_ar : Arv Z h0 ar ky .int (4 : Int32) [(.int y0), (.int y1), (.int y2), (.int y3)] (.int (0 : Int32))) (g_b0_countOf : n0 ≤ b0_countOf) (g_b0_atLeast : n0 ≤ b0_atLeast) (g_ob : n0 ≤ ob) (g_ar : n0 ≤ ar) (ne_ob_b0_countOf : ob ≠ b0_countOf) (ne_b0_atLeast_b0_countOf : b0_atLeast ≠ b0_countOf) (ne_ob_b0_atLeast : ob ≠ b0_atLeast) (ne_ar_b0_countOf : ar ≠ b0_countOf) (ne_ar_b0_atLeast : ar ≠ b0_atLeast) (ne_ar_ob : ar ≠ ob) (hA0 : ¬ y0 < (0 : Int32)) (hA1 : ¬ y1 < (0 : Int32)) (hA2 : ¬ y2 < (0 : Int32)) (hA3 : ¬ y3 < (0 : Int32)) (hA4 : ¬ (20 : Int32) < y0) (hA5 : ¬ (20 : Int32) < y1) (hA6 : ¬ (20 : Int32) < y2) (hA7 : ¬ (20 : Int32) < y3) (hA8 : ¬ y3 = (0 : Int32)) (hna : (2 : Int32) < na) :
    own_G p e below s (fun v h L => v = some (.int (1 : Int32)) ∧ Fr n0 L) 32 192 s₁ (mkF m 212 #[sl0, sl1, .val (.int w2), .val (.ref ar), sl4, .val (.long s0), .second, sl7, .val (.ref ob), .val (.int 1), .val (.int 2)] []) := by
  have K0 : Keep h0 h0 [b0_countOf, b0_atLeast, ob, ar] := Keep.refl _ _
  have ww2 := hw _ (List.mem_of_getElem? (i := 2) rfl)
  have ww6 := hw _ (List.mem_of_getElem? (i := 6) rfl)
  have ww50 := hw _ (List.mem_of_getElem? (i := 50) rfl)
  have ww51 := hw _ (List.mem_of_getElem? (i := 51) rfl)
  have ww52 := hw _ (List.mem_of_getElem? (i := 52) rfl)
  have ww53 := hw _ (List.mem_of_getElem? (i := 53) rfl)
  have ww54 := hw _ (List.mem_of_getElem? (i := 54) rfl)
  have ww55 := hw _ (List.mem_of_getElem? (i := 55) rfl)
  have ww56 := hw _ (List.mem_of_getElem? (i := 56) rfl)
  have ww57 := hw _ (List.mem_of_getElem? (i := 57) rfl)
  have ww58 := hw _ (List.mem_of_getElem? (i := 58) rfl)
  have ww59 := hw _ (List.mem_of_getElem? (i := 59) rfl)
  have ww60 := hw _ (List.mem_of_getElem? (i := 60) rfl)
  have ww61 := hw _ (List.mem_of_getElem? (i := 61) rfl)
  have ww62 := hw _ (List.mem_of_getElem? (i := 62) rfl)
  have ww63 := hw _ (List.mem_of_getElem? (i := 63) rfl)
  have ww64 := hw _ (List.mem_of_getElem? (i := 64) rfl)
  have ww65 := hw _ (List.mem_of_getElem? (i := 65) rfl)
  have ww66 := hw _ (List.mem_of_getElem? (i := 66) rfl)
  have ww67 := hw _ (List.mem_of_getElem? (i := 67) rfl)
  have ww68 := hw _ (List.mem_of_getElem? (i := 68) rfl)
  show own_G p e below s _ _ _ s₁ (mkF m _ (own_Lown_cutB32_0 sl0 sl1 w2 ar sl4 s0 sl7 ob ) _)
  refine own_s (g' := (mkF m 214 (own_Lown_cutB32_0 sl0 sl1 w2 ar sl4 s0 sl7 ob ) [(.int 2)])) (fun _ kz => XS.iload X0.here hx rfl (hb hby at_212) rfl kz) ?_
  refine own_s (g' := (mkF m 220 (own_Lown_cutB32_0 sl0 sl1 w2 ar sl4 s0 sl7 ob ) [])) (fun _ kz => XS.ifYes X0.here hx rfl (pc0 := 214) (pc' := 220) rfl (hb hby at_214) rfl ((if0 _ _).trans (feq ((by decide) : ¬ (2 : Int32) = (0 : Int32))).2) (by decide) (by decide) kz) ?_
  refine own_s (g' := (mkF m 222 (own_Lown_cutB32_0 sl0 sl1 w2 ar sl4 s0 sl7 ob ) [(.ref ob)])) (fun _ kz => XS.aload X0.here hx rfl (hb hby at_220) rfl rfl kz) ?_
  refine own_s (g' := (mkF m 224 (own_Lown_cutB32_0 sl0 sl1 w2 ar sl4 s0 sl7 ob ) [(.int 2), (.ref ob)])) (fun _ kz => XS.iload X0.here hx rfl (hb hby at_222) rfl kz) ?_
  have hi828 := own_inc (c := y1) hA1 hA5
  obtain ⟨cq829, kq829, q829a, q829b, q829c⟩ := isOf hZ e0 E_ob
  obtain ⟨_, _, ⟨T829, L829, k829, n829⟩, -, X829, ⟨Lc829, hQ829, l829, y829, z829⟩, st829⟩ := X0.virtualBack hx (y := (⟨"gallai/service/ResidualDegrees", "lower", "(I)V"⟩ : MethodName)) (z := (⟨"gallai/service/ResidualDegrees", "lower", "(I)V"⟩ : MethodName)) hown (mvT hZ ww50) (mvT hZ ww51) (notFace_of_selects (args := #[]) (mvT hZ ww53)) (mvT hZ ww53) (mvT hZ ww52) (by decide) (backOf (W := 0) (rm6L3d2 l Z a0 hw [] ob b0_countOf b0_atLeast (s0 - (1 : Int64)) b0_partnersOf b0_saved b0_slack b0_nextTight kc y0 y1 y2 y3 kx na x0 x1 x2 x3 x4 h0 n0 Z0 F_countOf_ob F_atLeast_ob F_sum_ob F_largest_ob F_partnersOf_ob F_saved_ob F_slack_ob F_nextTight_ob E_ob V_b0_countOf V_b0_atLeast g_b0_countOf g_b0_atLeast g_ob ne_ob_b0_countOf ne_b0_atLeast_b0_countOf ne_ob_b0_atLeast hA8 hna) hZ ww54 ww6 (by decide) (by decide)) q829a q829c (g := (mkF m 224 (own_Lown_cutB32_0 sl0 sl1 w2 ar sl4 s0 sl7 ob ) [(.int 2), (.ref ob)])) rfl (by rw [hml]; rfl) (Steps.refl _) (argsL := [(.int 2)]) (rest := []) (lenOf pd__I_V rfl) rfl (by show 2 * 0 + _ ≤ _; exact Nat.le_of_eq rfl) (hb hby at_224) (fun _ _ => ⟨rfl, e0, (by decide : 12 + 0 ≤ _), (by decide : 60 + 0 ≤ _)⟩)
  dsimp only [Pt.U, Pt.locs, Pt.cells, Pt.slots] at X829 l829 y829 z829 st829 hQ829
  subst l829 y829 z829
  obtain ⟨rfl, N829q, K829q, f830, f831, f832, f833, f834, f835, f836, f837, f838, f839, f840⟩ := hQ829
  have K829 := K0.trans K829q (allS (Or.inl (List.mem_of_getElem? (i := 0) rfl)) (allS (Or.inl (List.mem_of_getElem? (i := 1) rfl)) (allS (Or.inl (List.mem_of_getElem? (i := 2) rfl)) all0)))
  have N829 := Fr.app N0 N829q
  refine own_trans (g' := (mkF m 227 (own_Lown_cutB32_0 sl0 sl1 w2 ar sl4 s0 sl7 ob ) [])) st829 ?_
  refine own_s (g' := (mkF m 228 (own_Lown_cutB32_0 sl0 sl1 w2 ar sl4 s0 sl7 ob ) [(.ref ar)])) (fun _ kz => XS.aloadN X829.here hx rfl (hb hby at_227) rfl rfl kz) ?_
  refine own_s (g' := (mkF m 230 (own_Lown_cutB32_0 sl0 sl1 w2 ar sl4 s0 sl7 ob ) [(.int 2), (.ref ar)])) (fun _ kz => XS.iload X829.here hx rfl (hb hby at_228) rfl kz) ?_
  refine own_s (g' := (mkF m 231 (own_Lown_cutB32_0 sl0 sl1 w2 ar sl4 s0 sl7 ob ) [(.ref ar), (.int 2), (.ref ar)])) (fun _ kz => XS.aloadN X829.here hx rfl (hb hby at_230) rfl rfl kz) ?_
  refine own_s (g' := (mkF m 233 (own_Lown_cutB32_0 sl0 sl1 w2 ar sl4 s0 sl7 ob ) [(.int 2), (.ref ar), (.int 2), (.ref ar)])) (fun _ kz => XS.iload X829.here hx rfl (hb hby at_231) rfl kz) ?_
  have f841 := (V_ar.keep K829q (ninS ne_ar_b0_countOf (ninS ne_ar_b0_atLeast (ninS ne_ar_ob nin0))))
  obtain ⟨cl842, Ar842, -, S842, -, H842, -⟩ := id f841
  have in842 := inb_of S842 (j := (2 : Int32)) ⟨by decide, by decide⟩
  refine own_s (g' := (mkF m 234 (own_Lown_cutB32_0 sl0 sl1 w2 ar sl4 s0 sl7 ob ) [(.int y2), (.int 2), (.ref ar)])) (X829.iaload hx (j := (2 : Int32)) (v := (.int y2)) Ar842.1 (State.isArrayOf_alike hZ.alike Ar842.2.1) Ar842.2.2 in842 (Has.at H842 in842 rfl) (g := (mkF m 233 (own_Lown_cutB32_0 sl0 sl1 w2 ar sl4 s0 sl7 ob ) [(.int 2), (.ref ar), (.int 2), (.ref ar)])) rfl rfl (hb hby at_233)) ?_
  refine own_s (g' := (mkF m 235 (own_Lown_cutB32_0 sl0 sl1 w2 ar sl4 s0 sl7 ob ) [(.int 1), (.int y2), (.int 2), (.ref ar)])) (fun _ kz => XS.iconst X829.here hx rfl (hb hby at_234) kz) ?_
  refine own_s (g' := (mkF m 236 (own_Lown_cutB32_0 sl0 sl1 w2 ar sl4 s0 sl7 ob ) [(.int (y2 - (1 : Int32))), (.int 2), (.ref ar)])) (fun _ kz => XS.isub X829.here hx rfl (hb hby at_235) rfl kz) ?_
  obtain ⟨cl843, Ar843, q843, S843, M843, H843, G843⟩ := id f841
  obtain ⟨T843, h843, X843, e843, W843, st843⟩ := stI X829 hx hZ rfl Ar843 (j := (2 : Int32)) (inb_of S843 ⟨by decide, by decide⟩) (g := (mkF m 236 (own_Lown_cutB32_0 sl0 sl1 w2 ar sl4 s0 sl7 ob ) [(.int (y2 - (1 : Int32))), (.int 2), (.ref ar)])) rfl rfl (hb hby at_236)
  have f844 : Arv Z h843 ar ky .int (4 : Int32) [(.int y0), (.int y1), (.int (y2 - (1 : Int32))), (.int y3)] (.int (0 : Int32)) := Arv.set Ar843 q843 S843 M843 H843 G843 rfl W843 2 rfl (Nat.le_of_ble_eq_true rfl)
  have K843 := K829.wr W843 (Or.inl (List.mem_of_getElem? (i := 3) rfl))
  have N843 := Fr.snoc X843 N829 g_ar
  refine own_s (g' := (mkF m 237 (own_Lown_cutB32_0 sl0 sl1 w2 ar sl4 s0 sl7 ob ) [])) st843 ?_
  refine own_s (g' := (mkF m 238 (own_Lown_cutB32_0 sl0 sl1 w2 ar sl4 s0 sl7 ob ) [(.ref ar)])) (fun _ kz => XS.aloadN X843.here hx rfl (hb hby at_237) rfl rfl kz) ?_
  refine own_s (g' := (mkF m 240 (own_Lown_cutB32_0 sl0 sl1 w2 ar sl4 s0 sl7 ob ) [(.int 2), (.ref ar)])) (fun _ kz => XS.iload X843.here hx rfl (hb hby at_238) rfl kz) ?_
  refine own_s (g' := (mkF m 241 (own_Lown_cutB32_0 sl0 sl1 w2 ar sl4 s0 sl7 ob ) [(.int 1), (.int 2), (.ref ar)])) (fun _ kz => XS.iconst X843.here hx rfl (hb hby at_240) kz) ?_
  refine own_s (g' := (mkF m 242 (own_Lown_cutB32_0 sl0 sl1 w2 ar sl4 s0 sl7 ob ) [(.int ((2 : Int32) - (1 : Int32))), (.ref ar)])) (fun _ kz => XS.isub X843.here hx rfl (hb hby at_241) rfl kz) ?_
  rw [show ((2 : Int32) - (1 : Int32)) = (1 : Int32) from by decide]
  refine own_s (g' := (mkF m 243 (own_Lown_cutB32_0 sl0 sl1 w2 ar sl4 s0 sl7 ob ) [(.ref ar), (.int 1), (.ref ar)])) (fun _ kz => XS.aloadN X843.here hx rfl (hb hby at_242) rfl rfl kz) ?_
  refine own_s (g' := (mkF m 245 (own_Lown_cutB32_0 sl0 sl1 w2 ar sl4 s0 sl7 ob ) [(.int 2), (.ref ar), (.int 1), (.ref ar)])) (fun _ kz => XS.iload X843.here hx rfl (hb hby at_243) rfl kz) ?_
  refine own_s (g' := (mkF m 246 (own_Lown_cutB32_0 sl0 sl1 w2 ar sl4 s0 sl7 ob ) [(.int 1), (.int 2), (.ref ar), (.int 1), (.ref ar)])) (fun _ kz => XS.iconst X843.here hx rfl (hb hby at_245) kz) ?_
  refine own_s (g' := (mkF m 247 (own_Lown_cutB32_0 sl0 sl1 w2 ar sl4 s0 sl7 ob ) [(.int ((2 : Int32) - (1 : Int32))), (.ref ar), (.int 1), (.ref ar)])) (fun _ kz => XS.isub X843.here hx rfl (hb hby at_246) rfl kz) ?_
  rw [show ((2 : Int32) - (1 : Int32)) = (1 : Int32) from by decide]
  obtain ⟨cl845, Ar845, -, S845, -, H845, -⟩ := id f844
  have in845 := inb_of S845 (j := (1 : Int32)) ⟨by decide, by decide⟩
  refine own_s (g' := (mkF m 248 (own_Lown_cutB32_0 sl0 sl1 w2 ar sl4 s0 sl7 ob ) [(.int y1), (.int 1), (.ref ar)])) (X843.iaload hx (j := (1 : Int32)) (v := (.int y1)) (by rw [e843]; exact Ar845.1) (State.isArrayOf_alike hZ.alike Ar845.2.1) Ar845.2.2 in845 (Has.at H845 in845 rfl) (g := (mkF m 247 (own_Lown_cutB32_0 sl0 sl1 w2 ar sl4 s0 sl7 ob ) [(.int 1), (.ref ar), (.int 1), (.ref ar)])) rfl rfl (hb hby at_247)) ?_
  refine own_s (g' := (mkF m 249 (own_Lown_cutB32_0 sl0 sl1 w2 ar sl4 s0 sl7 ob ) [(.int 1), (.int y1), (.int 1), (.ref ar)])) (fun _ kz => XS.iconst X843.here hx rfl (hb hby at_248) kz) ?_
  refine own_s (g' := (mkF m 250 (own_Lown_cutB32_0 sl0 sl1 w2 ar sl4 s0 sl7 ob ) [(.int (y1 + (1 : Int32))), (.int 1), (.ref ar)])) (fun _ kz => XS.iadd X843.here hx rfl (hb hby at_249) rfl kz) ?_
  obtain ⟨cl846, Ar846, q846, S846, M846, H846, G846⟩ := id f844
  obtain ⟨T846, h846, X846, e846, W846, st846⟩ := stI X843 hx hZ e843 Ar846 (j := (1 : Int32)) (inb_of S846 ⟨by decide, by decide⟩) (g := (mkF m 250 (own_Lown_cutB32_0 sl0 sl1 w2 ar sl4 s0 sl7 ob ) [(.int (y1 + (1 : Int32))), (.int 1), (.ref ar)])) rfl rfl (hb hby at_250)
  have f847 : Arv Z h846 ar ky .int (4 : Int32) [(.int y0), (.int (y1 + (1 : Int32))), (.int (y2 - (1 : Int32))), (.int y3)] (.int (0 : Int32)) := Arv.set Ar846 q846 S846 M846 H846 G846 rfl W846 1 rfl (Nat.le_of_ble_eq_true rfl)
  have K846 := K843.wr W846 (Or.inl (List.mem_of_getElem? (i := 3) rfl))
  have N846 := Fr.snoc X846 N843 g_ar
  refine own_s (g' := (mkF m 251 (own_Lown_cutB32_0 sl0 sl1 w2 ar sl4 s0 sl7 ob ) [])) st846 ?_
  refine own_s (g' := (mkF m 253 (own_Lown_cutB32_0 sl0 sl1 w2 ar sl4 s0 sl7 ob ) [(.int 1)])) (fun _ kz => XS.iload X846.here hx rfl (hb hby at_251) rfl kz) ?_
  refine own_s (g' := (mkF m 256 (own_Lown_cutB32_0 sl0 sl1 w2 ar sl4 s0 sl7 ob ) [])) (fun _ kz => XS.ifNo X846.here hx rfl (hb hby at_253) rfl ((if0 _ _).trans (feq ((by decide) : ¬ (1 : Int32) = (0 : Int32))).1) kz) ?_
  refine own_s (g' := (mkF m 258 (own_Lown_cutB32_0 sl0 sl1 w2 ar sl4 s0 sl7 ob ) [(.ref ob)])) (fun _ kz => XS.aload X846.here hx rfl (hb hby at_256) rfl rfl kz) ?_
  have f849 := ((f840.other W843 (Or.inl (Ne.symm ne_ar_ob))).other W846 (Or.inl (Ne.symm ne_ar_ob)))
  have f850 := ((f832.wr W843).wr W846)
  obtain ⟨cq848, kq848, q848a, q848b, q848c⟩ := isOf hZ e846 f850
  obtain ⟨_, _, ⟨T848, L848, k848, n848⟩, -, X848, ⟨Lc848, hQ848, l848, y848, z848⟩, st848⟩ := X846.virtualBack hx (y := (⟨"gallai/service/ResidualDegrees", "sum", "()J"⟩ : MethodName)) (z := (⟨"gallai/service/ResidualDegrees", "sum", "()J"⟩ : MethodName)) hown (mvT hZ ww55) (mvT hZ ww56) (notFace_of_selects (args := #[]) (mvT hZ ww58)) (mvT hZ ww58) (mvT hZ ww57) (by decide) (backOf (W := 0) (rm7 l Z a0 hw [] ob ((s0 - (1 : Int64)) - (1 : Int64)) h846 n0 (Nat.le_trans Z0 K846.1) f849) hZ ww59 ww6 (by decide) (by decide)) q848a q848c (g := (mkF m 258 (own_Lown_cutB32_0 sl0 sl1 w2 ar sl4 s0 sl7 ob ) [(.ref ob)])) rfl (by rw [hml]; rfl) (Steps.refl _) (argsL := []) (rest := []) (lenOf pd___J rfl) rfl (by show 2 * 0 + _ ≤ _; exact Nat.le_of_eq rfl) (hb hby at_258) (fun _ _ => ⟨rfl, e846, (by decide : 12 + 0 ≤ _), (by decide : 60 + 0 ≤ _)⟩)
  dsimp only [Pt.U, Pt.locs, Pt.cells, Pt.slots] at X848 l848 y848 z848 st848 hQ848
  subst l848 y848 z848
  obtain ⟨rfl, N848q, eh848⟩ := hQ848
  have N848 := Fr.app N846 N848q
  refine own_trans (g' := (mkF m 261 (own_Lown_cutB32_0 sl0 sl1 w2 ar sl4 s0 sl7 ob ) [(.long ((s0 - (1 : Int64)) - (1 : Int64)))])) st848 ?_
  refine own_s (g' := (mkF m 263 (own_Lown_cutB32_0 sl0 sl1 w2 ar sl4 s0 sl7 ob ) [(.long s0), (.long ((s0 - (1 : Int64)) - (1 : Int64)))])) (fun _ kz => XS.lload X848.here hx rfl (hb hby at_261) rfl kz) ?_
  refine own_s (g' := (mkF m 266 (own_Lown_cutB32_0 sl0 sl1 w2 ar sl4 s0 sl7 ob ) [(.long 2), (.long s0), (.long ((s0 - (1 : Int64)) - (1 : Int64)))])) (X848.ldc2Long hx hown (mvT hZ ww2) (g := (mkF m 263 (own_Lown_cutB32_0 sl0 sl1 w2 ar sl4 s0 sl7 ob ) [(.long s0), (.long ((s0 - (1 : Int64)) - (1 : Int64)))])) rfl (hb hby at_263)) ?_
  refine own_s (g' := (mkF m 267 (own_Lown_cutB32_0 sl0 sl1 w2 ar sl4 s0 sl7 ob ) [(.long (s0 - (2 : Int64))), (.long ((s0 - (1 : Int64)) - (1 : Int64)))])) (fun _ kz => XS.lsub X848.here hx rfl (hb hby at_266) rfl kz) ?_
  refine own_s (g' := (mkF m 268 (own_Lown_cutB32_0 sl0 sl1 w2 ar sl4 s0 sl7 ob ) [(.int (lcmpW ((s0 - (1 : Int64)) - (1 : Int64)) (s0 - (2 : Int64))))])) (fun _ kz => XS.lcmp X848.here hx rfl (hb hby at_267) rfl kz) ?_
  refine own_s (g' := (mkF m 271 (own_Lown_cutB32_0 sl0 sl1 w2 ar sl4 s0 sl7 ob ) [])) (fun _ kz => XS.ifNo X848.here hx rfl (hb hby at_268) rfl ((if0 _ _).trans (teq ((lw_eq ((s0 - (1 : Int64)) - (1 : Int64)) (s0 - (2 : Int64))).mpr (own_s2 _))).2) kz) ?_
  refine own_s (g' := (mkF m 273 (own_Lown_cutB32_0 sl0 sl1 w2 ar sl4 s0 sl7 ob ) [(.ref ob)])) (fun _ kz => XS.aload X848.here hx rfl (hb hby at_271) rfl rfl kz) ?_
  have f852 := ((f835.other W843 (Or.inl (Ne.symm ne_ar_ob))).other W846 (Or.inl (Ne.symm ne_ar_ob)))
  obtain ⟨cq851, kq851, q851a, q851b, q851c⟩ := isOf hZ eh848 f850
  obtain ⟨_, _, ⟨T851, L851, k851, n851⟩, -, X851, ⟨Lc851, hQ851, l851, y851, z851⟩, st851⟩ := X848.virtualBack hx (y := (⟨"gallai/service/ResidualDegrees", "largest", "()I"⟩ : MethodName)) (z := (⟨"gallai/service/ResidualDegrees", "largest", "()I"⟩ : MethodName)) hown (mvT hZ ww60) (mvT hZ ww61) (notFace_of_selects (args := #[]) (mvT hZ ww63)) (mvT hZ ww63) (mvT hZ ww62) (by decide) (backOf (W := 0) (rm8 l Z a0 hw [] ob (3 : Int32) h846 n0 (Nat.le_trans Z0 K846.1) f852) hZ ww64 ww6 (by decide) (by decide)) q851a q851c (g := (mkF m 273 (own_Lown_cutB32_0 sl0 sl1 w2 ar sl4 s0 sl7 ob ) [(.ref ob)])) rfl (by rw [hml]; rfl) (Steps.refl _) (argsL := []) (rest := []) (lenOf pd___I rfl) rfl (by show 2 * 0 + _ ≤ _; exact Nat.le_of_eq rfl) (hb hby at_273) (fun _ _ => ⟨rfl, eh848, (by decide : 12 + 0 ≤ _), (by decide : 60 + 0 ≤ _)⟩)
  dsimp only [Pt.U, Pt.locs, Pt.cells, Pt.slots] at X851 l851 y851 z851 st851 hQ851
  subst l851 y851 z851
  obtain ⟨rfl, N851q, eh851⟩ := hQ851
  have N851 := Fr.app N848 N851q
  refine own_trans (g' := (mkF m 276 (own_Lown_cutB32_0 sl0 sl1 w2 ar sl4 s0 sl7 ob ) [(.int 3)])) st851 ?_
  refine own_s (g' := (mkF m 277 (own_Lown_cutB32_0 sl0 sl1 w2 ar sl4 s0 sl7 ob ) [(.ref ar), (.int 3)])) (fun _ kz => XS.aloadN X851.here hx rfl (hb hby at_276) rfl rfl kz) ?_
  obtain ⟨_, _, ⟨T853, L853, k853, n853⟩, -, X853, ⟨Lc853, hQ853, l853, y853, z853⟩, st853⟩ := Jvm.LawKit.callS X851 hx (y := (⟨"gallai/service/ResidualDegreesLowerPinLaw", "top", "([I)I"⟩ : MethodName)) hown (mvT hZ ww65) (mvT hZ ww66) (mvT hZ ww67) (mvT hZ ww68) (by decide) (backOf (W := 1) (rm9 l Z a0 hw [] ar ky y0 (y1 + (1 : Int32)) (y2 - (1 : Int32)) y3 h846 n0 (Nat.le_trans Z0 K846.1) f847) hZ ww68 ww67 (by decide) (by decide)) (g := (mkF m 277 (own_Lown_cutB32_0 sl0 sl1 w2 ar sl4 s0 sl7 ob ) [(.ref ar), (.int 3)])) rfl (by rw [hml]; rfl) (argsL := [(.ref ar)]) (rest := [(.int 3)]) (lenOf pd___I_I rfl) rfl (by show 2 * 0 + _ ≤ _; exact Nat.le_of_eq rfl) (hb hby at_277) (fun _ _ => ⟨rfl, eh851, (by decide : 12 + 0 ≤ _), (by decide : 60 + 0 ≤ _)⟩)
  dsimp only [Pt.U, Pt.locs, Pt.cells, Pt.slots] at X853 l853 y853 z853 st853 hQ853
  subst l853 y853 z853
  obtain ⟨rfl, N853q, eh853⟩ := hQ853
  have N853 := Fr.app N851 N853q
  refine own_s (g' := (mkF m 280 (own_Lown_cutB32_0 sl0 sl1 w2 ar sl4 s0 sl7 ob ) [(.int (r9 (y1 + (1 : Int32)) (y2 - (1 : Int32)) y3)), (.int 3)])) st853 ?_
  rw [show (r9 (y1 + (1 : Int32)) (y2 - (1 : Int32)) y3) = (3 : Int32) from (if_pos ((own_triI (fun q => hA8 q.symm) hA3) : (0 : Int32) < y3))]
  refine own_s (g' := (mkF m 283 (own_Lown_cutB32_0 sl0 sl1 w2 ar sl4 s0 sl7 ob ) [])) (fun _ kz => XS.icmpNo X853.here hx rfl (hb hby at_280) rfl (teq ((by decide) : (3 : Int32) = (3 : Int32))).2 kz) ?_
  refine own_s (g' := (mkF m 284 (own_Lown_cutB32_0 sl0 sl1 w2 ar sl4 s0 sl7 ob ) [(.int 1)])) (fun _ kz => XS.iconst X853.here hx rfl (hb hby at_283) kz) ?_
  refine own_s (g' := (mkF m 288 (own_Lown_cutB32_0 sl0 sl1 w2 ar sl4 s0 sl7 ob ) [(.int 1)])) (fun _ kz => XS.goto X853.here hx rfl (pc0 := 284) (pc' := 288) rfl (hb hby at_284) (by decide) (by decide) kz) ?_
  refine own_retN X853 hx hlk (t := .boolean) hret (by simp) (hb hby at_288) (z' := (1 : Int32)) (by decide) (by decide) (by decide) ?_
  exact ⟨rfl, N853⟩
abbrev own_Lown_cutB33_0 (sl0 : Slot) (sl1 : Slot) (w2 : Int32) (ar : Addr) (sl4 : Slot) (s0 : Int64) (sl7 : Slot) (ob : Addr)  : Array Slot := #[sl0, sl1, .val (.int w2), .val (.ref ar), sl4, .val (.long s0), .second, sl7, .val (.ref ob), .val (.int 1), .val (.int 3)]
set_option maxRecDepth 65536 in
set_option maxHeartbeats 40000000 in
theorem own_cutB33 (l : Launch) (Z : State) (a0 : Array Value) (hw : ∀ d ∈ tables_1, d.before a0 Z = true) (sl0 : Slot) (sl1 : Slot) (w2 : Int32) (ar : Addr) (sl4 : Slot) (s0 : Int64) (sl7 : Slot) (ob : Addr) (b0_countOf : Addr) (b0_atLeast : Addr) (b0_partnersOf : Addr) (b0_saved : Addr) (b0_slack : Addr) (b0_nextTight : Addr) (kc : ClassId) (y0 : Int32) (y1 : Int32) (y2 : Int32) (y3 : Int32) (kx : ClassId) (na : Int32) (x0 : Int32) (x1 : Int32) (x2 : Int32) (x3 : Int32) (x4 : Int32) (ky : ClassId) {p : Program} {e : Env} {s : State} {m : MethodId} {args : Array Value} {below : List Frame} {meth : Method} {c : Code} {s₁ : State} {locs : List Loc}
    (X0 : Stand p l e room_1 s m args below meth c s₁ locs 12 60) (hx : p.tables.exec = Jvm.exec) (hZ : Z.Warmed39 s.vm) (hby : c.code = code) (hml : c.maxLocals = 11) (hown : s.vm.findClass "gallai/service/ResidualDegreesLowerPinLaw" = some m.cls) (hlk : meth.locks = false) (hret : meth.sig.returnType = some .boolean) (h0 : Heap) (n0 : Nat) (e0 : s₁.heap = h0) (Z0 : n0 ≤ h0.size) (N0 : Fr n0 locs) (F_countOf_ob : Fld Z h0 ob "gallai/service/ResidualDegrees" "countOf" "[I" (.ref b0_countOf)) (F_atLeast_ob : Fld Z h0 ob "gallai/service/ResidualDegrees" "atLeast" "[I" (.ref b0_atLeast)) (F_sum_ob : Fld Z h0 ob "gallai/service/ResidualDegrees" "sum" "J" (.long (s0 - (1 : Int64)))) (F_largest_ob : Fld Z h0 ob "gallai/service/ResidualDegrees" "largest" "I" (.int 3)) (F_partnersOf_ob : Fld Z h0 ob "gallai/service/ResidualDegrees" "partnersOf" "[I" (.ref b0_partnersOf)) (F_saved_ob : Fld Z h0 ob "gallai/service/ResidualDegrees" "saved" "[I" (.ref b0_saved)) (F_slack_ob : Fld Z h0 ob "gallai/service/ResidualDegrees" "slack" "[J" (.ref b0_slack)) (F_nextTight_ob : Fld Z h0 ob "gallai/service/ResidualDegrees" "nextTight" "[I" (.ref b0_nextTight)) (E_ob : Exa Z h0 ob "gallai/service/ResidualDegrees") (V_b0_countOf : Arv Z h0 b0_countOf kc .int (4 : Int32) [(.int y0), (.int y1), (.int y2), (.int y3)] (.int (0 : Int32))) (V_b0_atLeast : Arv Z h0 b0_atLeast kx .int na [(.int x0), (.int x1), (.int x2), (.int x3), (.int x4)] (.int (0 : Int32))) (V_ar : Arv Z h0 ar ky .int (4 : Int32) [(.int y0), (.int y1), (.int y2), (.int y3)] (.int (0 : Int32))) (g_b0_countOf : n0 ≤ b0_countOf) (g_b0_atLeast : n0 ≤ b0_atLeast) (g_ob : n0 ≤ ob) (g_ar : n0 ≤ ar) (ne_ob_b0_countOf : ob ≠ b0_countOf) (ne_b0_atLeast_b0_countOf : b0_atLeast ≠ b0_countOf) (ne_ob_b0_atLeast : ob ≠ b0_atLeast) (ne_ar_b0_countOf : ar ≠ b0_countOf) (ne_ar_b0_atLeast : ar ≠ b0_atLeast) (ne_ar_ob : ar ≠ ob) (hA0 : ¬ y0 < (0 : Int32)) (hA1 : ¬ y1 < (0 : Int32)) (hA2 : ¬ y2 < (0 : Int32)) (hA3 : ¬ y3 < (0 : Int32)) (hA4 : ¬ (20 : Int32) < y0) (hA5 : ¬ (20 : Int32) < y1) (hA6 : ¬ (20 : Int32) < y2) (hA7 : ¬ (20 : Int32) < y3) (hA8 : ¬ y3 = (0 : Int32)) (hna : (3 : Int32) < na) :
    own_G p e below s (fun v h L => v = some (.int (1 : Int32)) ∧ Fr n0 L) 32 192 s₁ (mkF m 212 #[sl0, sl1, .val (.int w2), .val (.ref ar), sl4, .val (.long s0), .second, sl7, .val (.ref ob), .val (.int 1), .val (.int 3)] []) := by
  have K0 : Keep h0 h0 [b0_countOf, b0_atLeast, ob, ar] := Keep.refl _ _
  have ww2 := hw _ (List.mem_of_getElem? (i := 2) rfl)
  have ww6 := hw _ (List.mem_of_getElem? (i := 6) rfl)
  have ww50 := hw _ (List.mem_of_getElem? (i := 50) rfl)
  have ww51 := hw _ (List.mem_of_getElem? (i := 51) rfl)
  have ww52 := hw _ (List.mem_of_getElem? (i := 52) rfl)
  have ww53 := hw _ (List.mem_of_getElem? (i := 53) rfl)
  have ww54 := hw _ (List.mem_of_getElem? (i := 54) rfl)
  have ww55 := hw _ (List.mem_of_getElem? (i := 55) rfl)
  have ww56 := hw _ (List.mem_of_getElem? (i := 56) rfl)
  have ww57 := hw _ (List.mem_of_getElem? (i := 57) rfl)
  have ww58 := hw _ (List.mem_of_getElem? (i := 58) rfl)
  have ww59 := hw _ (List.mem_of_getElem? (i := 59) rfl)
  have ww60 := hw _ (List.mem_of_getElem? (i := 60) rfl)
  have ww61 := hw _ (List.mem_of_getElem? (i := 61) rfl)
  have ww62 := hw _ (List.mem_of_getElem? (i := 62) rfl)
  have ww63 := hw _ (List.mem_of_getElem? (i := 63) rfl)
  have ww64 := hw _ (List.mem_of_getElem? (i := 64) rfl)
  have ww65 := hw _ (List.mem_of_getElem? (i := 65) rfl)
  have ww66 := hw _ (List.mem_of_getElem? (i := 66) rfl)
  have ww67 := hw _ (List.mem_of_getElem? (i := 67) rfl)
  have ww68 := hw _ (List.mem_of_getElem? (i := 68) rfl)
  show own_G p e below s _ _ _ s₁ (mkF m _ (own_Lown_cutB33_0 sl0 sl1 w2 ar sl4 s0 sl7 ob ) _)
  refine own_s (g' := (mkF m 214 (own_Lown_cutB33_0 sl0 sl1 w2 ar sl4 s0 sl7 ob ) [(.int 3)])) (fun _ kz => XS.iload X0.here hx rfl (hb hby at_212) rfl kz) ?_
  refine own_s (g' := (mkF m 220 (own_Lown_cutB33_0 sl0 sl1 w2 ar sl4 s0 sl7 ob ) [])) (fun _ kz => XS.ifYes X0.here hx rfl (pc0 := 214) (pc' := 220) rfl (hb hby at_214) rfl ((if0 _ _).trans (feq ((by decide) : ¬ (3 : Int32) = (0 : Int32))).2) (by decide) (by decide) kz) ?_
  refine own_s (g' := (mkF m 222 (own_Lown_cutB33_0 sl0 sl1 w2 ar sl4 s0 sl7 ob ) [(.ref ob)])) (fun _ kz => XS.aload X0.here hx rfl (hb hby at_220) rfl rfl kz) ?_
  refine own_s (g' := (mkF m 224 (own_Lown_cutB33_0 sl0 sl1 w2 ar sl4 s0 sl7 ob ) [(.int 3), (.ref ob)])) (fun _ kz => XS.iload X0.here hx rfl (hb hby at_222) rfl kz) ?_
  have hi854 := own_inc (c := y2) hA2 hA6
  have hd855 := own_dec (c := y3) hA3 hA8
  by_cases c856 : (y3 - (1 : Int32)) = (0 : Int32)
  ·skip
   obtain ⟨cq857, kq857, q857a, q857b, q857c⟩ := isOf hZ e0 E_ob
   obtain ⟨_, _, ⟨T857, L857, k857, n857⟩, -, X857, ⟨Lc857, hQ857, l857, y857, z857⟩, st857⟩ := X0.virtualBack hx (y := (⟨"gallai/service/ResidualDegrees", "lower", "(I)V"⟩ : MethodName)) (z := (⟨"gallai/service/ResidualDegrees", "lower", "(I)V"⟩ : MethodName)) hown (mvT hZ ww50) (mvT hZ ww51) (notFace_of_selects (args := #[]) (mvT hZ ww53)) (mvT hZ ww53) (mvT hZ ww52) (by decide) (backOf (W := 0) (rm6L3d3 l Z a0 hw [] ob b0_countOf b0_atLeast (s0 - (1 : Int64)) b0_partnersOf b0_saved b0_slack b0_nextTight kc y0 y1 y2 y3 kx na x0 x1 x2 x3 x4 h0 n0 Z0 F_countOf_ob F_atLeast_ob F_sum_ob F_largest_ob F_partnersOf_ob F_saved_ob F_slack_ob F_nextTight_ob E_ob V_b0_countOf V_b0_atLeast g_b0_countOf g_b0_atLeast g_ob ne_ob_b0_countOf ne_b0_atLeast_b0_countOf ne_ob_b0_atLeast (hi854.1 : ¬ (y2 + (1 : Int32)) = (0 : Int32)) hna) hZ ww54 ww6 (by decide) (by decide)) q857a q857c (g := (mkF m 224 (own_Lown_cutB33_0 sl0 sl1 w2 ar sl4 s0 sl7 ob ) [(.int 3), (.ref ob)])) rfl (by rw [hml]; rfl) (Steps.refl _) (argsL := [(.int 3)]) (rest := []) (lenOf pd__I_V rfl) rfl (by show 2 * 0 + _ ≤ _; exact Nat.le_of_eq rfl) (hb hby at_224) (fun _ _ => ⟨rfl, e0, (by decide : 12 + 0 ≤ _), (by decide : 60 + 0 ≤ _)⟩)
   dsimp only [Pt.U, Pt.locs, Pt.cells, Pt.slots] at X857 l857 y857 z857 st857 hQ857
   subst l857 y857 z857
   obtain ⟨rfl, N857q, K857q, f858, f859, f860, f861, f862, f863, f864, f865, f866, f867, f868⟩ := hQ857
   have f869 : Fld Z T857.heap ob "gallai/service/ResidualDegrees" "largest" "I" (.int 2) := (show (w6L3d3_largest y3) = (2 : Int32) from (if_pos c856)) ▸ f868
   have K857 := K0.trans K857q (allS (Or.inl (List.mem_of_getElem? (i := 0) rfl)) (allS (Or.inl (List.mem_of_getElem? (i := 1) rfl)) (allS (Or.inl (List.mem_of_getElem? (i := 2) rfl)) all0)))
   have N857 := Fr.app N0 N857q
   refine own_trans (g' := (mkF m 227 (own_Lown_cutB33_0 sl0 sl1 w2 ar sl4 s0 sl7 ob ) [])) st857 ?_
   refine own_s (g' := (mkF m 228 (own_Lown_cutB33_0 sl0 sl1 w2 ar sl4 s0 sl7 ob ) [(.ref ar)])) (fun _ kz => XS.aloadN X857.here hx rfl (hb hby at_227) rfl rfl kz) ?_
   refine own_s (g' := (mkF m 230 (own_Lown_cutB33_0 sl0 sl1 w2 ar sl4 s0 sl7 ob ) [(.int 3), (.ref ar)])) (fun _ kz => XS.iload X857.here hx rfl (hb hby at_228) rfl kz) ?_
   refine own_s (g' := (mkF m 231 (own_Lown_cutB33_0 sl0 sl1 w2 ar sl4 s0 sl7 ob ) [(.ref ar), (.int 3), (.ref ar)])) (fun _ kz => XS.aloadN X857.here hx rfl (hb hby at_230) rfl rfl kz) ?_
   refine own_s (g' := (mkF m 233 (own_Lown_cutB33_0 sl0 sl1 w2 ar sl4 s0 sl7 ob ) [(.int 3), (.ref ar), (.int 3), (.ref ar)])) (fun _ kz => XS.iload X857.here hx rfl (hb hby at_231) rfl kz) ?_
   have f870 := (V_ar.keep K857q (ninS ne_ar_b0_countOf (ninS ne_ar_b0_atLeast (ninS ne_ar_ob nin0))))
   obtain ⟨cl871, Ar871, -, S871, -, H871, -⟩ := id f870
   have in871 := inb_of S871 (j := (3 : Int32)) ⟨by decide, by decide⟩
   refine own_s (g' := (mkF m 234 (own_Lown_cutB33_0 sl0 sl1 w2 ar sl4 s0 sl7 ob ) [(.int y3), (.int 3), (.ref ar)])) (X857.iaload hx (j := (3 : Int32)) (v := (.int y3)) Ar871.1 (State.isArrayOf_alike hZ.alike Ar871.2.1) Ar871.2.2 in871 (Has.at H871 in871 rfl) (g := (mkF m 233 (own_Lown_cutB33_0 sl0 sl1 w2 ar sl4 s0 sl7 ob ) [(.int 3), (.ref ar), (.int 3), (.ref ar)])) rfl rfl (hb hby at_233)) ?_
   refine own_s (g' := (mkF m 235 (own_Lown_cutB33_0 sl0 sl1 w2 ar sl4 s0 sl7 ob ) [(.int 1), (.int y3), (.int 3), (.ref ar)])) (fun _ kz => XS.iconst X857.here hx rfl (hb hby at_234) kz) ?_
   refine own_s (g' := (mkF m 236 (own_Lown_cutB33_0 sl0 sl1 w2 ar sl4 s0 sl7 ob ) [(.int (y3 - (1 : Int32))), (.int 3), (.ref ar)])) (fun _ kz => XS.isub X857.here hx rfl (hb hby at_235) rfl kz) ?_
   obtain ⟨cl872, Ar872, q872, S872, M872, H872, G872⟩ := id f870
   obtain ⟨T872, h872, X872, e872, W872, st872⟩ := stI X857 hx hZ rfl Ar872 (j := (3 : Int32)) (inb_of S872 ⟨by decide, by decide⟩) (g := (mkF m 236 (own_Lown_cutB33_0 sl0 sl1 w2 ar sl4 s0 sl7 ob ) [(.int (y3 - (1 : Int32))), (.int 3), (.ref ar)])) rfl rfl (hb hby at_236)
   have f873 : Arv Z h872 ar ky .int (4 : Int32) [(.int y0), (.int y1), (.int y2), (.int (y3 - (1 : Int32)))] (.int (0 : Int32)) := Arv.set Ar872 q872 S872 M872 H872 G872 rfl W872 3 rfl (Nat.le_of_ble_eq_true rfl)
   have K872 := K857.wr W872 (Or.inl (List.mem_of_getElem? (i := 3) rfl))
   have N872 := Fr.snoc X872 N857 g_ar
   refine own_s (g' := (mkF m 237 (own_Lown_cutB33_0 sl0 sl1 w2 ar sl4 s0 sl7 ob ) [])) st872 ?_
   refine own_s (g' := (mkF m 238 (own_Lown_cutB33_0 sl0 sl1 w2 ar sl4 s0 sl7 ob ) [(.ref ar)])) (fun _ kz => XS.aloadN X872.here hx rfl (hb hby at_237) rfl rfl kz) ?_
   refine own_s (g' := (mkF m 240 (own_Lown_cutB33_0 sl0 sl1 w2 ar sl4 s0 sl7 ob ) [(.int 3), (.ref ar)])) (fun _ kz => XS.iload X872.here hx rfl (hb hby at_238) rfl kz) ?_
   refine own_s (g' := (mkF m 241 (own_Lown_cutB33_0 sl0 sl1 w2 ar sl4 s0 sl7 ob ) [(.int 1), (.int 3), (.ref ar)])) (fun _ kz => XS.iconst X872.here hx rfl (hb hby at_240) kz) ?_
   refine own_s (g' := (mkF m 242 (own_Lown_cutB33_0 sl0 sl1 w2 ar sl4 s0 sl7 ob ) [(.int ((3 : Int32) - (1 : Int32))), (.ref ar)])) (fun _ kz => XS.isub X872.here hx rfl (hb hby at_241) rfl kz) ?_
   rw [show ((3 : Int32) - (1 : Int32)) = (2 : Int32) from by decide]
   refine own_s (g' := (mkF m 243 (own_Lown_cutB33_0 sl0 sl1 w2 ar sl4 s0 sl7 ob ) [(.ref ar), (.int 2), (.ref ar)])) (fun _ kz => XS.aloadN X872.here hx rfl (hb hby at_242) rfl rfl kz) ?_
   refine own_s (g' := (mkF m 245 (own_Lown_cutB33_0 sl0 sl1 w2 ar sl4 s0 sl7 ob ) [(.int 3), (.ref ar), (.int 2), (.ref ar)])) (fun _ kz => XS.iload X872.here hx rfl (hb hby at_243) rfl kz) ?_
   refine own_s (g' := (mkF m 246 (own_Lown_cutB33_0 sl0 sl1 w2 ar sl4 s0 sl7 ob ) [(.int 1), (.int 3), (.ref ar), (.int 2), (.ref ar)])) (fun _ kz => XS.iconst X872.here hx rfl (hb hby at_245) kz) ?_
   refine own_s (g' := (mkF m 247 (own_Lown_cutB33_0 sl0 sl1 w2 ar sl4 s0 sl7 ob ) [(.int ((3 : Int32) - (1 : Int32))), (.ref ar), (.int 2), (.ref ar)])) (fun _ kz => XS.isub X872.here hx rfl (hb hby at_246) rfl kz) ?_
   rw [show ((3 : Int32) - (1 : Int32)) = (2 : Int32) from by decide]
   obtain ⟨cl874, Ar874, -, S874, -, H874, -⟩ := id f873
   have in874 := inb_of S874 (j := (2 : Int32)) ⟨by decide, by decide⟩
   refine own_s (g' := (mkF m 248 (own_Lown_cutB33_0 sl0 sl1 w2 ar sl4 s0 sl7 ob ) [(.int y2), (.int 2), (.ref ar)])) (X872.iaload hx (j := (2 : Int32)) (v := (.int y2)) (by rw [e872]; exact Ar874.1) (State.isArrayOf_alike hZ.alike Ar874.2.1) Ar874.2.2 in874 (Has.at H874 in874 rfl) (g := (mkF m 247 (own_Lown_cutB33_0 sl0 sl1 w2 ar sl4 s0 sl7 ob ) [(.int 2), (.ref ar), (.int 2), (.ref ar)])) rfl rfl (hb hby at_247)) ?_
   refine own_s (g' := (mkF m 249 (own_Lown_cutB33_0 sl0 sl1 w2 ar sl4 s0 sl7 ob ) [(.int 1), (.int y2), (.int 2), (.ref ar)])) (fun _ kz => XS.iconst X872.here hx rfl (hb hby at_248) kz) ?_
   refine own_s (g' := (mkF m 250 (own_Lown_cutB33_0 sl0 sl1 w2 ar sl4 s0 sl7 ob ) [(.int (y2 + (1 : Int32))), (.int 2), (.ref ar)])) (fun _ kz => XS.iadd X872.here hx rfl (hb hby at_249) rfl kz) ?_
   obtain ⟨cl875, Ar875, q875, S875, M875, H875, G875⟩ := id f873
   obtain ⟨T875, h875, X875, e875, W875, st875⟩ := stI X872 hx hZ e872 Ar875 (j := (2 : Int32)) (inb_of S875 ⟨by decide, by decide⟩) (g := (mkF m 250 (own_Lown_cutB33_0 sl0 sl1 w2 ar sl4 s0 sl7 ob ) [(.int (y2 + (1 : Int32))), (.int 2), (.ref ar)])) rfl rfl (hb hby at_250)
   have f876 : Arv Z h875 ar ky .int (4 : Int32) [(.int y0), (.int y1), (.int (y2 + (1 : Int32))), (.int (y3 - (1 : Int32)))] (.int (0 : Int32)) := Arv.set Ar875 q875 S875 M875 H875 G875 rfl W875 2 rfl (Nat.le_of_ble_eq_true rfl)
   have K875 := K872.wr W875 (Or.inl (List.mem_of_getElem? (i := 3) rfl))
   have N875 := Fr.snoc X875 N872 g_ar
   refine own_s (g' := (mkF m 251 (own_Lown_cutB33_0 sl0 sl1 w2 ar sl4 s0 sl7 ob ) [])) st875 ?_
   refine own_s (g' := (mkF m 253 (own_Lown_cutB33_0 sl0 sl1 w2 ar sl4 s0 sl7 ob ) [(.int 1)])) (fun _ kz => XS.iload X875.here hx rfl (hb hby at_251) rfl kz) ?_
   refine own_s (g' := (mkF m 256 (own_Lown_cutB33_0 sl0 sl1 w2 ar sl4 s0 sl7 ob ) [])) (fun _ kz => XS.ifNo X875.here hx rfl (hb hby at_253) rfl ((if0 _ _).trans (feq ((by decide) : ¬ (1 : Int32) = (0 : Int32))).1) kz) ?_
   refine own_s (g' := (mkF m 258 (own_Lown_cutB33_0 sl0 sl1 w2 ar sl4 s0 sl7 ob ) [(.ref ob)])) (fun _ kz => XS.aload X875.here hx rfl (hb hby at_256) rfl rfl kz) ?_
   have f878 := ((f867.other W872 (Or.inl (Ne.symm ne_ar_ob))).other W875 (Or.inl (Ne.symm ne_ar_ob)))
   have f879 := ((f860.wr W872).wr W875)
   obtain ⟨cq877, kq877, q877a, q877b, q877c⟩ := isOf hZ e875 f879
   obtain ⟨_, _, ⟨T877, L877, k877, n877⟩, -, X877, ⟨Lc877, hQ877, l877, y877, z877⟩, st877⟩ := X875.virtualBack hx (y := (⟨"gallai/service/ResidualDegrees", "sum", "()J"⟩ : MethodName)) (z := (⟨"gallai/service/ResidualDegrees", "sum", "()J"⟩ : MethodName)) hown (mvT hZ ww55) (mvT hZ ww56) (notFace_of_selects (args := #[]) (mvT hZ ww58)) (mvT hZ ww58) (mvT hZ ww57) (by decide) (backOf (W := 0) (rm7 l Z a0 hw [] ob ((s0 - (1 : Int64)) - (1 : Int64)) h875 n0 (Nat.le_trans Z0 K875.1) f878) hZ ww59 ww6 (by decide) (by decide)) q877a q877c (g := (mkF m 258 (own_Lown_cutB33_0 sl0 sl1 w2 ar sl4 s0 sl7 ob ) [(.ref ob)])) rfl (by rw [hml]; rfl) (Steps.refl _) (argsL := []) (rest := []) (lenOf pd___J rfl) rfl (by show 2 * 0 + _ ≤ _; exact Nat.le_of_eq rfl) (hb hby at_258) (fun _ _ => ⟨rfl, e875, (by decide : 12 + 0 ≤ _), (by decide : 60 + 0 ≤ _)⟩)
   dsimp only [Pt.U, Pt.locs, Pt.cells, Pt.slots] at X877 l877 y877 z877 st877 hQ877
   subst l877 y877 z877
   obtain ⟨rfl, N877q, eh877⟩ := hQ877
   have N877 := Fr.app N875 N877q
   refine own_trans (g' := (mkF m 261 (own_Lown_cutB33_0 sl0 sl1 w2 ar sl4 s0 sl7 ob ) [(.long ((s0 - (1 : Int64)) - (1 : Int64)))])) st877 ?_
   refine own_s (g' := (mkF m 263 (own_Lown_cutB33_0 sl0 sl1 w2 ar sl4 s0 sl7 ob ) [(.long s0), (.long ((s0 - (1 : Int64)) - (1 : Int64)))])) (fun _ kz => XS.lload X877.here hx rfl (hb hby at_261) rfl kz) ?_
   refine own_s (g' := (mkF m 266 (own_Lown_cutB33_0 sl0 sl1 w2 ar sl4 s0 sl7 ob ) [(.long 2), (.long s0), (.long ((s0 - (1 : Int64)) - (1 : Int64)))])) (X877.ldc2Long hx hown (mvT hZ ww2) (g := (mkF m 263 (own_Lown_cutB33_0 sl0 sl1 w2 ar sl4 s0 sl7 ob ) [(.long s0), (.long ((s0 - (1 : Int64)) - (1 : Int64)))])) rfl (hb hby at_263)) ?_
   refine own_s (g' := (mkF m 267 (own_Lown_cutB33_0 sl0 sl1 w2 ar sl4 s0 sl7 ob ) [(.long (s0 - (2 : Int64))), (.long ((s0 - (1 : Int64)) - (1 : Int64)))])) (fun _ kz => XS.lsub X877.here hx rfl (hb hby at_266) rfl kz) ?_
   refine own_s (g' := (mkF m 268 (own_Lown_cutB33_0 sl0 sl1 w2 ar sl4 s0 sl7 ob ) [(.int (lcmpW ((s0 - (1 : Int64)) - (1 : Int64)) (s0 - (2 : Int64))))])) (fun _ kz => XS.lcmp X877.here hx rfl (hb hby at_267) rfl kz) ?_
   refine own_s (g' := (mkF m 271 (own_Lown_cutB33_0 sl0 sl1 w2 ar sl4 s0 sl7 ob ) [])) (fun _ kz => XS.ifNo X877.here hx rfl (hb hby at_268) rfl ((if0 _ _).trans (teq ((lw_eq ((s0 - (1 : Int64)) - (1 : Int64)) (s0 - (2 : Int64))).mpr (own_s2 _))).2) kz) ?_
   refine own_s (g' := (mkF m 273 (own_Lown_cutB33_0 sl0 sl1 w2 ar sl4 s0 sl7 ob ) [(.ref ob)])) (fun _ kz => XS.aload X877.here hx rfl (hb hby at_271) rfl rfl kz) ?_
   have f881 := ((f869.other W872 (Or.inl (Ne.symm ne_ar_ob))).other W875 (Or.inl (Ne.symm ne_ar_ob)))
   obtain ⟨cq880, kq880, q880a, q880b, q880c⟩ := isOf hZ eh877 f879
   obtain ⟨_, _, ⟨T880, L880, k880, n880⟩, -, X880, ⟨Lc880, hQ880, l880, y880, z880⟩, st880⟩ := X877.virtualBack hx (y := (⟨"gallai/service/ResidualDegrees", "largest", "()I"⟩ : MethodName)) (z := (⟨"gallai/service/ResidualDegrees", "largest", "()I"⟩ : MethodName)) hown (mvT hZ ww60) (mvT hZ ww61) (notFace_of_selects (args := #[]) (mvT hZ ww63)) (mvT hZ ww63) (mvT hZ ww62) (by decide) (backOf (W := 0) (rm8 l Z a0 hw [] ob (2 : Int32) h875 n0 (Nat.le_trans Z0 K875.1) f881) hZ ww64 ww6 (by decide) (by decide)) q880a q880c (g := (mkF m 273 (own_Lown_cutB33_0 sl0 sl1 w2 ar sl4 s0 sl7 ob ) [(.ref ob)])) rfl (by rw [hml]; rfl) (Steps.refl _) (argsL := []) (rest := []) (lenOf pd___I rfl) rfl (by show 2 * 0 + _ ≤ _; exact Nat.le_of_eq rfl) (hb hby at_273) (fun _ _ => ⟨rfl, eh877, (by decide : 12 + 0 ≤ _), (by decide : 60 + 0 ≤ _)⟩)
   dsimp only [Pt.U, Pt.locs, Pt.cells, Pt.slots] at X880 l880 y880 z880 st880 hQ880
   subst l880 y880 z880
   obtain ⟨rfl, N880q, eh880⟩ := hQ880
   have N880 := Fr.app N877 N880q
   refine own_trans (g' := (mkF m 276 (own_Lown_cutB33_0 sl0 sl1 w2 ar sl4 s0 sl7 ob ) [(.int 2)])) st880 ?_
   refine own_s (g' := (mkF m 277 (own_Lown_cutB33_0 sl0 sl1 w2 ar sl4 s0 sl7 ob ) [(.ref ar), (.int 2)])) (fun _ kz => XS.aloadN X880.here hx rfl (hb hby at_276) rfl rfl kz) ?_
   obtain ⟨_, _, ⟨T882, L882, k882, n882⟩, -, X882, ⟨Lc882, hQ882, l882, y882, z882⟩, st882⟩ := Jvm.LawKit.callS X880 hx (y := (⟨"gallai/service/ResidualDegreesLowerPinLaw", "top", "([I)I"⟩ : MethodName)) hown (mvT hZ ww65) (mvT hZ ww66) (mvT hZ ww67) (mvT hZ ww68) (by decide) (backOf (W := 1) (rm9 l Z a0 hw [] ar ky y0 y1 (y2 + (1 : Int32)) (y3 - (1 : Int32)) h875 n0 (Nat.le_trans Z0 K875.1) f876) hZ ww68 ww67 (by decide) (by decide)) (g := (mkF m 277 (own_Lown_cutB33_0 sl0 sl1 w2 ar sl4 s0 sl7 ob ) [(.ref ar), (.int 2)])) rfl (by rw [hml]; rfl) (argsL := [(.ref ar)]) (rest := [(.int 2)]) (lenOf pd___I_I rfl) rfl (by show 2 * 0 + _ ≤ _; exact Nat.le_of_eq rfl) (hb hby at_277) (fun _ _ => ⟨rfl, eh880, (by decide : 12 + 0 ≤ _), (by decide : 60 + 0 ≤ _)⟩)
   dsimp only [Pt.U, Pt.locs, Pt.cells, Pt.slots] at X882 l882 y882 z882 st882 hQ882
   subst l882 y882 z882
   obtain ⟨rfl, N882q, eh882⟩ := hQ882
   have N882 := Fr.app N880 N882q
   refine own_s (g' := (mkF m 280 (own_Lown_cutB33_0 sl0 sl1 w2 ar sl4 s0 sl7 ob ) [(.int (r9 y1 (y2 + (1 : Int32)) (y3 - (1 : Int32)))), (.int 2)])) st882 ?_
   rw [show (r9 y1 (y2 + (1 : Int32)) (y3 - (1 : Int32))) = (2 : Int32) from ((if_neg ((own_eqltI (Eq.symm c856)) : ¬ (0 : Int32) < (y3 - (1 : Int32)))).trans (if_pos (hi854.2.1 : (0 : Int32) < (y2 + (1 : Int32)))))]
   refine own_s (g' := (mkF m 283 (own_Lown_cutB33_0 sl0 sl1 w2 ar sl4 s0 sl7 ob ) [])) (fun _ kz => XS.icmpNo X882.here hx rfl (hb hby at_280) rfl (teq ((by decide) : (2 : Int32) = (2 : Int32))).2 kz) ?_
   refine own_s (g' := (mkF m 284 (own_Lown_cutB33_0 sl0 sl1 w2 ar sl4 s0 sl7 ob ) [(.int 1)])) (fun _ kz => XS.iconst X882.here hx rfl (hb hby at_283) kz) ?_
   refine own_s (g' := (mkF m 288 (own_Lown_cutB33_0 sl0 sl1 w2 ar sl4 s0 sl7 ob ) [(.int 1)])) (fun _ kz => XS.goto X882.here hx rfl (pc0 := 284) (pc' := 288) rfl (hb hby at_284) (by decide) (by decide) kz) ?_
   refine own_retN X882 hx hlk (t := .boolean) hret (by simp) (hb hby at_288) (z' := (1 : Int32)) (by decide) (by decide) (by decide) ?_
   exact ⟨rfl, N882⟩
  ·skip
   obtain ⟨cq883, kq883, q883a, q883b, q883c⟩ := isOf hZ e0 E_ob
   obtain ⟨_, _, ⟨T883, L883, k883, n883⟩, -, X883, ⟨Lc883, hQ883, l883, y883, z883⟩, st883⟩ := X0.virtualBack hx (y := (⟨"gallai/service/ResidualDegrees", "lower", "(I)V"⟩ : MethodName)) (z := (⟨"gallai/service/ResidualDegrees", "lower", "(I)V"⟩ : MethodName)) hown (mvT hZ ww50) (mvT hZ ww51) (notFace_of_selects (args := #[]) (mvT hZ ww53)) (mvT hZ ww53) (mvT hZ ww52) (by decide) (backOf (W := 0) (rm6L3d3 l Z a0 hw [] ob b0_countOf b0_atLeast (s0 - (1 : Int64)) b0_partnersOf b0_saved b0_slack b0_nextTight kc y0 y1 y2 y3 kx na x0 x1 x2 x3 x4 h0 n0 Z0 F_countOf_ob F_atLeast_ob F_sum_ob F_largest_ob F_partnersOf_ob F_saved_ob F_slack_ob F_nextTight_ob E_ob V_b0_countOf V_b0_atLeast g_b0_countOf g_b0_atLeast g_ob ne_ob_b0_countOf ne_b0_atLeast_b0_countOf ne_ob_b0_atLeast (hi854.1 : ¬ (y2 + (1 : Int32)) = (0 : Int32)) hna) hZ ww54 ww6 (by decide) (by decide)) q883a q883c (g := (mkF m 224 (own_Lown_cutB33_0 sl0 sl1 w2 ar sl4 s0 sl7 ob ) [(.int 3), (.ref ob)])) rfl (by rw [hml]; rfl) (Steps.refl _) (argsL := [(.int 3)]) (rest := []) (lenOf pd__I_V rfl) rfl (by show 2 * 0 + _ ≤ _; exact Nat.le_of_eq rfl) (hb hby at_224) (fun _ _ => ⟨rfl, e0, (by decide : 12 + 0 ≤ _), (by decide : 60 + 0 ≤ _)⟩)
   dsimp only [Pt.U, Pt.locs, Pt.cells, Pt.slots] at X883 l883 y883 z883 st883 hQ883
   subst l883 y883 z883
   obtain ⟨rfl, N883q, K883q, f884, f885, f886, f887, f888, f889, f890, f891, f892, f893, f894⟩ := hQ883
   have f895 : Fld Z T883.heap ob "gallai/service/ResidualDegrees" "largest" "I" (.int 3) := (show (w6L3d3_largest y3) = (3 : Int32) from (if_neg c856)) ▸ f894
   have K883 := K0.trans K883q (allS (Or.inl (List.mem_of_getElem? (i := 0) rfl)) (allS (Or.inl (List.mem_of_getElem? (i := 1) rfl)) (allS (Or.inl (List.mem_of_getElem? (i := 2) rfl)) all0)))
   have N883 := Fr.app N0 N883q
   refine own_trans (g' := (mkF m 227 (own_Lown_cutB33_0 sl0 sl1 w2 ar sl4 s0 sl7 ob ) [])) st883 ?_
   refine own_s (g' := (mkF m 228 (own_Lown_cutB33_0 sl0 sl1 w2 ar sl4 s0 sl7 ob ) [(.ref ar)])) (fun _ kz => XS.aloadN X883.here hx rfl (hb hby at_227) rfl rfl kz) ?_
   refine own_s (g' := (mkF m 230 (own_Lown_cutB33_0 sl0 sl1 w2 ar sl4 s0 sl7 ob ) [(.int 3), (.ref ar)])) (fun _ kz => XS.iload X883.here hx rfl (hb hby at_228) rfl kz) ?_
   refine own_s (g' := (mkF m 231 (own_Lown_cutB33_0 sl0 sl1 w2 ar sl4 s0 sl7 ob ) [(.ref ar), (.int 3), (.ref ar)])) (fun _ kz => XS.aloadN X883.here hx rfl (hb hby at_230) rfl rfl kz) ?_
   refine own_s (g' := (mkF m 233 (own_Lown_cutB33_0 sl0 sl1 w2 ar sl4 s0 sl7 ob ) [(.int 3), (.ref ar), (.int 3), (.ref ar)])) (fun _ kz => XS.iload X883.here hx rfl (hb hby at_231) rfl kz) ?_
   have f896 := (V_ar.keep K883q (ninS ne_ar_b0_countOf (ninS ne_ar_b0_atLeast (ninS ne_ar_ob nin0))))
   obtain ⟨cl897, Ar897, -, S897, -, H897, -⟩ := id f896
   have in897 := inb_of S897 (j := (3 : Int32)) ⟨by decide, by decide⟩
   refine own_s (g' := (mkF m 234 (own_Lown_cutB33_0 sl0 sl1 w2 ar sl4 s0 sl7 ob ) [(.int y3), (.int 3), (.ref ar)])) (X883.iaload hx (j := (3 : Int32)) (v := (.int y3)) Ar897.1 (State.isArrayOf_alike hZ.alike Ar897.2.1) Ar897.2.2 in897 (Has.at H897 in897 rfl) (g := (mkF m 233 (own_Lown_cutB33_0 sl0 sl1 w2 ar sl4 s0 sl7 ob ) [(.int 3), (.ref ar), (.int 3), (.ref ar)])) rfl rfl (hb hby at_233)) ?_
   refine own_s (g' := (mkF m 235 (own_Lown_cutB33_0 sl0 sl1 w2 ar sl4 s0 sl7 ob ) [(.int 1), (.int y3), (.int 3), (.ref ar)])) (fun _ kz => XS.iconst X883.here hx rfl (hb hby at_234) kz) ?_
   refine own_s (g' := (mkF m 236 (own_Lown_cutB33_0 sl0 sl1 w2 ar sl4 s0 sl7 ob ) [(.int (y3 - (1 : Int32))), (.int 3), (.ref ar)])) (fun _ kz => XS.isub X883.here hx rfl (hb hby at_235) rfl kz) ?_
   obtain ⟨cl898, Ar898, q898, S898, M898, H898, G898⟩ := id f896
   obtain ⟨T898, h898, X898, e898, W898, st898⟩ := stI X883 hx hZ rfl Ar898 (j := (3 : Int32)) (inb_of S898 ⟨by decide, by decide⟩) (g := (mkF m 236 (own_Lown_cutB33_0 sl0 sl1 w2 ar sl4 s0 sl7 ob ) [(.int (y3 - (1 : Int32))), (.int 3), (.ref ar)])) rfl rfl (hb hby at_236)
   have f899 : Arv Z h898 ar ky .int (4 : Int32) [(.int y0), (.int y1), (.int y2), (.int (y3 - (1 : Int32)))] (.int (0 : Int32)) := Arv.set Ar898 q898 S898 M898 H898 G898 rfl W898 3 rfl (Nat.le_of_ble_eq_true rfl)
   have K898 := K883.wr W898 (Or.inl (List.mem_of_getElem? (i := 3) rfl))
   have N898 := Fr.snoc X898 N883 g_ar
   refine own_s (g' := (mkF m 237 (own_Lown_cutB33_0 sl0 sl1 w2 ar sl4 s0 sl7 ob ) [])) st898 ?_
   refine own_s (g' := (mkF m 238 (own_Lown_cutB33_0 sl0 sl1 w2 ar sl4 s0 sl7 ob ) [(.ref ar)])) (fun _ kz => XS.aloadN X898.here hx rfl (hb hby at_237) rfl rfl kz) ?_
   refine own_s (g' := (mkF m 240 (own_Lown_cutB33_0 sl0 sl1 w2 ar sl4 s0 sl7 ob ) [(.int 3), (.ref ar)])) (fun _ kz => XS.iload X898.here hx rfl (hb hby at_238) rfl kz) ?_
   refine own_s (g' := (mkF m 241 (own_Lown_cutB33_0 sl0 sl1 w2 ar sl4 s0 sl7 ob ) [(.int 1), (.int 3), (.ref ar)])) (fun _ kz => XS.iconst X898.here hx rfl (hb hby at_240) kz) ?_
   refine own_s (g' := (mkF m 242 (own_Lown_cutB33_0 sl0 sl1 w2 ar sl4 s0 sl7 ob ) [(.int ((3 : Int32) - (1 : Int32))), (.ref ar)])) (fun _ kz => XS.isub X898.here hx rfl (hb hby at_241) rfl kz) ?_
   rw [show ((3 : Int32) - (1 : Int32)) = (2 : Int32) from by decide]
   refine own_s (g' := (mkF m 243 (own_Lown_cutB33_0 sl0 sl1 w2 ar sl4 s0 sl7 ob ) [(.ref ar), (.int 2), (.ref ar)])) (fun _ kz => XS.aloadN X898.here hx rfl (hb hby at_242) rfl rfl kz) ?_
   refine own_s (g' := (mkF m 245 (own_Lown_cutB33_0 sl0 sl1 w2 ar sl4 s0 sl7 ob ) [(.int 3), (.ref ar), (.int 2), (.ref ar)])) (fun _ kz => XS.iload X898.here hx rfl (hb hby at_243) rfl kz) ?_
   refine own_s (g' := (mkF m 246 (own_Lown_cutB33_0 sl0 sl1 w2 ar sl4 s0 sl7 ob ) [(.int 1), (.int 3), (.ref ar), (.int 2), (.ref ar)])) (fun _ kz => XS.iconst X898.here hx rfl (hb hby at_245) kz) ?_
   refine own_s (g' := (mkF m 247 (own_Lown_cutB33_0 sl0 sl1 w2 ar sl4 s0 sl7 ob ) [(.int ((3 : Int32) - (1 : Int32))), (.ref ar), (.int 2), (.ref ar)])) (fun _ kz => XS.isub X898.here hx rfl (hb hby at_246) rfl kz) ?_
   rw [show ((3 : Int32) - (1 : Int32)) = (2 : Int32) from by decide]
   obtain ⟨cl900, Ar900, -, S900, -, H900, -⟩ := id f899
   have in900 := inb_of S900 (j := (2 : Int32)) ⟨by decide, by decide⟩
   refine own_s (g' := (mkF m 248 (own_Lown_cutB33_0 sl0 sl1 w2 ar sl4 s0 sl7 ob ) [(.int y2), (.int 2), (.ref ar)])) (X898.iaload hx (j := (2 : Int32)) (v := (.int y2)) (by rw [e898]; exact Ar900.1) (State.isArrayOf_alike hZ.alike Ar900.2.1) Ar900.2.2 in900 (Has.at H900 in900 rfl) (g := (mkF m 247 (own_Lown_cutB33_0 sl0 sl1 w2 ar sl4 s0 sl7 ob ) [(.int 2), (.ref ar), (.int 2), (.ref ar)])) rfl rfl (hb hby at_247)) ?_
   refine own_s (g' := (mkF m 249 (own_Lown_cutB33_0 sl0 sl1 w2 ar sl4 s0 sl7 ob ) [(.int 1), (.int y2), (.int 2), (.ref ar)])) (fun _ kz => XS.iconst X898.here hx rfl (hb hby at_248) kz) ?_
   refine own_s (g' := (mkF m 250 (own_Lown_cutB33_0 sl0 sl1 w2 ar sl4 s0 sl7 ob ) [(.int (y2 + (1 : Int32))), (.int 2), (.ref ar)])) (fun _ kz => XS.iadd X898.here hx rfl (hb hby at_249) rfl kz) ?_
   obtain ⟨cl901, Ar901, q901, S901, M901, H901, G901⟩ := id f899
   obtain ⟨T901, h901, X901, e901, W901, st901⟩ := stI X898 hx hZ e898 Ar901 (j := (2 : Int32)) (inb_of S901 ⟨by decide, by decide⟩) (g := (mkF m 250 (own_Lown_cutB33_0 sl0 sl1 w2 ar sl4 s0 sl7 ob ) [(.int (y2 + (1 : Int32))), (.int 2), (.ref ar)])) rfl rfl (hb hby at_250)
   have f902 : Arv Z h901 ar ky .int (4 : Int32) [(.int y0), (.int y1), (.int (y2 + (1 : Int32))), (.int (y3 - (1 : Int32)))] (.int (0 : Int32)) := Arv.set Ar901 q901 S901 M901 H901 G901 rfl W901 2 rfl (Nat.le_of_ble_eq_true rfl)
   have K901 := K898.wr W901 (Or.inl (List.mem_of_getElem? (i := 3) rfl))
   have N901 := Fr.snoc X901 N898 g_ar
   refine own_s (g' := (mkF m 251 (own_Lown_cutB33_0 sl0 sl1 w2 ar sl4 s0 sl7 ob ) [])) st901 ?_
   refine own_s (g' := (mkF m 253 (own_Lown_cutB33_0 sl0 sl1 w2 ar sl4 s0 sl7 ob ) [(.int 1)])) (fun _ kz => XS.iload X901.here hx rfl (hb hby at_251) rfl kz) ?_
   refine own_s (g' := (mkF m 256 (own_Lown_cutB33_0 sl0 sl1 w2 ar sl4 s0 sl7 ob ) [])) (fun _ kz => XS.ifNo X901.here hx rfl (hb hby at_253) rfl ((if0 _ _).trans (feq ((by decide) : ¬ (1 : Int32) = (0 : Int32))).1) kz) ?_
   refine own_s (g' := (mkF m 258 (own_Lown_cutB33_0 sl0 sl1 w2 ar sl4 s0 sl7 ob ) [(.ref ob)])) (fun _ kz => XS.aload X901.here hx rfl (hb hby at_256) rfl rfl kz) ?_
   have f904 := ((f893.other W898 (Or.inl (Ne.symm ne_ar_ob))).other W901 (Or.inl (Ne.symm ne_ar_ob)))
   have f905 := ((f886.wr W898).wr W901)
   obtain ⟨cq903, kq903, q903a, q903b, q903c⟩ := isOf hZ e901 f905
   obtain ⟨_, _, ⟨T903, L903, k903, n903⟩, -, X903, ⟨Lc903, hQ903, l903, y903, z903⟩, st903⟩ := X901.virtualBack hx (y := (⟨"gallai/service/ResidualDegrees", "sum", "()J"⟩ : MethodName)) (z := (⟨"gallai/service/ResidualDegrees", "sum", "()J"⟩ : MethodName)) hown (mvT hZ ww55) (mvT hZ ww56) (notFace_of_selects (args := #[]) (mvT hZ ww58)) (mvT hZ ww58) (mvT hZ ww57) (by decide) (backOf (W := 0) (rm7 l Z a0 hw [] ob ((s0 - (1 : Int64)) - (1 : Int64)) h901 n0 (Nat.le_trans Z0 K901.1) f904) hZ ww59 ww6 (by decide) (by decide)) q903a q903c (g := (mkF m 258 (own_Lown_cutB33_0 sl0 sl1 w2 ar sl4 s0 sl7 ob ) [(.ref ob)])) rfl (by rw [hml]; rfl) (Steps.refl _) (argsL := []) (rest := []) (lenOf pd___J rfl) rfl (by show 2 * 0 + _ ≤ _; exact Nat.le_of_eq rfl) (hb hby at_258) (fun _ _ => ⟨rfl, e901, (by decide : 12 + 0 ≤ _), (by decide : 60 + 0 ≤ _)⟩)
   dsimp only [Pt.U, Pt.locs, Pt.cells, Pt.slots] at X903 l903 y903 z903 st903 hQ903
   subst l903 y903 z903
   obtain ⟨rfl, N903q, eh903⟩ := hQ903
   have N903 := Fr.app N901 N903q
   refine own_trans (g' := (mkF m 261 (own_Lown_cutB33_0 sl0 sl1 w2 ar sl4 s0 sl7 ob ) [(.long ((s0 - (1 : Int64)) - (1 : Int64)))])) st903 ?_
   refine own_s (g' := (mkF m 263 (own_Lown_cutB33_0 sl0 sl1 w2 ar sl4 s0 sl7 ob ) [(.long s0), (.long ((s0 - (1 : Int64)) - (1 : Int64)))])) (fun _ kz => XS.lload X903.here hx rfl (hb hby at_261) rfl kz) ?_
   refine own_s (g' := (mkF m 266 (own_Lown_cutB33_0 sl0 sl1 w2 ar sl4 s0 sl7 ob ) [(.long 2), (.long s0), (.long ((s0 - (1 : Int64)) - (1 : Int64)))])) (X903.ldc2Long hx hown (mvT hZ ww2) (g := (mkF m 263 (own_Lown_cutB33_0 sl0 sl1 w2 ar sl4 s0 sl7 ob ) [(.long s0), (.long ((s0 - (1 : Int64)) - (1 : Int64)))])) rfl (hb hby at_263)) ?_
   refine own_s (g' := (mkF m 267 (own_Lown_cutB33_0 sl0 sl1 w2 ar sl4 s0 sl7 ob ) [(.long (s0 - (2 : Int64))), (.long ((s0 - (1 : Int64)) - (1 : Int64)))])) (fun _ kz => XS.lsub X903.here hx rfl (hb hby at_266) rfl kz) ?_
   refine own_s (g' := (mkF m 268 (own_Lown_cutB33_0 sl0 sl1 w2 ar sl4 s0 sl7 ob ) [(.int (lcmpW ((s0 - (1 : Int64)) - (1 : Int64)) (s0 - (2 : Int64))))])) (fun _ kz => XS.lcmp X903.here hx rfl (hb hby at_267) rfl kz) ?_
   refine own_s (g' := (mkF m 271 (own_Lown_cutB33_0 sl0 sl1 w2 ar sl4 s0 sl7 ob ) [])) (fun _ kz => XS.ifNo X903.here hx rfl (hb hby at_268) rfl ((if0 _ _).trans (teq ((lw_eq ((s0 - (1 : Int64)) - (1 : Int64)) (s0 - (2 : Int64))).mpr (own_s2 _))).2) kz) ?_
   refine own_s (g' := (mkF m 273 (own_Lown_cutB33_0 sl0 sl1 w2 ar sl4 s0 sl7 ob ) [(.ref ob)])) (fun _ kz => XS.aload X903.here hx rfl (hb hby at_271) rfl rfl kz) ?_
   have f907 := ((f895.other W898 (Or.inl (Ne.symm ne_ar_ob))).other W901 (Or.inl (Ne.symm ne_ar_ob)))
   obtain ⟨cq906, kq906, q906a, q906b, q906c⟩ := isOf hZ eh903 f905
   obtain ⟨_, _, ⟨T906, L906, k906, n906⟩, -, X906, ⟨Lc906, hQ906, l906, y906, z906⟩, st906⟩ := X903.virtualBack hx (y := (⟨"gallai/service/ResidualDegrees", "largest", "()I"⟩ : MethodName)) (z := (⟨"gallai/service/ResidualDegrees", "largest", "()I"⟩ : MethodName)) hown (mvT hZ ww60) (mvT hZ ww61) (notFace_of_selects (args := #[]) (mvT hZ ww63)) (mvT hZ ww63) (mvT hZ ww62) (by decide) (backOf (W := 0) (rm8 l Z a0 hw [] ob (3 : Int32) h901 n0 (Nat.le_trans Z0 K901.1) f907) hZ ww64 ww6 (by decide) (by decide)) q906a q906c (g := (mkF m 273 (own_Lown_cutB33_0 sl0 sl1 w2 ar sl4 s0 sl7 ob ) [(.ref ob)])) rfl (by rw [hml]; rfl) (Steps.refl _) (argsL := []) (rest := []) (lenOf pd___I rfl) rfl (by show 2 * 0 + _ ≤ _; exact Nat.le_of_eq rfl) (hb hby at_273) (fun _ _ => ⟨rfl, eh903, (by decide : 12 + 0 ≤ _), (by decide : 60 + 0 ≤ _)⟩)
   dsimp only [Pt.U, Pt.locs, Pt.cells, Pt.slots] at X906 l906 y906 z906 st906 hQ906
   subst l906 y906 z906
   obtain ⟨rfl, N906q, eh906⟩ := hQ906
   have N906 := Fr.app N903 N906q
   refine own_trans (g' := (mkF m 276 (own_Lown_cutB33_0 sl0 sl1 w2 ar sl4 s0 sl7 ob ) [(.int 3)])) st906 ?_
   refine own_s (g' := (mkF m 277 (own_Lown_cutB33_0 sl0 sl1 w2 ar sl4 s0 sl7 ob ) [(.ref ar), (.int 3)])) (fun _ kz => XS.aloadN X906.here hx rfl (hb hby at_276) rfl rfl kz) ?_
   obtain ⟨_, _, ⟨T908, L908, k908, n908⟩, -, X908, ⟨Lc908, hQ908, l908, y908, z908⟩, st908⟩ := Jvm.LawKit.callS X906 hx (y := (⟨"gallai/service/ResidualDegreesLowerPinLaw", "top", "([I)I"⟩ : MethodName)) hown (mvT hZ ww65) (mvT hZ ww66) (mvT hZ ww67) (mvT hZ ww68) (by decide) (backOf (W := 1) (rm9 l Z a0 hw [] ar ky y0 y1 (y2 + (1 : Int32)) (y3 - (1 : Int32)) h901 n0 (Nat.le_trans Z0 K901.1) f902) hZ ww68 ww67 (by decide) (by decide)) (g := (mkF m 277 (own_Lown_cutB33_0 sl0 sl1 w2 ar sl4 s0 sl7 ob ) [(.ref ar), (.int 3)])) rfl (by rw [hml]; rfl) (argsL := [(.ref ar)]) (rest := [(.int 3)]) (lenOf pd___I_I rfl) rfl (by show 2 * 0 + _ ≤ _; exact Nat.le_of_eq rfl) (hb hby at_277) (fun _ _ => ⟨rfl, eh906, (by decide : 12 + 0 ≤ _), (by decide : 60 + 0 ≤ _)⟩)
   dsimp only [Pt.U, Pt.locs, Pt.cells, Pt.slots] at X908 l908 y908 z908 st908 hQ908
   subst l908 y908 z908
   obtain ⟨rfl, N908q, eh908⟩ := hQ908
   have N908 := Fr.app N906 N908q
   refine own_s (g' := (mkF m 280 (own_Lown_cutB33_0 sl0 sl1 w2 ar sl4 s0 sl7 ob ) [(.int (r9 y1 (y2 + (1 : Int32)) (y3 - (1 : Int32)))), (.int 3)])) st908 ?_
   rw [show (r9 y1 (y2 + (1 : Int32)) (y3 - (1 : Int32))) = (3 : Int32) from (if_pos ((own_triI (fun q => c856 q.symm) hd855) : (0 : Int32) < (y3 - (1 : Int32))))]
   refine own_s (g' := (mkF m 283 (own_Lown_cutB33_0 sl0 sl1 w2 ar sl4 s0 sl7 ob ) [])) (fun _ kz => XS.icmpNo X908.here hx rfl (hb hby at_280) rfl (teq ((by decide) : (3 : Int32) = (3 : Int32))).2 kz) ?_
   refine own_s (g' := (mkF m 284 (own_Lown_cutB33_0 sl0 sl1 w2 ar sl4 s0 sl7 ob ) [(.int 1)])) (fun _ kz => XS.iconst X908.here hx rfl (hb hby at_283) kz) ?_
   refine own_s (g' := (mkF m 288 (own_Lown_cutB33_0 sl0 sl1 w2 ar sl4 s0 sl7 ob ) [(.int 1)])) (fun _ kz => XS.goto X908.here hx rfl (pc0 := 284) (pc' := 288) rfl (hb hby at_284) (by decide) (by decide) kz) ?_
   refine own_retN X908 hx hlk (t := .boolean) hret (by simp) (hb hby at_288) (z' := (1 : Int32)) (by decide) (by decide) (by decide) ?_
   exact ⟨rfl, N908⟩
abbrev own_Lown_cutA0_0 (sl0 : Slot) (sl1 : Slot) (w2 : Int32) (ar : Addr) (sl4 : Slot) (s0 : Int64) (sl7 : Slot) (ob : Addr) (l10 : Slot) : Array Slot := #[sl0, sl1, .val (.int w2), .val (.ref ar), sl4, .val (.long s0), .second, sl7, .val (.ref ob), .val (.int 1), l10]
set_option maxRecDepth 65536 in
set_option maxHeartbeats 40000000 in
theorem own_cutA0 (l : Launch) (Z : State) (a0 : Array Value) (hw : ∀ d ∈ tables_1, d.before a0 Z = true) (sl0 : Slot) (sl1 : Slot) (w2 : Int32) (ar : Addr) (sl4 : Slot) (s0 : Int64) (sl7 : Slot) (ob : Addr) (ky : ClassId) (y0 : Int32) (y1 : Int32) (y2 : Int32) (y3 : Int32) {p : Program} {e : Env} {s : State} {m : MethodId} {args : Array Value} {below : List Frame} {meth : Method} {c : Code} {s₁ : State} {locs : List Loc}
    (X0 : Stand p l e room_1 s m args below meth c s₁ locs 12 60) (hx : p.tables.exec = Jvm.exec) (hZ : Z.Warmed39 s.vm) (hby : c.code = code) (hml : c.maxLocals = 11) (hown : s.vm.findClass "gallai/service/ResidualDegreesLowerPinLaw" = some m.cls) (hlk : meth.locks = false) (hret : meth.sig.returnType = some .boolean) (h0 : Heap) (n0 : Nat) (e0 : s₁.heap = h0) (Z0 : n0 ≤ h0.size) (N0 : Fr n0 locs) (V_ar : Arv Z h0 ar ky .int (4 : Int32) [(.int y0), (.int y1), (.int y2), (.int y3)] (.int (0 : Int32))) (hA0 : ¬ y0 < (0 : Int32)) (hA1 : ¬ y1 < (0 : Int32)) (hA2 : ¬ y2 < (0 : Int32)) (hA3 : ¬ y3 < (0 : Int32)) (hA4 : ¬ (20 : Int32) < y0) (hA5 : ¬ (20 : Int32) < y1) (hA6 : ¬ (20 : Int32) < y2) (hA7 : ¬ (20 : Int32) < y3) (hA8 : y3 = (0 : Int32)) (hA9 : y2 = (0 : Int32)) (hA10 : y1 = (0 : Int32)) :
    own_G p e below s (fun v h L => v = some (.int (1 : Int32)) ∧ Fr n0 L) 32 192 s₁ (mkF m 189 #[sl0, sl1, .val (.int w2), .val (.ref ar), sl4, .val (.long s0), .second, sl7, .val (.ref ob), .val (.int 1), .unset] []) := by
  have K0 : Keep h0 h0 [] := Keep.refl _ _
  have ww1 := hw _ (List.mem_of_getElem? (i := 1) rfl)
  have ww65 := hw _ (List.mem_of_getElem? (i := 65) rfl)
  have ww66 := hw _ (List.mem_of_getElem? (i := 66) rfl)
  have ww67 := hw _ (List.mem_of_getElem? (i := 67) rfl)
  have ww68 := hw _ (List.mem_of_getElem? (i := 68) rfl)
  show own_G p e below s _ _ _ s₁ (mkF m _ (own_Lown_cutA0_0 sl0 sl1 w2 ar sl4 s0 sl7 ob .unset) _)
  refine own_s (g' := (mkF m 190 (own_Lown_cutA0_0 sl0 sl1 w2 ar sl4 s0 sl7 ob .unset) [(.int 1)])) (fun _ kz => XS.iconst X0.here hx rfl (hb hby at_189) kz) ?_
  refine own_s (g' := (mkF m 191 (own_Lown_cutA0_0 sl0 sl1 w2 ar sl4 s0 sl7 ob .unset) [(.int w2), (.int 1)])) (fun _ kz => XS.iloadN X0.here hx rfl (hb hby at_190) rfl kz) ?_
  refine own_s (g' := (mkF m 193 (own_Lown_cutA0_0 sl0 sl1 w2 ar sl4 s0 sl7 ob .unset) [(.int 2147483647), (.int w2), (.int 1)])) (X0.ldcInt hx hown (mvT hZ ww1) (g := (mkF m 191 (own_Lown_cutA0_0 sl0 sl1 w2 ar sl4 s0 sl7 ob .unset) [(.int w2), (.int 1)])) rfl (hb hby at_191)) ?_
  refine own_s (g' := (mkF m 194 (own_Lown_cutA0_0 sl0 sl1 w2 ar sl4 s0 sl7 ob .unset) [(.int (w2 &&& (2147483647 : Int32))), (.int 1)])) (fun _ kz => XS.iand X0.here hx rfl (hb hby at_193) rfl kz) ?_
  refine own_s (g' := (mkF m 195 (own_Lown_cutA0_0 sl0 sl1 w2 ar sl4 s0 sl7 ob .unset) [(.int 3), (.int (w2 &&& (2147483647 : Int32))), (.int 1)])) (fun _ kz => XS.iconst X0.here hx rfl (hb hby at_194) kz) ?_
  refine own_s (g' := (mkF m 196 (own_Lown_cutA0_0 sl0 sl1 w2 ar sl4 s0 sl7 ob .unset) [(.int ((w2 &&& (2147483647 : Int32)) % (3 : Int32))), (.int 1)])) (fun _ kz => iremM X0 hx rfl (hb hby at_195) rfl (by decide) kz) ?_
  refine own_s (g' := (mkF m 197 (own_Lown_cutA0_0 sl0 sl1 w2 ar sl4 s0 sl7 ob .unset) [(.int ((1 : Int32) + ((w2 &&& (2147483647 : Int32)) % (3 : Int32))))])) (fun _ kz => XS.iadd X0.here hx rfl (hb hby at_196) rfl kz) ?_
  rcases own_d w2 with hd1 | hd1 | hd1
  ·skip
   rw [show ((1 : Int32) + ((w2 &&& (2147483647 : Int32)) % (3 : Int32))) = (1 : Int32) from hd1]
   refine own_s (g' := (mkF m 199 (own_Lown_cutA0_0 sl0 sl1 w2 ar sl4 s0 sl7 ob (.val (.int 1))) [])) (fun _ kz => XS.istore X0.here hx rfl (hb hby at_197) rfl (l' := (own_Lown_cutA0_0 sl0 sl1 w2 ar sl4 s0 sl7 ob (.val (.int 1)))) rfl kz) ?_
   refine own_s (g' := (mkF m 200 (own_Lown_cutA0_0 sl0 sl1 w2 ar sl4 s0 sl7 ob (.val (.int 1))) [(.ref ar)])) (fun _ kz => XS.aloadN X0.here hx rfl (hb hby at_199) rfl rfl kz) ?_
   refine own_s (g' := (mkF m 202 (own_Lown_cutA0_0 sl0 sl1 w2 ar sl4 s0 sl7 ob (.val (.int 1))) [(.int 1), (.ref ar)])) (fun _ kz => XS.iload X0.here hx rfl (hb hby at_200) rfl kz) ?_
   obtain ⟨cl909, Ar909, -, S909, -, H909, -⟩ := id V_ar
   have in909 := inb_of S909 (j := (1 : Int32)) ⟨by decide, by decide⟩
   refine own_s (g' := (mkF m 203 (own_Lown_cutA0_0 sl0 sl1 w2 ar sl4 s0 sl7 ob (.val (.int 1))) [(.int y1)])) (X0.iaload hx (j := (1 : Int32)) (v := (.int y1)) (by rw [e0]; exact Ar909.1) (State.isArrayOf_alike hZ.alike Ar909.2.1) Ar909.2.2 in909 (Has.at H909 in909 rfl) (g := (mkF m 202 (own_Lown_cutA0_0 sl0 sl1 w2 ar sl4 s0 sl7 ob (.val (.int 1))) [(.int 1), (.ref ar)])) rfl rfl (hb hby at_202)) ?_
   refine own_s (g' := (mkF m 206 (own_Lown_cutA0_0 sl0 sl1 w2 ar sl4 s0 sl7 ob (.val (.int 1))) [])) (fun _ kz => XS.ifNo X0.here hx rfl (hb hby at_203) rfl ((if0 _ _).trans (teq hA10).2) kz) ?_
   refine own_s (g' := (mkF m 207 (own_Lown_cutA0_0 sl0 sl1 w2 ar sl4 s0 sl7 ob (.val (.int 1))) [(.ref ar)])) (fun _ kz => XS.aloadN X0.here hx rfl (hb hby at_206) rfl rfl kz) ?_
   obtain ⟨_, _, ⟨T910, L910, k910, n910⟩, -, X910, ⟨Lc910, hQ910, l910, y910, z910⟩, st910⟩ := Jvm.LawKit.callS X0 hx (y := (⟨"gallai/service/ResidualDegreesLowerPinLaw", "top", "([I)I"⟩ : MethodName)) hown (mvT hZ ww65) (mvT hZ ww66) (mvT hZ ww67) (mvT hZ ww68) (by decide) (backOf (W := 0) (rm9 l Z a0 hw [] ar ky y0 y1 y2 y3 h0 n0 Z0 V_ar) hZ ww68 ww67 (by decide) (by decide)) (g := (mkF m 207 (own_Lown_cutA0_0 sl0 sl1 w2 ar sl4 s0 sl7 ob (.val (.int 1))) [(.ref ar)])) rfl (by rw [hml]; rfl) (argsL := [(.ref ar)]) (rest := []) (lenOf pd___I_I rfl) rfl (by show 2 * 0 + _ ≤ _; exact Nat.le_of_eq rfl) (hb hby at_207) (fun _ _ => ⟨rfl, e0, (by decide : 12 + 0 ≤ _), (by decide : 60 + 0 ≤ _)⟩)
   dsimp only [Pt.U, Pt.locs, Pt.cells, Pt.slots] at X910 l910 y910 z910 st910 hQ910
   subst l910 y910 z910
   obtain ⟨rfl, N910q, eh910⟩ := hQ910
   have N910 := Fr.app N0 N910q
   refine own_s (g' := (mkF m 210 (own_Lown_cutA0_0 sl0 sl1 w2 ar sl4 s0 sl7 ob (.val (.int 1))) [(.int (r9 y1 y2 y3))])) st910 ?_
   rw [show (r9 y1 y2 y3) = (0 : Int32) from ((if_neg ((own_eqltI (Eq.symm hA8)) : ¬ (0 : Int32) < y3)).trans ((if_neg ((own_eqltI (Eq.symm hA9)) : ¬ (0 : Int32) < y2)).trans (if_neg ((own_eqltI (Eq.symm hA10)) : ¬ (0 : Int32) < y1))))]
   refine own_s (g' := (mkF m 212 (own_Lown_cutA0_0 sl0 sl1 w2 ar sl4 s0 sl7 ob (.val (.int 0))) [])) (fun _ kz => XS.istore X910.here hx rfl (hb hby at_210) rfl (l' := (own_Lown_cutA0_0 sl0 sl1 w2 ar sl4 s0 sl7 ob (.val (.int 0)))) rfl kz) ?_
   refine own_s (g' := (mkF m 214 (own_Lown_cutA0_0 sl0 sl1 w2 ar sl4 s0 sl7 ob (.val (.int 0))) [(.int 0)])) (fun _ kz => XS.iload X910.here hx rfl (hb hby at_212) rfl kz) ?_
   refine own_s (g' := (mkF m 217 (own_Lown_cutA0_0 sl0 sl1 w2 ar sl4 s0 sl7 ob (.val (.int 0))) [])) (fun _ kz => XS.ifNo X910.here hx rfl (hb hby at_214) rfl ((if0 _ _).trans (teq ((by decide) : (0 : Int32) = (0 : Int32))).2) kz) ?_
   refine own_s (g' := (mkF m 219 (own_Lown_cutA0_0 sl0 sl1 w2 ar sl4 s0 sl7 ob (.val (.int 0))) [(.int 1)])) (fun _ kz => XS.iload X910.here hx rfl (hb hby at_217) rfl kz) ?_
   refine own_retN X910 hx hlk (t := .boolean) hret (by simp) (hb hby at_219) (z' := (1 : Int32)) (by decide) (by decide) (by decide) ?_
   exact ⟨rfl, N910⟩
  ·skip
   rw [show ((1 : Int32) + ((w2 &&& (2147483647 : Int32)) % (3 : Int32))) = (2 : Int32) from hd1]
   refine own_s (g' := (mkF m 199 (own_Lown_cutA0_0 sl0 sl1 w2 ar sl4 s0 sl7 ob (.val (.int 2))) [])) (fun _ kz => XS.istore X0.here hx rfl (hb hby at_197) rfl (l' := (own_Lown_cutA0_0 sl0 sl1 w2 ar sl4 s0 sl7 ob (.val (.int 2)))) rfl kz) ?_
   refine own_s (g' := (mkF m 200 (own_Lown_cutA0_0 sl0 sl1 w2 ar sl4 s0 sl7 ob (.val (.int 2))) [(.ref ar)])) (fun _ kz => XS.aloadN X0.here hx rfl (hb hby at_199) rfl rfl kz) ?_
   refine own_s (g' := (mkF m 202 (own_Lown_cutA0_0 sl0 sl1 w2 ar sl4 s0 sl7 ob (.val (.int 2))) [(.int 2), (.ref ar)])) (fun _ kz => XS.iload X0.here hx rfl (hb hby at_200) rfl kz) ?_
   obtain ⟨cl911, Ar911, -, S911, -, H911, -⟩ := id V_ar
   have in911 := inb_of S911 (j := (2 : Int32)) ⟨by decide, by decide⟩
   refine own_s (g' := (mkF m 203 (own_Lown_cutA0_0 sl0 sl1 w2 ar sl4 s0 sl7 ob (.val (.int 2))) [(.int y2)])) (X0.iaload hx (j := (2 : Int32)) (v := (.int y2)) (by rw [e0]; exact Ar911.1) (State.isArrayOf_alike hZ.alike Ar911.2.1) Ar911.2.2 in911 (Has.at H911 in911 rfl) (g := (mkF m 202 (own_Lown_cutA0_0 sl0 sl1 w2 ar sl4 s0 sl7 ob (.val (.int 2))) [(.int 2), (.ref ar)])) rfl rfl (hb hby at_202)) ?_
   refine own_s (g' := (mkF m 206 (own_Lown_cutA0_0 sl0 sl1 w2 ar sl4 s0 sl7 ob (.val (.int 2))) [])) (fun _ kz => XS.ifNo X0.here hx rfl (hb hby at_203) rfl ((if0 _ _).trans (teq hA9).2) kz) ?_
   refine own_s (g' := (mkF m 207 (own_Lown_cutA0_0 sl0 sl1 w2 ar sl4 s0 sl7 ob (.val (.int 2))) [(.ref ar)])) (fun _ kz => XS.aloadN X0.here hx rfl (hb hby at_206) rfl rfl kz) ?_
   obtain ⟨_, _, ⟨T912, L912, k912, n912⟩, -, X912, ⟨Lc912, hQ912, l912, y912, z912⟩, st912⟩ := Jvm.LawKit.callS X0 hx (y := (⟨"gallai/service/ResidualDegreesLowerPinLaw", "top", "([I)I"⟩ : MethodName)) hown (mvT hZ ww65) (mvT hZ ww66) (mvT hZ ww67) (mvT hZ ww68) (by decide) (backOf (W := 0) (rm9 l Z a0 hw [] ar ky y0 y1 y2 y3 h0 n0 Z0 V_ar) hZ ww68 ww67 (by decide) (by decide)) (g := (mkF m 207 (own_Lown_cutA0_0 sl0 sl1 w2 ar sl4 s0 sl7 ob (.val (.int 2))) [(.ref ar)])) rfl (by rw [hml]; rfl) (argsL := [(.ref ar)]) (rest := []) (lenOf pd___I_I rfl) rfl (by show 2 * 0 + _ ≤ _; exact Nat.le_of_eq rfl) (hb hby at_207) (fun _ _ => ⟨rfl, e0, (by decide : 12 + 0 ≤ _), (by decide : 60 + 0 ≤ _)⟩)
   dsimp only [Pt.U, Pt.locs, Pt.cells, Pt.slots] at X912 l912 y912 z912 st912 hQ912
   subst l912 y912 z912
   obtain ⟨rfl, N912q, eh912⟩ := hQ912
   have N912 := Fr.app N0 N912q
   refine own_s (g' := (mkF m 210 (own_Lown_cutA0_0 sl0 sl1 w2 ar sl4 s0 sl7 ob (.val (.int 2))) [(.int (r9 y1 y2 y3))])) st912 ?_
   rw [show (r9 y1 y2 y3) = (0 : Int32) from ((if_neg ((own_eqltI (Eq.symm hA8)) : ¬ (0 : Int32) < y3)).trans ((if_neg ((own_eqltI (Eq.symm hA9)) : ¬ (0 : Int32) < y2)).trans (if_neg ((own_eqltI (Eq.symm hA10)) : ¬ (0 : Int32) < y1))))]
   refine own_s (g' := (mkF m 212 (own_Lown_cutA0_0 sl0 sl1 w2 ar sl4 s0 sl7 ob (.val (.int 0))) [])) (fun _ kz => XS.istore X912.here hx rfl (hb hby at_210) rfl (l' := (own_Lown_cutA0_0 sl0 sl1 w2 ar sl4 s0 sl7 ob (.val (.int 0)))) rfl kz) ?_
   refine own_s (g' := (mkF m 214 (own_Lown_cutA0_0 sl0 sl1 w2 ar sl4 s0 sl7 ob (.val (.int 0))) [(.int 0)])) (fun _ kz => XS.iload X912.here hx rfl (hb hby at_212) rfl kz) ?_
   refine own_s (g' := (mkF m 217 (own_Lown_cutA0_0 sl0 sl1 w2 ar sl4 s0 sl7 ob (.val (.int 0))) [])) (fun _ kz => XS.ifNo X912.here hx rfl (hb hby at_214) rfl ((if0 _ _).trans (teq ((by decide) : (0 : Int32) = (0 : Int32))).2) kz) ?_
   refine own_s (g' := (mkF m 219 (own_Lown_cutA0_0 sl0 sl1 w2 ar sl4 s0 sl7 ob (.val (.int 0))) [(.int 1)])) (fun _ kz => XS.iload X912.here hx rfl (hb hby at_217) rfl kz) ?_
   refine own_retN X912 hx hlk (t := .boolean) hret (by simp) (hb hby at_219) (z' := (1 : Int32)) (by decide) (by decide) (by decide) ?_
   exact ⟨rfl, N912⟩
  ·skip
   rw [show ((1 : Int32) + ((w2 &&& (2147483647 : Int32)) % (3 : Int32))) = (3 : Int32) from hd1]
   refine own_s (g' := (mkF m 199 (own_Lown_cutA0_0 sl0 sl1 w2 ar sl4 s0 sl7 ob (.val (.int 3))) [])) (fun _ kz => XS.istore X0.here hx rfl (hb hby at_197) rfl (l' := (own_Lown_cutA0_0 sl0 sl1 w2 ar sl4 s0 sl7 ob (.val (.int 3)))) rfl kz) ?_
   refine own_s (g' := (mkF m 200 (own_Lown_cutA0_0 sl0 sl1 w2 ar sl4 s0 sl7 ob (.val (.int 3))) [(.ref ar)])) (fun _ kz => XS.aloadN X0.here hx rfl (hb hby at_199) rfl rfl kz) ?_
   refine own_s (g' := (mkF m 202 (own_Lown_cutA0_0 sl0 sl1 w2 ar sl4 s0 sl7 ob (.val (.int 3))) [(.int 3), (.ref ar)])) (fun _ kz => XS.iload X0.here hx rfl (hb hby at_200) rfl kz) ?_
   obtain ⟨cl913, Ar913, -, S913, -, H913, -⟩ := id V_ar
   have in913 := inb_of S913 (j := (3 : Int32)) ⟨by decide, by decide⟩
   refine own_s (g' := (mkF m 203 (own_Lown_cutA0_0 sl0 sl1 w2 ar sl4 s0 sl7 ob (.val (.int 3))) [(.int y3)])) (X0.iaload hx (j := (3 : Int32)) (v := (.int y3)) (by rw [e0]; exact Ar913.1) (State.isArrayOf_alike hZ.alike Ar913.2.1) Ar913.2.2 in913 (Has.at H913 in913 rfl) (g := (mkF m 202 (own_Lown_cutA0_0 sl0 sl1 w2 ar sl4 s0 sl7 ob (.val (.int 3))) [(.int 3), (.ref ar)])) rfl rfl (hb hby at_202)) ?_
   refine own_s (g' := (mkF m 206 (own_Lown_cutA0_0 sl0 sl1 w2 ar sl4 s0 sl7 ob (.val (.int 3))) [])) (fun _ kz => XS.ifNo X0.here hx rfl (hb hby at_203) rfl ((if0 _ _).trans (teq hA8).2) kz) ?_
   refine own_s (g' := (mkF m 207 (own_Lown_cutA0_0 sl0 sl1 w2 ar sl4 s0 sl7 ob (.val (.int 3))) [(.ref ar)])) (fun _ kz => XS.aloadN X0.here hx rfl (hb hby at_206) rfl rfl kz) ?_
   obtain ⟨_, _, ⟨T914, L914, k914, n914⟩, -, X914, ⟨Lc914, hQ914, l914, y914, z914⟩, st914⟩ := Jvm.LawKit.callS X0 hx (y := (⟨"gallai/service/ResidualDegreesLowerPinLaw", "top", "([I)I"⟩ : MethodName)) hown (mvT hZ ww65) (mvT hZ ww66) (mvT hZ ww67) (mvT hZ ww68) (by decide) (backOf (W := 0) (rm9 l Z a0 hw [] ar ky y0 y1 y2 y3 h0 n0 Z0 V_ar) hZ ww68 ww67 (by decide) (by decide)) (g := (mkF m 207 (own_Lown_cutA0_0 sl0 sl1 w2 ar sl4 s0 sl7 ob (.val (.int 3))) [(.ref ar)])) rfl (by rw [hml]; rfl) (argsL := [(.ref ar)]) (rest := []) (lenOf pd___I_I rfl) rfl (by show 2 * 0 + _ ≤ _; exact Nat.le_of_eq rfl) (hb hby at_207) (fun _ _ => ⟨rfl, e0, (by decide : 12 + 0 ≤ _), (by decide : 60 + 0 ≤ _)⟩)
   dsimp only [Pt.U, Pt.locs, Pt.cells, Pt.slots] at X914 l914 y914 z914 st914 hQ914
   subst l914 y914 z914
   obtain ⟨rfl, N914q, eh914⟩ := hQ914
   have N914 := Fr.app N0 N914q
   refine own_s (g' := (mkF m 210 (own_Lown_cutA0_0 sl0 sl1 w2 ar sl4 s0 sl7 ob (.val (.int 3))) [(.int (r9 y1 y2 y3))])) st914 ?_
   rw [show (r9 y1 y2 y3) = (0 : Int32) from ((if_neg ((own_eqltI (Eq.symm hA8)) : ¬ (0 : Int32) < y3)).trans ((if_neg ((own_eqltI (Eq.symm hA9)) : ¬ (0 : Int32) < y2)).trans (if_neg ((own_eqltI (Eq.symm hA10)) : ¬ (0 : Int32) < y1))))]
   refine own_s (g' := (mkF m 212 (own_Lown_cutA0_0 sl0 sl1 w2 ar sl4 s0 sl7 ob (.val (.int 0))) [])) (fun _ kz => XS.istore X914.here hx rfl (hb hby at_210) rfl (l' := (own_Lown_cutA0_0 sl0 sl1 w2 ar sl4 s0 sl7 ob (.val (.int 0)))) rfl kz) ?_
   refine own_s (g' := (mkF m 214 (own_Lown_cutA0_0 sl0 sl1 w2 ar sl4 s0 sl7 ob (.val (.int 0))) [(.int 0)])) (fun _ kz => XS.iload X914.here hx rfl (hb hby at_212) rfl kz) ?_
   refine own_s (g' := (mkF m 217 (own_Lown_cutA0_0 sl0 sl1 w2 ar sl4 s0 sl7 ob (.val (.int 0))) [])) (fun _ kz => XS.ifNo X914.here hx rfl (hb hby at_214) rfl ((if0 _ _).trans (teq ((by decide) : (0 : Int32) = (0 : Int32))).2) kz) ?_
   refine own_s (g' := (mkF m 219 (own_Lown_cutA0_0 sl0 sl1 w2 ar sl4 s0 sl7 ob (.val (.int 0))) [(.int 1)])) (fun _ kz => XS.iload X914.here hx rfl (hb hby at_217) rfl kz) ?_
   refine own_retN X914 hx hlk (t := .boolean) hret (by simp) (hb hby at_219) (z' := (1 : Int32)) (by decide) (by decide) (by decide) ?_
   exact ⟨rfl, N914⟩
abbrev own_Lown_cutA1_0 (sl0 : Slot) (sl1 : Slot) (w2 : Int32) (ar : Addr) (sl4 : Slot) (s0 : Int64) (sl7 : Slot) (ob : Addr) (l10 : Slot) : Array Slot := #[sl0, sl1, .val (.int w2), .val (.ref ar), sl4, .val (.long s0), .second, sl7, .val (.ref ob), .val (.int 1), l10]
set_option maxRecDepth 65536 in
set_option maxHeartbeats 40000000 in
theorem own_cutA1 (l : Launch) (Z : State) (a0 : Array Value) (hw : ∀ d ∈ tables_1, d.before a0 Z = true) (sl0 : Slot) (sl1 : Slot) (w2 : Int32) (ar : Addr) (sl4 : Slot) (s0 : Int64) (sl7 : Slot) (ob : Addr) (b0_countOf : Addr) (b0_atLeast : Addr) (b0_partnersOf : Addr) (b0_saved : Addr) (b0_slack : Addr) (b0_nextTight : Addr) (ky : ClassId) (y0 : Int32) (y1 : Int32) (y2 : Int32) (y3 : Int32) (kc : ClassId) (kx : ClassId) (na : Int32) (x0 : Int32) (x1 : Int32) (x2 : Int32) (x3 : Int32) (x4 : Int32) {p : Program} {e : Env} {s : State} {m : MethodId} {args : Array Value} {below : List Frame} {meth : Method} {c : Code} {s₁ : State} {locs : List Loc}
    (X0 : Stand p l e room_1 s m args below meth c s₁ locs 12 60) (hx : p.tables.exec = Jvm.exec) (hZ : Z.Warmed39 s.vm) (hby : c.code = code) (hml : c.maxLocals = 11) (hown : s.vm.findClass "gallai/service/ResidualDegreesLowerPinLaw" = some m.cls) (hlk : meth.locks = false) (hret : meth.sig.returnType = some .boolean) (h0 : Heap) (n0 : Nat) (e0 : s₁.heap = h0) (Z0 : n0 ≤ h0.size) (N0 : Fr n0 locs) (F_countOf_ob : Fld Z h0 ob "gallai/service/ResidualDegrees" "countOf" "[I" (.ref b0_countOf)) (F_atLeast_ob : Fld Z h0 ob "gallai/service/ResidualDegrees" "atLeast" "[I" (.ref b0_atLeast)) (F_sum_ob : Fld Z h0 ob "gallai/service/ResidualDegrees" "sum" "J" (.long (s0 - (1 : Int64)))) (F_largest_ob : Fld Z h0 ob "gallai/service/ResidualDegrees" "largest" "I" (.int 1)) (F_partnersOf_ob : Fld Z h0 ob "gallai/service/ResidualDegrees" "partnersOf" "[I" (.ref b0_partnersOf)) (F_saved_ob : Fld Z h0 ob "gallai/service/ResidualDegrees" "saved" "[I" (.ref b0_saved)) (F_slack_ob : Fld Z h0 ob "gallai/service/ResidualDegrees" "slack" "[J" (.ref b0_slack)) (F_nextTight_ob : Fld Z h0 ob "gallai/service/ResidualDegrees" "nextTight" "[I" (.ref b0_nextTight)) (E_ob : Exa Z h0 ob "gallai/service/ResidualDegrees") (V_ar : Arv Z h0 ar ky .int (4 : Int32) [(.int y0), (.int y1), (.int y2), (.int y3)] (.int (0 : Int32))) (V_b0_countOf : Arv Z h0 b0_countOf kc .int (4 : Int32) [(.int y0), (.int y1), (.int y2), (.int y3)] (.int (0 : Int32))) (V_b0_atLeast : Arv Z h0 b0_atLeast kx .int na [(.int x0), (.int x1), (.int x2), (.int x3), (.int x4)] (.int (0 : Int32))) (g_b0_countOf : n0 ≤ b0_countOf) (g_b0_atLeast : n0 ≤ b0_atLeast) (g_ob : n0 ≤ ob) (g_ar : n0 ≤ ar) (ne_ob_b0_countOf : ob ≠ b0_countOf) (ne_b0_atLeast_b0_countOf : b0_atLeast ≠ b0_countOf) (ne_ob_b0_atLeast : ob ≠ b0_atLeast) (ne_ar_b0_countOf : ar ≠ b0_countOf) (ne_ar_b0_atLeast : ar ≠ b0_atLeast) (ne_ar_ob : ar ≠ ob) (hA0 : ¬ y0 < (0 : Int32)) (hA1 : ¬ y1 < (0 : Int32)) (hA2 : ¬ y2 < (0 : Int32)) (hA3 : ¬ y3 < (0 : Int32)) (hA4 : ¬ (20 : Int32) < y0) (hA5 : ¬ (20 : Int32) < y1) (hA6 : ¬ (20 : Int32) < y2) (hA7 : ¬ (20 : Int32) < y3) (hA8 : y3 = (0 : Int32)) (hA9 : y2 = (0 : Int32)) (hA10 : ¬ y1 = (0 : Int32)) (hna1 : (1 : Int32) < na) :
    own_G p e below s (fun v h L => v = some (.int (1 : Int32)) ∧ Fr n0 L) 32 192 s₁ (mkF m 189 #[sl0, sl1, .val (.int w2), .val (.ref ar), sl4, .val (.long s0), .second, sl7, .val (.ref ob), .val (.int 1), .unset] []) := by
  have K0 : Keep h0 h0 [] := Keep.refl _ _
  have ww1 := hw _ (List.mem_of_getElem? (i := 1) rfl)
  have ww65 := hw _ (List.mem_of_getElem? (i := 65) rfl)
  have ww66 := hw _ (List.mem_of_getElem? (i := 66) rfl)
  have ww67 := hw _ (List.mem_of_getElem? (i := 67) rfl)
  have ww68 := hw _ (List.mem_of_getElem? (i := 68) rfl)
  show own_G p e below s _ _ _ s₁ (mkF m _ (own_Lown_cutA1_0 sl0 sl1 w2 ar sl4 s0 sl7 ob .unset) _)
  refine own_s (g' := (mkF m 190 (own_Lown_cutA1_0 sl0 sl1 w2 ar sl4 s0 sl7 ob .unset) [(.int 1)])) (fun _ kz => XS.iconst X0.here hx rfl (hb hby at_189) kz) ?_
  refine own_s (g' := (mkF m 191 (own_Lown_cutA1_0 sl0 sl1 w2 ar sl4 s0 sl7 ob .unset) [(.int w2), (.int 1)])) (fun _ kz => XS.iloadN X0.here hx rfl (hb hby at_190) rfl kz) ?_
  refine own_s (g' := (mkF m 193 (own_Lown_cutA1_0 sl0 sl1 w2 ar sl4 s0 sl7 ob .unset) [(.int 2147483647), (.int w2), (.int 1)])) (X0.ldcInt hx hown (mvT hZ ww1) (g := (mkF m 191 (own_Lown_cutA1_0 sl0 sl1 w2 ar sl4 s0 sl7 ob .unset) [(.int w2), (.int 1)])) rfl (hb hby at_191)) ?_
  refine own_s (g' := (mkF m 194 (own_Lown_cutA1_0 sl0 sl1 w2 ar sl4 s0 sl7 ob .unset) [(.int (w2 &&& (2147483647 : Int32))), (.int 1)])) (fun _ kz => XS.iand X0.here hx rfl (hb hby at_193) rfl kz) ?_
  refine own_s (g' := (mkF m 195 (own_Lown_cutA1_0 sl0 sl1 w2 ar sl4 s0 sl7 ob .unset) [(.int 3), (.int (w2 &&& (2147483647 : Int32))), (.int 1)])) (fun _ kz => XS.iconst X0.here hx rfl (hb hby at_194) kz) ?_
  refine own_s (g' := (mkF m 196 (own_Lown_cutA1_0 sl0 sl1 w2 ar sl4 s0 sl7 ob .unset) [(.int ((w2 &&& (2147483647 : Int32)) % (3 : Int32))), (.int 1)])) (fun _ kz => iremM X0 hx rfl (hb hby at_195) rfl (by decide) kz) ?_
  refine own_s (g' := (mkF m 197 (own_Lown_cutA1_0 sl0 sl1 w2 ar sl4 s0 sl7 ob .unset) [(.int ((1 : Int32) + ((w2 &&& (2147483647 : Int32)) % (3 : Int32))))])) (fun _ kz => XS.iadd X0.here hx rfl (hb hby at_196) rfl kz) ?_
  rcases own_d w2 with hd1 | hd1 | hd1
  ·skip
   rw [show ((1 : Int32) + ((w2 &&& (2147483647 : Int32)) % (3 : Int32))) = (1 : Int32) from hd1]
   refine own_s (g' := (mkF m 199 (own_Lown_cutA1_0 sl0 sl1 w2 ar sl4 s0 sl7 ob (.val (.int 1))) [])) (fun _ kz => XS.istore X0.here hx rfl (hb hby at_197) rfl (l' := (own_Lown_cutA1_0 sl0 sl1 w2 ar sl4 s0 sl7 ob (.val (.int 1)))) rfl kz) ?_
   refine own_s (g' := (mkF m 200 (own_Lown_cutA1_0 sl0 sl1 w2 ar sl4 s0 sl7 ob (.val (.int 1))) [(.ref ar)])) (fun _ kz => XS.aloadN X0.here hx rfl (hb hby at_199) rfl rfl kz) ?_
   refine own_s (g' := (mkF m 202 (own_Lown_cutA1_0 sl0 sl1 w2 ar sl4 s0 sl7 ob (.val (.int 1))) [(.int 1), (.ref ar)])) (fun _ kz => XS.iload X0.here hx rfl (hb hby at_200) rfl kz) ?_
   obtain ⟨cl915, Ar915, -, S915, -, H915, -⟩ := id V_ar
   have in915 := inb_of S915 (j := (1 : Int32)) ⟨by decide, by decide⟩
   refine own_s (g' := (mkF m 203 (own_Lown_cutA1_0 sl0 sl1 w2 ar sl4 s0 sl7 ob (.val (.int 1))) [(.int y1)])) (X0.iaload hx (j := (1 : Int32)) (v := (.int y1)) (by rw [e0]; exact Ar915.1) (State.isArrayOf_alike hZ.alike Ar915.2.1) Ar915.2.2 in915 (Has.at H915 in915 rfl) (g := (mkF m 202 (own_Lown_cutA1_0 sl0 sl1 w2 ar sl4 s0 sl7 ob (.val (.int 1))) [(.int 1), (.ref ar)])) rfl rfl (hb hby at_202)) ?_
   refine own_s (g' := (mkF m 212 (own_Lown_cutA1_0 sl0 sl1 w2 ar sl4 s0 sl7 ob (.val (.int 1))) [])) (fun _ kz => XS.ifYes X0.here hx rfl (pc0 := 203) (pc' := 212) rfl (hb hby at_203) rfl ((if0 _ _).trans (feq hA10).2) (by decide) (by decide) kz) ?_
   exact own_cutB11 l Z a0 hw (sl0) (sl1) w2 ar (sl4) s0 (sl7) ob b0_countOf b0_atLeast b0_partnersOf b0_saved b0_slack b0_nextTight kc y0 y1 y2 y3 kx na x0 x1 x2 x3 x4 ky (X0.more (by decide) (by decide)) hx hZ hby hml hown hlk hret h0 n0 e0 Z0 N0 F_countOf_ob F_atLeast_ob F_sum_ob F_largest_ob F_partnersOf_ob F_saved_ob F_slack_ob F_nextTight_ob E_ob V_b0_countOf V_b0_atLeast V_ar g_b0_countOf g_b0_atLeast g_ob g_ar ne_ob_b0_countOf ne_b0_atLeast_b0_countOf ne_ob_b0_atLeast ne_ar_b0_countOf ne_ar_b0_atLeast ne_ar_ob hA0 hA1 hA2 hA3 hA4 hA5 hA6 hA7 hA8 hA9 hA10 hna1
  ·skip
   rw [show ((1 : Int32) + ((w2 &&& (2147483647 : Int32)) % (3 : Int32))) = (2 : Int32) from hd1]
   refine own_s (g' := (mkF m 199 (own_Lown_cutA1_0 sl0 sl1 w2 ar sl4 s0 sl7 ob (.val (.int 2))) [])) (fun _ kz => XS.istore X0.here hx rfl (hb hby at_197) rfl (l' := (own_Lown_cutA1_0 sl0 sl1 w2 ar sl4 s0 sl7 ob (.val (.int 2)))) rfl kz) ?_
   refine own_s (g' := (mkF m 200 (own_Lown_cutA1_0 sl0 sl1 w2 ar sl4 s0 sl7 ob (.val (.int 2))) [(.ref ar)])) (fun _ kz => XS.aloadN X0.here hx rfl (hb hby at_199) rfl rfl kz) ?_
   refine own_s (g' := (mkF m 202 (own_Lown_cutA1_0 sl0 sl1 w2 ar sl4 s0 sl7 ob (.val (.int 2))) [(.int 2), (.ref ar)])) (fun _ kz => XS.iload X0.here hx rfl (hb hby at_200) rfl kz) ?_
   obtain ⟨cl916, Ar916, -, S916, -, H916, -⟩ := id V_ar
   have in916 := inb_of S916 (j := (2 : Int32)) ⟨by decide, by decide⟩
   refine own_s (g' := (mkF m 203 (own_Lown_cutA1_0 sl0 sl1 w2 ar sl4 s0 sl7 ob (.val (.int 2))) [(.int y2)])) (X0.iaload hx (j := (2 : Int32)) (v := (.int y2)) (by rw [e0]; exact Ar916.1) (State.isArrayOf_alike hZ.alike Ar916.2.1) Ar916.2.2 in916 (Has.at H916 in916 rfl) (g := (mkF m 202 (own_Lown_cutA1_0 sl0 sl1 w2 ar sl4 s0 sl7 ob (.val (.int 2))) [(.int 2), (.ref ar)])) rfl rfl (hb hby at_202)) ?_
   refine own_s (g' := (mkF m 206 (own_Lown_cutA1_0 sl0 sl1 w2 ar sl4 s0 sl7 ob (.val (.int 2))) [])) (fun _ kz => XS.ifNo X0.here hx rfl (hb hby at_203) rfl ((if0 _ _).trans (teq hA9).2) kz) ?_
   refine own_s (g' := (mkF m 207 (own_Lown_cutA1_0 sl0 sl1 w2 ar sl4 s0 sl7 ob (.val (.int 2))) [(.ref ar)])) (fun _ kz => XS.aloadN X0.here hx rfl (hb hby at_206) rfl rfl kz) ?_
   obtain ⟨_, _, ⟨T917, L917, k917, n917⟩, -, X917, ⟨Lc917, hQ917, l917, y917, z917⟩, st917⟩ := Jvm.LawKit.callS X0 hx (y := (⟨"gallai/service/ResidualDegreesLowerPinLaw", "top", "([I)I"⟩ : MethodName)) hown (mvT hZ ww65) (mvT hZ ww66) (mvT hZ ww67) (mvT hZ ww68) (by decide) (backOf (W := 0) (rm9 l Z a0 hw [] ar ky y0 y1 y2 y3 h0 n0 Z0 V_ar) hZ ww68 ww67 (by decide) (by decide)) (g := (mkF m 207 (own_Lown_cutA1_0 sl0 sl1 w2 ar sl4 s0 sl7 ob (.val (.int 2))) [(.ref ar)])) rfl (by rw [hml]; rfl) (argsL := [(.ref ar)]) (rest := []) (lenOf pd___I_I rfl) rfl (by show 2 * 0 + _ ≤ _; exact Nat.le_of_eq rfl) (hb hby at_207) (fun _ _ => ⟨rfl, e0, (by decide : 12 + 0 ≤ _), (by decide : 60 + 0 ≤ _)⟩)
   dsimp only [Pt.U, Pt.locs, Pt.cells, Pt.slots] at X917 l917 y917 z917 st917 hQ917
   subst l917 y917 z917
   obtain ⟨rfl, N917q, eh917⟩ := hQ917
   have N917 := Fr.app N0 N917q
   refine own_s (g' := (mkF m 210 (own_Lown_cutA1_0 sl0 sl1 w2 ar sl4 s0 sl7 ob (.val (.int 2))) [(.int (r9 y1 y2 y3))])) st917 ?_
   rw [show (r9 y1 y2 y3) = (1 : Int32) from ((if_neg ((own_eqltI (Eq.symm hA8)) : ¬ (0 : Int32) < y3)).trans ((if_neg ((own_eqltI (Eq.symm hA9)) : ¬ (0 : Int32) < y2)).trans (if_pos ((own_triI (fun q => hA10 q.symm) hA1) : (0 : Int32) < y1))))]
   refine own_s (g' := (mkF m 212 (own_Lown_cutA1_0 sl0 sl1 w2 ar sl4 s0 sl7 ob (.val (.int 1))) [])) (fun _ kz => XS.istore X917.here hx rfl (hb hby at_210) rfl (l' := (own_Lown_cutA1_0 sl0 sl1 w2 ar sl4 s0 sl7 ob (.val (.int 1)))) rfl kz) ?_
   exact own_cutB11 l Z a0 hw (sl0) (sl1) w2 ar (sl4) s0 (sl7) ob b0_countOf b0_atLeast b0_partnersOf b0_saved b0_slack b0_nextTight kc y0 y1 y2 y3 kx na x0 x1 x2 x3 x4 ky (X917.more (by decide) (by decide)) hx hZ hby hml hown hlk hret h0 n0 eh917 Z0 N917 F_countOf_ob F_atLeast_ob F_sum_ob F_largest_ob F_partnersOf_ob F_saved_ob F_slack_ob F_nextTight_ob E_ob V_b0_countOf V_b0_atLeast V_ar g_b0_countOf g_b0_atLeast g_ob g_ar ne_ob_b0_countOf ne_b0_atLeast_b0_countOf ne_ob_b0_atLeast ne_ar_b0_countOf ne_ar_b0_atLeast ne_ar_ob hA0 hA1 hA2 hA3 hA4 hA5 hA6 hA7 hA8 hA9 hA10 hna1
  ·skip
   rw [show ((1 : Int32) + ((w2 &&& (2147483647 : Int32)) % (3 : Int32))) = (3 : Int32) from hd1]
   refine own_s (g' := (mkF m 199 (own_Lown_cutA1_0 sl0 sl1 w2 ar sl4 s0 sl7 ob (.val (.int 3))) [])) (fun _ kz => XS.istore X0.here hx rfl (hb hby at_197) rfl (l' := (own_Lown_cutA1_0 sl0 sl1 w2 ar sl4 s0 sl7 ob (.val (.int 3)))) rfl kz) ?_
   refine own_s (g' := (mkF m 200 (own_Lown_cutA1_0 sl0 sl1 w2 ar sl4 s0 sl7 ob (.val (.int 3))) [(.ref ar)])) (fun _ kz => XS.aloadN X0.here hx rfl (hb hby at_199) rfl rfl kz) ?_
   refine own_s (g' := (mkF m 202 (own_Lown_cutA1_0 sl0 sl1 w2 ar sl4 s0 sl7 ob (.val (.int 3))) [(.int 3), (.ref ar)])) (fun _ kz => XS.iload X0.here hx rfl (hb hby at_200) rfl kz) ?_
   obtain ⟨cl918, Ar918, -, S918, -, H918, -⟩ := id V_ar
   have in918 := inb_of S918 (j := (3 : Int32)) ⟨by decide, by decide⟩
   refine own_s (g' := (mkF m 203 (own_Lown_cutA1_0 sl0 sl1 w2 ar sl4 s0 sl7 ob (.val (.int 3))) [(.int y3)])) (X0.iaload hx (j := (3 : Int32)) (v := (.int y3)) (by rw [e0]; exact Ar918.1) (State.isArrayOf_alike hZ.alike Ar918.2.1) Ar918.2.2 in918 (Has.at H918 in918 rfl) (g := (mkF m 202 (own_Lown_cutA1_0 sl0 sl1 w2 ar sl4 s0 sl7 ob (.val (.int 3))) [(.int 3), (.ref ar)])) rfl rfl (hb hby at_202)) ?_
   refine own_s (g' := (mkF m 206 (own_Lown_cutA1_0 sl0 sl1 w2 ar sl4 s0 sl7 ob (.val (.int 3))) [])) (fun _ kz => XS.ifNo X0.here hx rfl (hb hby at_203) rfl ((if0 _ _).trans (teq hA8).2) kz) ?_
   refine own_s (g' := (mkF m 207 (own_Lown_cutA1_0 sl0 sl1 w2 ar sl4 s0 sl7 ob (.val (.int 3))) [(.ref ar)])) (fun _ kz => XS.aloadN X0.here hx rfl (hb hby at_206) rfl rfl kz) ?_
   obtain ⟨_, _, ⟨T919, L919, k919, n919⟩, -, X919, ⟨Lc919, hQ919, l919, y919, z919⟩, st919⟩ := Jvm.LawKit.callS X0 hx (y := (⟨"gallai/service/ResidualDegreesLowerPinLaw", "top", "([I)I"⟩ : MethodName)) hown (mvT hZ ww65) (mvT hZ ww66) (mvT hZ ww67) (mvT hZ ww68) (by decide) (backOf (W := 0) (rm9 l Z a0 hw [] ar ky y0 y1 y2 y3 h0 n0 Z0 V_ar) hZ ww68 ww67 (by decide) (by decide)) (g := (mkF m 207 (own_Lown_cutA1_0 sl0 sl1 w2 ar sl4 s0 sl7 ob (.val (.int 3))) [(.ref ar)])) rfl (by rw [hml]; rfl) (argsL := [(.ref ar)]) (rest := []) (lenOf pd___I_I rfl) rfl (by show 2 * 0 + _ ≤ _; exact Nat.le_of_eq rfl) (hb hby at_207) (fun _ _ => ⟨rfl, e0, (by decide : 12 + 0 ≤ _), (by decide : 60 + 0 ≤ _)⟩)
   dsimp only [Pt.U, Pt.locs, Pt.cells, Pt.slots] at X919 l919 y919 z919 st919 hQ919
   subst l919 y919 z919
   obtain ⟨rfl, N919q, eh919⟩ := hQ919
   have N919 := Fr.app N0 N919q
   refine own_s (g' := (mkF m 210 (own_Lown_cutA1_0 sl0 sl1 w2 ar sl4 s0 sl7 ob (.val (.int 3))) [(.int (r9 y1 y2 y3))])) st919 ?_
   rw [show (r9 y1 y2 y3) = (1 : Int32) from ((if_neg ((own_eqltI (Eq.symm hA8)) : ¬ (0 : Int32) < y3)).trans ((if_neg ((own_eqltI (Eq.symm hA9)) : ¬ (0 : Int32) < y2)).trans (if_pos ((own_triI (fun q => hA10 q.symm) hA1) : (0 : Int32) < y1))))]
   refine own_s (g' := (mkF m 212 (own_Lown_cutA1_0 sl0 sl1 w2 ar sl4 s0 sl7 ob (.val (.int 1))) [])) (fun _ kz => XS.istore X919.here hx rfl (hb hby at_210) rfl (l' := (own_Lown_cutA1_0 sl0 sl1 w2 ar sl4 s0 sl7 ob (.val (.int 1)))) rfl kz) ?_
   exact own_cutB11 l Z a0 hw (sl0) (sl1) w2 ar (sl4) s0 (sl7) ob b0_countOf b0_atLeast b0_partnersOf b0_saved b0_slack b0_nextTight kc y0 y1 y2 y3 kx na x0 x1 x2 x3 x4 ky (X919.more (by decide) (by decide)) hx hZ hby hml hown hlk hret h0 n0 eh919 Z0 N919 F_countOf_ob F_atLeast_ob F_sum_ob F_largest_ob F_partnersOf_ob F_saved_ob F_slack_ob F_nextTight_ob E_ob V_b0_countOf V_b0_atLeast V_ar g_b0_countOf g_b0_atLeast g_ob g_ar ne_ob_b0_countOf ne_b0_atLeast_b0_countOf ne_ob_b0_atLeast ne_ar_b0_countOf ne_ar_b0_atLeast ne_ar_ob hA0 hA1 hA2 hA3 hA4 hA5 hA6 hA7 hA8 hA9 hA10 hna1
abbrev own_Lown_cutA2_0 (sl0 : Slot) (sl1 : Slot) (w2 : Int32) (ar : Addr) (sl4 : Slot) (s0 : Int64) (sl7 : Slot) (ob : Addr) (l10 : Slot) : Array Slot := #[sl0, sl1, .val (.int w2), .val (.ref ar), sl4, .val (.long s0), .second, sl7, .val (.ref ob), .val (.int 1), l10]
set_option maxRecDepth 65536 in
set_option maxHeartbeats 40000000 in
theorem own_cutA2 (l : Launch) (Z : State) (a0 : Array Value) (hw : ∀ d ∈ tables_1, d.before a0 Z = true) (sl0 : Slot) (sl1 : Slot) (w2 : Int32) (ar : Addr) (sl4 : Slot) (s0 : Int64) (sl7 : Slot) (ob : Addr) (b0_countOf : Addr) (b0_atLeast : Addr) (b0_partnersOf : Addr) (b0_saved : Addr) (b0_slack : Addr) (b0_nextTight : Addr) (ky : ClassId) (y0 : Int32) (y1 : Int32) (y2 : Int32) (y3 : Int32) (kc : ClassId) (kx : ClassId) (na : Int32) (x0 : Int32) (x1 : Int32) (x2 : Int32) (x3 : Int32) (x4 : Int32) {p : Program} {e : Env} {s : State} {m : MethodId} {args : Array Value} {below : List Frame} {meth : Method} {c : Code} {s₁ : State} {locs : List Loc}
    (X0 : Stand p l e room_1 s m args below meth c s₁ locs 12 60) (hx : p.tables.exec = Jvm.exec) (hZ : Z.Warmed39 s.vm) (hby : c.code = code) (hml : c.maxLocals = 11) (hown : s.vm.findClass "gallai/service/ResidualDegreesLowerPinLaw" = some m.cls) (hlk : meth.locks = false) (hret : meth.sig.returnType = some .boolean) (h0 : Heap) (n0 : Nat) (e0 : s₁.heap = h0) (Z0 : n0 ≤ h0.size) (N0 : Fr n0 locs) (F_countOf_ob : Fld Z h0 ob "gallai/service/ResidualDegrees" "countOf" "[I" (.ref b0_countOf)) (F_atLeast_ob : Fld Z h0 ob "gallai/service/ResidualDegrees" "atLeast" "[I" (.ref b0_atLeast)) (F_sum_ob : Fld Z h0 ob "gallai/service/ResidualDegrees" "sum" "J" (.long (s0 - (1 : Int64)))) (F_largest_ob : Fld Z h0 ob "gallai/service/ResidualDegrees" "largest" "I" (.int 2)) (F_partnersOf_ob : Fld Z h0 ob "gallai/service/ResidualDegrees" "partnersOf" "[I" (.ref b0_partnersOf)) (F_saved_ob : Fld Z h0 ob "gallai/service/ResidualDegrees" "saved" "[I" (.ref b0_saved)) (F_slack_ob : Fld Z h0 ob "gallai/service/ResidualDegrees" "slack" "[J" (.ref b0_slack)) (F_nextTight_ob : Fld Z h0 ob "gallai/service/ResidualDegrees" "nextTight" "[I" (.ref b0_nextTight)) (E_ob : Exa Z h0 ob "gallai/service/ResidualDegrees") (V_ar : Arv Z h0 ar ky .int (4 : Int32) [(.int y0), (.int y1), (.int y2), (.int y3)] (.int (0 : Int32))) (V_b0_countOf : Arv Z h0 b0_countOf kc .int (4 : Int32) [(.int y0), (.int y1), (.int y2), (.int y3)] (.int (0 : Int32))) (V_b0_atLeast : Arv Z h0 b0_atLeast kx .int na [(.int x0), (.int x1), (.int x2), (.int x3), (.int x4)] (.int (0 : Int32))) (g_b0_countOf : n0 ≤ b0_countOf) (g_b0_atLeast : n0 ≤ b0_atLeast) (g_ob : n0 ≤ ob) (g_ar : n0 ≤ ar) (ne_ob_b0_countOf : ob ≠ b0_countOf) (ne_b0_atLeast_b0_countOf : b0_atLeast ≠ b0_countOf) (ne_ob_b0_atLeast : ob ≠ b0_atLeast) (ne_ar_b0_countOf : ar ≠ b0_countOf) (ne_ar_b0_atLeast : ar ≠ b0_atLeast) (ne_ar_ob : ar ≠ ob) (hA0 : ¬ y0 < (0 : Int32)) (hA1 : ¬ y1 < (0 : Int32)) (hA2 : ¬ y2 < (0 : Int32)) (hA3 : ¬ y3 < (0 : Int32)) (hA4 : ¬ (20 : Int32) < y0) (hA5 : ¬ (20 : Int32) < y1) (hA6 : ¬ (20 : Int32) < y2) (hA7 : ¬ (20 : Int32) < y3) (hA8 : y3 = (0 : Int32)) (hA9 : ¬ y2 = (0 : Int32)) (hna1 : (1 : Int32) < na) (hna2 : (2 : Int32) < na) :
    own_G p e below s (fun v h L => v = some (.int (1 : Int32)) ∧ Fr n0 L) 32 192 s₁ (mkF m 189 #[sl0, sl1, .val (.int w2), .val (.ref ar), sl4, .val (.long s0), .second, sl7, .val (.ref ob), .val (.int 1), .unset] []) := by
  have K0 : Keep h0 h0 [] := Keep.refl _ _
  have ww1 := hw _ (List.mem_of_getElem? (i := 1) rfl)
  have ww65 := hw _ (List.mem_of_getElem? (i := 65) rfl)
  have ww66 := hw _ (List.mem_of_getElem? (i := 66) rfl)
  have ww67 := hw _ (List.mem_of_getElem? (i := 67) rfl)
  have ww68 := hw _ (List.mem_of_getElem? (i := 68) rfl)
  show own_G p e below s _ _ _ s₁ (mkF m _ (own_Lown_cutA2_0 sl0 sl1 w2 ar sl4 s0 sl7 ob .unset) _)
  refine own_s (g' := (mkF m 190 (own_Lown_cutA2_0 sl0 sl1 w2 ar sl4 s0 sl7 ob .unset) [(.int 1)])) (fun _ kz => XS.iconst X0.here hx rfl (hb hby at_189) kz) ?_
  refine own_s (g' := (mkF m 191 (own_Lown_cutA2_0 sl0 sl1 w2 ar sl4 s0 sl7 ob .unset) [(.int w2), (.int 1)])) (fun _ kz => XS.iloadN X0.here hx rfl (hb hby at_190) rfl kz) ?_
  refine own_s (g' := (mkF m 193 (own_Lown_cutA2_0 sl0 sl1 w2 ar sl4 s0 sl7 ob .unset) [(.int 2147483647), (.int w2), (.int 1)])) (X0.ldcInt hx hown (mvT hZ ww1) (g := (mkF m 191 (own_Lown_cutA2_0 sl0 sl1 w2 ar sl4 s0 sl7 ob .unset) [(.int w2), (.int 1)])) rfl (hb hby at_191)) ?_
  refine own_s (g' := (mkF m 194 (own_Lown_cutA2_0 sl0 sl1 w2 ar sl4 s0 sl7 ob .unset) [(.int (w2 &&& (2147483647 : Int32))), (.int 1)])) (fun _ kz => XS.iand X0.here hx rfl (hb hby at_193) rfl kz) ?_
  refine own_s (g' := (mkF m 195 (own_Lown_cutA2_0 sl0 sl1 w2 ar sl4 s0 sl7 ob .unset) [(.int 3), (.int (w2 &&& (2147483647 : Int32))), (.int 1)])) (fun _ kz => XS.iconst X0.here hx rfl (hb hby at_194) kz) ?_
  refine own_s (g' := (mkF m 196 (own_Lown_cutA2_0 sl0 sl1 w2 ar sl4 s0 sl7 ob .unset) [(.int ((w2 &&& (2147483647 : Int32)) % (3 : Int32))), (.int 1)])) (fun _ kz => iremM X0 hx rfl (hb hby at_195) rfl (by decide) kz) ?_
  refine own_s (g' := (mkF m 197 (own_Lown_cutA2_0 sl0 sl1 w2 ar sl4 s0 sl7 ob .unset) [(.int ((1 : Int32) + ((w2 &&& (2147483647 : Int32)) % (3 : Int32))))])) (fun _ kz => XS.iadd X0.here hx rfl (hb hby at_196) rfl kz) ?_
  rcases own_d w2 with hd1 | hd1 | hd1
  ·skip
   rw [show ((1 : Int32) + ((w2 &&& (2147483647 : Int32)) % (3 : Int32))) = (1 : Int32) from hd1]
   refine own_s (g' := (mkF m 199 (own_Lown_cutA2_0 sl0 sl1 w2 ar sl4 s0 sl7 ob (.val (.int 1))) [])) (fun _ kz => XS.istore X0.here hx rfl (hb hby at_197) rfl (l' := (own_Lown_cutA2_0 sl0 sl1 w2 ar sl4 s0 sl7 ob (.val (.int 1)))) rfl kz) ?_
   refine own_s (g' := (mkF m 200 (own_Lown_cutA2_0 sl0 sl1 w2 ar sl4 s0 sl7 ob (.val (.int 1))) [(.ref ar)])) (fun _ kz => XS.aloadN X0.here hx rfl (hb hby at_199) rfl rfl kz) ?_
   refine own_s (g' := (mkF m 202 (own_Lown_cutA2_0 sl0 sl1 w2 ar sl4 s0 sl7 ob (.val (.int 1))) [(.int 1), (.ref ar)])) (fun _ kz => XS.iload X0.here hx rfl (hb hby at_200) rfl kz) ?_
   obtain ⟨cl920, Ar920, -, S920, -, H920, -⟩ := id V_ar
   have in920 := inb_of S920 (j := (1 : Int32)) ⟨by decide, by decide⟩
   refine own_s (g' := (mkF m 203 (own_Lown_cutA2_0 sl0 sl1 w2 ar sl4 s0 sl7 ob (.val (.int 1))) [(.int y1)])) (X0.iaload hx (j := (1 : Int32)) (v := (.int y1)) (by rw [e0]; exact Ar920.1) (State.isArrayOf_alike hZ.alike Ar920.2.1) Ar920.2.2 in920 (Has.at H920 in920 rfl) (g := (mkF m 202 (own_Lown_cutA2_0 sl0 sl1 w2 ar sl4 s0 sl7 ob (.val (.int 1))) [(.int 1), (.ref ar)])) rfl rfl (hb hby at_202)) ?_
   by_cases c921 : y1 = (0 : Int32)
   ·skip
    refine own_s (g' := (mkF m 206 (own_Lown_cutA2_0 sl0 sl1 w2 ar sl4 s0 sl7 ob (.val (.int 1))) [])) (fun _ kz => XS.ifNo X0.here hx rfl (hb hby at_203) rfl ((if0 _ _).trans (teq c921).2) kz) ?_
    refine own_s (g' := (mkF m 207 (own_Lown_cutA2_0 sl0 sl1 w2 ar sl4 s0 sl7 ob (.val (.int 1))) [(.ref ar)])) (fun _ kz => XS.aloadN X0.here hx rfl (hb hby at_206) rfl rfl kz) ?_
    obtain ⟨_, _, ⟨T922, L922, k922, n922⟩, -, X922, ⟨Lc922, hQ922, l922, y922, z922⟩, st922⟩ := Jvm.LawKit.callS X0 hx (y := (⟨"gallai/service/ResidualDegreesLowerPinLaw", "top", "([I)I"⟩ : MethodName)) hown (mvT hZ ww65) (mvT hZ ww66) (mvT hZ ww67) (mvT hZ ww68) (by decide) (backOf (W := 0) (rm9 l Z a0 hw [] ar ky y0 y1 y2 y3 h0 n0 Z0 V_ar) hZ ww68 ww67 (by decide) (by decide)) (g := (mkF m 207 (own_Lown_cutA2_0 sl0 sl1 w2 ar sl4 s0 sl7 ob (.val (.int 1))) [(.ref ar)])) rfl (by rw [hml]; rfl) (argsL := [(.ref ar)]) (rest := []) (lenOf pd___I_I rfl) rfl (by show 2 * 0 + _ ≤ _; exact Nat.le_of_eq rfl) (hb hby at_207) (fun _ _ => ⟨rfl, e0, (by decide : 12 + 0 ≤ _), (by decide : 60 + 0 ≤ _)⟩)
    dsimp only [Pt.U, Pt.locs, Pt.cells, Pt.slots] at X922 l922 y922 z922 st922 hQ922
    subst l922 y922 z922
    obtain ⟨rfl, N922q, eh922⟩ := hQ922
    have N922 := Fr.app N0 N922q
    refine own_s (g' := (mkF m 210 (own_Lown_cutA2_0 sl0 sl1 w2 ar sl4 s0 sl7 ob (.val (.int 1))) [(.int (r9 y1 y2 y3))])) st922 ?_
    rw [show (r9 y1 y2 y3) = (2 : Int32) from ((if_neg ((own_eqltI (Eq.symm hA8)) : ¬ (0 : Int32) < y3)).trans (if_pos ((own_triI (fun q => hA9 q.symm) hA2) : (0 : Int32) < y2)))]
    refine own_s (g' := (mkF m 212 (own_Lown_cutA2_0 sl0 sl1 w2 ar sl4 s0 sl7 ob (.val (.int 2))) [])) (fun _ kz => XS.istore X922.here hx rfl (hb hby at_210) rfl (l' := (own_Lown_cutA2_0 sl0 sl1 w2 ar sl4 s0 sl7 ob (.val (.int 2)))) rfl kz) ?_
    exact own_cutB22 l Z a0 hw (sl0) (sl1) w2 ar (sl4) s0 (sl7) ob b0_countOf b0_atLeast b0_partnersOf b0_saved b0_slack b0_nextTight kc y0 y1 y2 y3 kx na x0 x1 x2 x3 x4 ky (X922.more (by decide) (by decide)) hx hZ hby hml hown hlk hret h0 n0 eh922 Z0 N922 F_countOf_ob F_atLeast_ob F_sum_ob F_largest_ob F_partnersOf_ob F_saved_ob F_slack_ob F_nextTight_ob E_ob V_b0_countOf V_b0_atLeast V_ar g_b0_countOf g_b0_atLeast g_ob g_ar ne_ob_b0_countOf ne_b0_atLeast_b0_countOf ne_ob_b0_atLeast ne_ar_b0_countOf ne_ar_b0_atLeast ne_ar_ob hA0 hA1 hA2 hA3 hA4 hA5 hA6 hA7 hA8 hA9 hna2
   ·skip
    refine own_s (g' := (mkF m 212 (own_Lown_cutA2_0 sl0 sl1 w2 ar sl4 s0 sl7 ob (.val (.int 1))) [])) (fun _ kz => XS.ifYes X0.here hx rfl (pc0 := 203) (pc' := 212) rfl (hb hby at_203) rfl ((if0 _ _).trans (feq c921).2) (by decide) (by decide) kz) ?_
    exact own_cutB21 l Z a0 hw (sl0) (sl1) w2 ar (sl4) s0 (sl7) ob b0_countOf b0_atLeast b0_partnersOf b0_saved b0_slack b0_nextTight kc y0 y1 y2 y3 kx na x0 x1 x2 x3 x4 ky (X0.more (by decide) (by decide)) hx hZ hby hml hown hlk hret h0 n0 e0 Z0 N0 F_countOf_ob F_atLeast_ob F_sum_ob F_largest_ob F_partnersOf_ob F_saved_ob F_slack_ob F_nextTight_ob E_ob V_b0_countOf V_b0_atLeast V_ar g_b0_countOf g_b0_atLeast g_ob g_ar ne_ob_b0_countOf ne_b0_atLeast_b0_countOf ne_ob_b0_atLeast ne_ar_b0_countOf ne_ar_b0_atLeast ne_ar_ob hA0 hA1 hA2 hA3 hA4 hA5 hA6 hA7 hA8 hA9 hna1
  ·skip
   rw [show ((1 : Int32) + ((w2 &&& (2147483647 : Int32)) % (3 : Int32))) = (2 : Int32) from hd1]
   refine own_s (g' := (mkF m 199 (own_Lown_cutA2_0 sl0 sl1 w2 ar sl4 s0 sl7 ob (.val (.int 2))) [])) (fun _ kz => XS.istore X0.here hx rfl (hb hby at_197) rfl (l' := (own_Lown_cutA2_0 sl0 sl1 w2 ar sl4 s0 sl7 ob (.val (.int 2)))) rfl kz) ?_
   refine own_s (g' := (mkF m 200 (own_Lown_cutA2_0 sl0 sl1 w2 ar sl4 s0 sl7 ob (.val (.int 2))) [(.ref ar)])) (fun _ kz => XS.aloadN X0.here hx rfl (hb hby at_199) rfl rfl kz) ?_
   refine own_s (g' := (mkF m 202 (own_Lown_cutA2_0 sl0 sl1 w2 ar sl4 s0 sl7 ob (.val (.int 2))) [(.int 2), (.ref ar)])) (fun _ kz => XS.iload X0.here hx rfl (hb hby at_200) rfl kz) ?_
   obtain ⟨cl923, Ar923, -, S923, -, H923, -⟩ := id V_ar
   have in923 := inb_of S923 (j := (2 : Int32)) ⟨by decide, by decide⟩
   refine own_s (g' := (mkF m 203 (own_Lown_cutA2_0 sl0 sl1 w2 ar sl4 s0 sl7 ob (.val (.int 2))) [(.int y2)])) (X0.iaload hx (j := (2 : Int32)) (v := (.int y2)) (by rw [e0]; exact Ar923.1) (State.isArrayOf_alike hZ.alike Ar923.2.1) Ar923.2.2 in923 (Has.at H923 in923 rfl) (g := (mkF m 202 (own_Lown_cutA2_0 sl0 sl1 w2 ar sl4 s0 sl7 ob (.val (.int 2))) [(.int 2), (.ref ar)])) rfl rfl (hb hby at_202)) ?_
   refine own_s (g' := (mkF m 212 (own_Lown_cutA2_0 sl0 sl1 w2 ar sl4 s0 sl7 ob (.val (.int 2))) [])) (fun _ kz => XS.ifYes X0.here hx rfl (pc0 := 203) (pc' := 212) rfl (hb hby at_203) rfl ((if0 _ _).trans (feq hA9).2) (by decide) (by decide) kz) ?_
   exact own_cutB22 l Z a0 hw (sl0) (sl1) w2 ar (sl4) s0 (sl7) ob b0_countOf b0_atLeast b0_partnersOf b0_saved b0_slack b0_nextTight kc y0 y1 y2 y3 kx na x0 x1 x2 x3 x4 ky (X0.more (by decide) (by decide)) hx hZ hby hml hown hlk hret h0 n0 e0 Z0 N0 F_countOf_ob F_atLeast_ob F_sum_ob F_largest_ob F_partnersOf_ob F_saved_ob F_slack_ob F_nextTight_ob E_ob V_b0_countOf V_b0_atLeast V_ar g_b0_countOf g_b0_atLeast g_ob g_ar ne_ob_b0_countOf ne_b0_atLeast_b0_countOf ne_ob_b0_atLeast ne_ar_b0_countOf ne_ar_b0_atLeast ne_ar_ob hA0 hA1 hA2 hA3 hA4 hA5 hA6 hA7 hA8 hA9 hna2
  ·skip
   rw [show ((1 : Int32) + ((w2 &&& (2147483647 : Int32)) % (3 : Int32))) = (3 : Int32) from hd1]
   refine own_s (g' := (mkF m 199 (own_Lown_cutA2_0 sl0 sl1 w2 ar sl4 s0 sl7 ob (.val (.int 3))) [])) (fun _ kz => XS.istore X0.here hx rfl (hb hby at_197) rfl (l' := (own_Lown_cutA2_0 sl0 sl1 w2 ar sl4 s0 sl7 ob (.val (.int 3)))) rfl kz) ?_
   refine own_s (g' := (mkF m 200 (own_Lown_cutA2_0 sl0 sl1 w2 ar sl4 s0 sl7 ob (.val (.int 3))) [(.ref ar)])) (fun _ kz => XS.aloadN X0.here hx rfl (hb hby at_199) rfl rfl kz) ?_
   refine own_s (g' := (mkF m 202 (own_Lown_cutA2_0 sl0 sl1 w2 ar sl4 s0 sl7 ob (.val (.int 3))) [(.int 3), (.ref ar)])) (fun _ kz => XS.iload X0.here hx rfl (hb hby at_200) rfl kz) ?_
   obtain ⟨cl924, Ar924, -, S924, -, H924, -⟩ := id V_ar
   have in924 := inb_of S924 (j := (3 : Int32)) ⟨by decide, by decide⟩
   refine own_s (g' := (mkF m 203 (own_Lown_cutA2_0 sl0 sl1 w2 ar sl4 s0 sl7 ob (.val (.int 3))) [(.int y3)])) (X0.iaload hx (j := (3 : Int32)) (v := (.int y3)) (by rw [e0]; exact Ar924.1) (State.isArrayOf_alike hZ.alike Ar924.2.1) Ar924.2.2 in924 (Has.at H924 in924 rfl) (g := (mkF m 202 (own_Lown_cutA2_0 sl0 sl1 w2 ar sl4 s0 sl7 ob (.val (.int 3))) [(.int 3), (.ref ar)])) rfl rfl (hb hby at_202)) ?_
   refine own_s (g' := (mkF m 206 (own_Lown_cutA2_0 sl0 sl1 w2 ar sl4 s0 sl7 ob (.val (.int 3))) [])) (fun _ kz => XS.ifNo X0.here hx rfl (hb hby at_203) rfl ((if0 _ _).trans (teq hA8).2) kz) ?_
   refine own_s (g' := (mkF m 207 (own_Lown_cutA2_0 sl0 sl1 w2 ar sl4 s0 sl7 ob (.val (.int 3))) [(.ref ar)])) (fun _ kz => XS.aloadN X0.here hx rfl (hb hby at_206) rfl rfl kz) ?_
   obtain ⟨_, _, ⟨T925, L925, k925, n925⟩, -, X925, ⟨Lc925, hQ925, l925, y925, z925⟩, st925⟩ := Jvm.LawKit.callS X0 hx (y := (⟨"gallai/service/ResidualDegreesLowerPinLaw", "top", "([I)I"⟩ : MethodName)) hown (mvT hZ ww65) (mvT hZ ww66) (mvT hZ ww67) (mvT hZ ww68) (by decide) (backOf (W := 0) (rm9 l Z a0 hw [] ar ky y0 y1 y2 y3 h0 n0 Z0 V_ar) hZ ww68 ww67 (by decide) (by decide)) (g := (mkF m 207 (own_Lown_cutA2_0 sl0 sl1 w2 ar sl4 s0 sl7 ob (.val (.int 3))) [(.ref ar)])) rfl (by rw [hml]; rfl) (argsL := [(.ref ar)]) (rest := []) (lenOf pd___I_I rfl) rfl (by show 2 * 0 + _ ≤ _; exact Nat.le_of_eq rfl) (hb hby at_207) (fun _ _ => ⟨rfl, e0, (by decide : 12 + 0 ≤ _), (by decide : 60 + 0 ≤ _)⟩)
   dsimp only [Pt.U, Pt.locs, Pt.cells, Pt.slots] at X925 l925 y925 z925 st925 hQ925
   subst l925 y925 z925
   obtain ⟨rfl, N925q, eh925⟩ := hQ925
   have N925 := Fr.app N0 N925q
   refine own_s (g' := (mkF m 210 (own_Lown_cutA2_0 sl0 sl1 w2 ar sl4 s0 sl7 ob (.val (.int 3))) [(.int (r9 y1 y2 y3))])) st925 ?_
   rw [show (r9 y1 y2 y3) = (2 : Int32) from ((if_neg ((own_eqltI (Eq.symm hA8)) : ¬ (0 : Int32) < y3)).trans (if_pos ((own_triI (fun q => hA9 q.symm) hA2) : (0 : Int32) < y2)))]
   refine own_s (g' := (mkF m 212 (own_Lown_cutA2_0 sl0 sl1 w2 ar sl4 s0 sl7 ob (.val (.int 2))) [])) (fun _ kz => XS.istore X925.here hx rfl (hb hby at_210) rfl (l' := (own_Lown_cutA2_0 sl0 sl1 w2 ar sl4 s0 sl7 ob (.val (.int 2)))) rfl kz) ?_
   exact own_cutB22 l Z a0 hw (sl0) (sl1) w2 ar (sl4) s0 (sl7) ob b0_countOf b0_atLeast b0_partnersOf b0_saved b0_slack b0_nextTight kc y0 y1 y2 y3 kx na x0 x1 x2 x3 x4 ky (X925.more (by decide) (by decide)) hx hZ hby hml hown hlk hret h0 n0 eh925 Z0 N925 F_countOf_ob F_atLeast_ob F_sum_ob F_largest_ob F_partnersOf_ob F_saved_ob F_slack_ob F_nextTight_ob E_ob V_b0_countOf V_b0_atLeast V_ar g_b0_countOf g_b0_atLeast g_ob g_ar ne_ob_b0_countOf ne_b0_atLeast_b0_countOf ne_ob_b0_atLeast ne_ar_b0_countOf ne_ar_b0_atLeast ne_ar_ob hA0 hA1 hA2 hA3 hA4 hA5 hA6 hA7 hA8 hA9 hna2
abbrev own_Lown_cutA3_0 (sl0 : Slot) (sl1 : Slot) (w2 : Int32) (ar : Addr) (sl4 : Slot) (s0 : Int64) (sl7 : Slot) (ob : Addr) (l10 : Slot) : Array Slot := #[sl0, sl1, .val (.int w2), .val (.ref ar), sl4, .val (.long s0), .second, sl7, .val (.ref ob), .val (.int 1), l10]
set_option maxRecDepth 65536 in
set_option maxHeartbeats 40000000 in
theorem own_cutA3 (l : Launch) (Z : State) (a0 : Array Value) (hw : ∀ d ∈ tables_1, d.before a0 Z = true) (sl0 : Slot) (sl1 : Slot) (w2 : Int32) (ar : Addr) (sl4 : Slot) (s0 : Int64) (sl7 : Slot) (ob : Addr) (b0_countOf : Addr) (b0_atLeast : Addr) (b0_partnersOf : Addr) (b0_saved : Addr) (b0_slack : Addr) (b0_nextTight : Addr) (ky : ClassId) (y0 : Int32) (y1 : Int32) (y2 : Int32) (y3 : Int32) (kc : ClassId) (kx : ClassId) (na : Int32) (x0 : Int32) (x1 : Int32) (x2 : Int32) (x3 : Int32) (x4 : Int32) {p : Program} {e : Env} {s : State} {m : MethodId} {args : Array Value} {below : List Frame} {meth : Method} {c : Code} {s₁ : State} {locs : List Loc}
    (X0 : Stand p l e room_1 s m args below meth c s₁ locs 12 60) (hx : p.tables.exec = Jvm.exec) (hZ : Z.Warmed39 s.vm) (hby : c.code = code) (hml : c.maxLocals = 11) (hown : s.vm.findClass "gallai/service/ResidualDegreesLowerPinLaw" = some m.cls) (hlk : meth.locks = false) (hret : meth.sig.returnType = some .boolean) (h0 : Heap) (n0 : Nat) (e0 : s₁.heap = h0) (Z0 : n0 ≤ h0.size) (N0 : Fr n0 locs) (F_countOf_ob : Fld Z h0 ob "gallai/service/ResidualDegrees" "countOf" "[I" (.ref b0_countOf)) (F_atLeast_ob : Fld Z h0 ob "gallai/service/ResidualDegrees" "atLeast" "[I" (.ref b0_atLeast)) (F_sum_ob : Fld Z h0 ob "gallai/service/ResidualDegrees" "sum" "J" (.long (s0 - (1 : Int64)))) (F_largest_ob : Fld Z h0 ob "gallai/service/ResidualDegrees" "largest" "I" (.int 3)) (F_partnersOf_ob : Fld Z h0 ob "gallai/service/ResidualDegrees" "partnersOf" "[I" (.ref b0_partnersOf)) (F_saved_ob : Fld Z h0 ob "gallai/service/ResidualDegrees" "saved" "[I" (.ref b0_saved)) (F_slack_ob : Fld Z h0 ob "gallai/service/ResidualDegrees" "slack" "[J" (.ref b0_slack)) (F_nextTight_ob : Fld Z h0 ob "gallai/service/ResidualDegrees" "nextTight" "[I" (.ref b0_nextTight)) (E_ob : Exa Z h0 ob "gallai/service/ResidualDegrees") (V_ar : Arv Z h0 ar ky .int (4 : Int32) [(.int y0), (.int y1), (.int y2), (.int y3)] (.int (0 : Int32))) (V_b0_countOf : Arv Z h0 b0_countOf kc .int (4 : Int32) [(.int y0), (.int y1), (.int y2), (.int y3)] (.int (0 : Int32))) (V_b0_atLeast : Arv Z h0 b0_atLeast kx .int na [(.int x0), (.int x1), (.int x2), (.int x3), (.int x4)] (.int (0 : Int32))) (g_b0_countOf : n0 ≤ b0_countOf) (g_b0_atLeast : n0 ≤ b0_atLeast) (g_ob : n0 ≤ ob) (g_ar : n0 ≤ ar) (ne_ob_b0_countOf : ob ≠ b0_countOf) (ne_b0_atLeast_b0_countOf : b0_atLeast ≠ b0_countOf) (ne_ob_b0_atLeast : ob ≠ b0_atLeast) (ne_ar_b0_countOf : ar ≠ b0_countOf) (ne_ar_b0_atLeast : ar ≠ b0_atLeast) (ne_ar_ob : ar ≠ ob) (hA0 : ¬ y0 < (0 : Int32)) (hA1 : ¬ y1 < (0 : Int32)) (hA2 : ¬ y2 < (0 : Int32)) (hA3 : ¬ y3 < (0 : Int32)) (hA4 : ¬ (20 : Int32) < y0) (hA5 : ¬ (20 : Int32) < y1) (hA6 : ¬ (20 : Int32) < y2) (hA7 : ¬ (20 : Int32) < y3) (hA8 : ¬ y3 = (0 : Int32)) (hna1 : (1 : Int32) < na) (hna2 : (2 : Int32) < na) (hna3 : (3 : Int32) < na) :
    own_G p e below s (fun v h L => v = some (.int (1 : Int32)) ∧ Fr n0 L) 32 192 s₁ (mkF m 189 #[sl0, sl1, .val (.int w2), .val (.ref ar), sl4, .val (.long s0), .second, sl7, .val (.ref ob), .val (.int 1), .unset] []) := by
  have K0 : Keep h0 h0 [] := Keep.refl _ _
  have ww1 := hw _ (List.mem_of_getElem? (i := 1) rfl)
  have ww65 := hw _ (List.mem_of_getElem? (i := 65) rfl)
  have ww66 := hw _ (List.mem_of_getElem? (i := 66) rfl)
  have ww67 := hw _ (List.mem_of_getElem? (i := 67) rfl)
  have ww68 := hw _ (List.mem_of_getElem? (i := 68) rfl)
  show own_G p e below s _ _ _ s₁ (mkF m _ (own_Lown_cutA3_0 sl0 sl1 w2 ar sl4 s0 sl7 ob .unset) _)
  refine own_s (g' := (mkF m 190 (own_Lown_cutA3_0 sl0 sl1 w2 ar sl4 s0 sl7 ob .unset) [(.int 1)])) (fun _ kz => XS.iconst X0.here hx rfl (hb hby at_189) kz) ?_
  refine own_s (g' := (mkF m 191 (own_Lown_cutA3_0 sl0 sl1 w2 ar sl4 s0 sl7 ob .unset) [(.int w2), (.int 1)])) (fun _ kz => XS.iloadN X0.here hx rfl (hb hby at_190) rfl kz) ?_
  refine own_s (g' := (mkF m 193 (own_Lown_cutA3_0 sl0 sl1 w2 ar sl4 s0 sl7 ob .unset) [(.int 2147483647), (.int w2), (.int 1)])) (X0.ldcInt hx hown (mvT hZ ww1) (g := (mkF m 191 (own_Lown_cutA3_0 sl0 sl1 w2 ar sl4 s0 sl7 ob .unset) [(.int w2), (.int 1)])) rfl (hb hby at_191)) ?_
  refine own_s (g' := (mkF m 194 (own_Lown_cutA3_0 sl0 sl1 w2 ar sl4 s0 sl7 ob .unset) [(.int (w2 &&& (2147483647 : Int32))), (.int 1)])) (fun _ kz => XS.iand X0.here hx rfl (hb hby at_193) rfl kz) ?_
  refine own_s (g' := (mkF m 195 (own_Lown_cutA3_0 sl0 sl1 w2 ar sl4 s0 sl7 ob .unset) [(.int 3), (.int (w2 &&& (2147483647 : Int32))), (.int 1)])) (fun _ kz => XS.iconst X0.here hx rfl (hb hby at_194) kz) ?_
  refine own_s (g' := (mkF m 196 (own_Lown_cutA3_0 sl0 sl1 w2 ar sl4 s0 sl7 ob .unset) [(.int ((w2 &&& (2147483647 : Int32)) % (3 : Int32))), (.int 1)])) (fun _ kz => iremM X0 hx rfl (hb hby at_195) rfl (by decide) kz) ?_
  refine own_s (g' := (mkF m 197 (own_Lown_cutA3_0 sl0 sl1 w2 ar sl4 s0 sl7 ob .unset) [(.int ((1 : Int32) + ((w2 &&& (2147483647 : Int32)) % (3 : Int32))))])) (fun _ kz => XS.iadd X0.here hx rfl (hb hby at_196) rfl kz) ?_
  rcases own_d w2 with hd1 | hd1 | hd1
  ·skip
   rw [show ((1 : Int32) + ((w2 &&& (2147483647 : Int32)) % (3 : Int32))) = (1 : Int32) from hd1]
   refine own_s (g' := (mkF m 199 (own_Lown_cutA3_0 sl0 sl1 w2 ar sl4 s0 sl7 ob (.val (.int 1))) [])) (fun _ kz => XS.istore X0.here hx rfl (hb hby at_197) rfl (l' := (own_Lown_cutA3_0 sl0 sl1 w2 ar sl4 s0 sl7 ob (.val (.int 1)))) rfl kz) ?_
   refine own_s (g' := (mkF m 200 (own_Lown_cutA3_0 sl0 sl1 w2 ar sl4 s0 sl7 ob (.val (.int 1))) [(.ref ar)])) (fun _ kz => XS.aloadN X0.here hx rfl (hb hby at_199) rfl rfl kz) ?_
   refine own_s (g' := (mkF m 202 (own_Lown_cutA3_0 sl0 sl1 w2 ar sl4 s0 sl7 ob (.val (.int 1))) [(.int 1), (.ref ar)])) (fun _ kz => XS.iload X0.here hx rfl (hb hby at_200) rfl kz) ?_
   obtain ⟨cl926, Ar926, -, S926, -, H926, -⟩ := id V_ar
   have in926 := inb_of S926 (j := (1 : Int32)) ⟨by decide, by decide⟩
   refine own_s (g' := (mkF m 203 (own_Lown_cutA3_0 sl0 sl1 w2 ar sl4 s0 sl7 ob (.val (.int 1))) [(.int y1)])) (X0.iaload hx (j := (1 : Int32)) (v := (.int y1)) (by rw [e0]; exact Ar926.1) (State.isArrayOf_alike hZ.alike Ar926.2.1) Ar926.2.2 in926 (Has.at H926 in926 rfl) (g := (mkF m 202 (own_Lown_cutA3_0 sl0 sl1 w2 ar sl4 s0 sl7 ob (.val (.int 1))) [(.int 1), (.ref ar)])) rfl rfl (hb hby at_202)) ?_
   by_cases c927 : y1 = (0 : Int32)
   ·skip
    refine own_s (g' := (mkF m 206 (own_Lown_cutA3_0 sl0 sl1 w2 ar sl4 s0 sl7 ob (.val (.int 1))) [])) (fun _ kz => XS.ifNo X0.here hx rfl (hb hby at_203) rfl ((if0 _ _).trans (teq c927).2) kz) ?_
    refine own_s (g' := (mkF m 207 (own_Lown_cutA3_0 sl0 sl1 w2 ar sl4 s0 sl7 ob (.val (.int 1))) [(.ref ar)])) (fun _ kz => XS.aloadN X0.here hx rfl (hb hby at_206) rfl rfl kz) ?_
    obtain ⟨_, _, ⟨T928, L928, k928, n928⟩, -, X928, ⟨Lc928, hQ928, l928, y928, z928⟩, st928⟩ := Jvm.LawKit.callS X0 hx (y := (⟨"gallai/service/ResidualDegreesLowerPinLaw", "top", "([I)I"⟩ : MethodName)) hown (mvT hZ ww65) (mvT hZ ww66) (mvT hZ ww67) (mvT hZ ww68) (by decide) (backOf (W := 0) (rm9 l Z a0 hw [] ar ky y0 y1 y2 y3 h0 n0 Z0 V_ar) hZ ww68 ww67 (by decide) (by decide)) (g := (mkF m 207 (own_Lown_cutA3_0 sl0 sl1 w2 ar sl4 s0 sl7 ob (.val (.int 1))) [(.ref ar)])) rfl (by rw [hml]; rfl) (argsL := [(.ref ar)]) (rest := []) (lenOf pd___I_I rfl) rfl (by show 2 * 0 + _ ≤ _; exact Nat.le_of_eq rfl) (hb hby at_207) (fun _ _ => ⟨rfl, e0, (by decide : 12 + 0 ≤ _), (by decide : 60 + 0 ≤ _)⟩)
    dsimp only [Pt.U, Pt.locs, Pt.cells, Pt.slots] at X928 l928 y928 z928 st928 hQ928
    subst l928 y928 z928
    obtain ⟨rfl, N928q, eh928⟩ := hQ928
    have N928 := Fr.app N0 N928q
    refine own_s (g' := (mkF m 210 (own_Lown_cutA3_0 sl0 sl1 w2 ar sl4 s0 sl7 ob (.val (.int 1))) [(.int (r9 y1 y2 y3))])) st928 ?_
    rw [show (r9 y1 y2 y3) = (3 : Int32) from (if_pos ((own_triI (fun q => hA8 q.symm) hA3) : (0 : Int32) < y3))]
    refine own_s (g' := (mkF m 212 (own_Lown_cutA3_0 sl0 sl1 w2 ar sl4 s0 sl7 ob (.val (.int 3))) [])) (fun _ kz => XS.istore X928.here hx rfl (hb hby at_210) rfl (l' := (own_Lown_cutA3_0 sl0 sl1 w2 ar sl4 s0 sl7 ob (.val (.int 3)))) rfl kz) ?_
    exact own_cutB33 l Z a0 hw (sl0) (sl1) w2 ar (sl4) s0 (sl7) ob b0_countOf b0_atLeast b0_partnersOf b0_saved b0_slack b0_nextTight kc y0 y1 y2 y3 kx na x0 x1 x2 x3 x4 ky (X928.more (by decide) (by decide)) hx hZ hby hml hown hlk hret h0 n0 eh928 Z0 N928 F_countOf_ob F_atLeast_ob F_sum_ob F_largest_ob F_partnersOf_ob F_saved_ob F_slack_ob F_nextTight_ob E_ob V_b0_countOf V_b0_atLeast V_ar g_b0_countOf g_b0_atLeast g_ob g_ar ne_ob_b0_countOf ne_b0_atLeast_b0_countOf ne_ob_b0_atLeast ne_ar_b0_countOf ne_ar_b0_atLeast ne_ar_ob hA0 hA1 hA2 hA3 hA4 hA5 hA6 hA7 hA8 hna3
   ·skip
    refine own_s (g' := (mkF m 212 (own_Lown_cutA3_0 sl0 sl1 w2 ar sl4 s0 sl7 ob (.val (.int 1))) [])) (fun _ kz => XS.ifYes X0.here hx rfl (pc0 := 203) (pc' := 212) rfl (hb hby at_203) rfl ((if0 _ _).trans (feq c927).2) (by decide) (by decide) kz) ?_
    exact own_cutB31 l Z a0 hw (sl0) (sl1) w2 ar (sl4) s0 (sl7) ob b0_countOf b0_atLeast b0_partnersOf b0_saved b0_slack b0_nextTight kc y0 y1 y2 y3 kx na x0 x1 x2 x3 x4 ky (X0.more (by decide) (by decide)) hx hZ hby hml hown hlk hret h0 n0 e0 Z0 N0 F_countOf_ob F_atLeast_ob F_sum_ob F_largest_ob F_partnersOf_ob F_saved_ob F_slack_ob F_nextTight_ob E_ob V_b0_countOf V_b0_atLeast V_ar g_b0_countOf g_b0_atLeast g_ob g_ar ne_ob_b0_countOf ne_b0_atLeast_b0_countOf ne_ob_b0_atLeast ne_ar_b0_countOf ne_ar_b0_atLeast ne_ar_ob hA0 hA1 hA2 hA3 hA4 hA5 hA6 hA7 hA8 hna1
  ·skip
   rw [show ((1 : Int32) + ((w2 &&& (2147483647 : Int32)) % (3 : Int32))) = (2 : Int32) from hd1]
   refine own_s (g' := (mkF m 199 (own_Lown_cutA3_0 sl0 sl1 w2 ar sl4 s0 sl7 ob (.val (.int 2))) [])) (fun _ kz => XS.istore X0.here hx rfl (hb hby at_197) rfl (l' := (own_Lown_cutA3_0 sl0 sl1 w2 ar sl4 s0 sl7 ob (.val (.int 2)))) rfl kz) ?_
   refine own_s (g' := (mkF m 200 (own_Lown_cutA3_0 sl0 sl1 w2 ar sl4 s0 sl7 ob (.val (.int 2))) [(.ref ar)])) (fun _ kz => XS.aloadN X0.here hx rfl (hb hby at_199) rfl rfl kz) ?_
   refine own_s (g' := (mkF m 202 (own_Lown_cutA3_0 sl0 sl1 w2 ar sl4 s0 sl7 ob (.val (.int 2))) [(.int 2), (.ref ar)])) (fun _ kz => XS.iload X0.here hx rfl (hb hby at_200) rfl kz) ?_
   obtain ⟨cl929, Ar929, -, S929, -, H929, -⟩ := id V_ar
   have in929 := inb_of S929 (j := (2 : Int32)) ⟨by decide, by decide⟩
   refine own_s (g' := (mkF m 203 (own_Lown_cutA3_0 sl0 sl1 w2 ar sl4 s0 sl7 ob (.val (.int 2))) [(.int y2)])) (X0.iaload hx (j := (2 : Int32)) (v := (.int y2)) (by rw [e0]; exact Ar929.1) (State.isArrayOf_alike hZ.alike Ar929.2.1) Ar929.2.2 in929 (Has.at H929 in929 rfl) (g := (mkF m 202 (own_Lown_cutA3_0 sl0 sl1 w2 ar sl4 s0 sl7 ob (.val (.int 2))) [(.int 2), (.ref ar)])) rfl rfl (hb hby at_202)) ?_
   by_cases c930 : y2 = (0 : Int32)
   ·skip
    refine own_s (g' := (mkF m 206 (own_Lown_cutA3_0 sl0 sl1 w2 ar sl4 s0 sl7 ob (.val (.int 2))) [])) (fun _ kz => XS.ifNo X0.here hx rfl (hb hby at_203) rfl ((if0 _ _).trans (teq c930).2) kz) ?_
    refine own_s (g' := (mkF m 207 (own_Lown_cutA3_0 sl0 sl1 w2 ar sl4 s0 sl7 ob (.val (.int 2))) [(.ref ar)])) (fun _ kz => XS.aloadN X0.here hx rfl (hb hby at_206) rfl rfl kz) ?_
    obtain ⟨_, _, ⟨T931, L931, k931, n931⟩, -, X931, ⟨Lc931, hQ931, l931, y931, z931⟩, st931⟩ := Jvm.LawKit.callS X0 hx (y := (⟨"gallai/service/ResidualDegreesLowerPinLaw", "top", "([I)I"⟩ : MethodName)) hown (mvT hZ ww65) (mvT hZ ww66) (mvT hZ ww67) (mvT hZ ww68) (by decide) (backOf (W := 0) (rm9 l Z a0 hw [] ar ky y0 y1 y2 y3 h0 n0 Z0 V_ar) hZ ww68 ww67 (by decide) (by decide)) (g := (mkF m 207 (own_Lown_cutA3_0 sl0 sl1 w2 ar sl4 s0 sl7 ob (.val (.int 2))) [(.ref ar)])) rfl (by rw [hml]; rfl) (argsL := [(.ref ar)]) (rest := []) (lenOf pd___I_I rfl) rfl (by show 2 * 0 + _ ≤ _; exact Nat.le_of_eq rfl) (hb hby at_207) (fun _ _ => ⟨rfl, e0, (by decide : 12 + 0 ≤ _), (by decide : 60 + 0 ≤ _)⟩)
    dsimp only [Pt.U, Pt.locs, Pt.cells, Pt.slots] at X931 l931 y931 z931 st931 hQ931
    subst l931 y931 z931
    obtain ⟨rfl, N931q, eh931⟩ := hQ931
    have N931 := Fr.app N0 N931q
    refine own_s (g' := (mkF m 210 (own_Lown_cutA3_0 sl0 sl1 w2 ar sl4 s0 sl7 ob (.val (.int 2))) [(.int (r9 y1 y2 y3))])) st931 ?_
    rw [show (r9 y1 y2 y3) = (3 : Int32) from (if_pos ((own_triI (fun q => hA8 q.symm) hA3) : (0 : Int32) < y3))]
    refine own_s (g' := (mkF m 212 (own_Lown_cutA3_0 sl0 sl1 w2 ar sl4 s0 sl7 ob (.val (.int 3))) [])) (fun _ kz => XS.istore X931.here hx rfl (hb hby at_210) rfl (l' := (own_Lown_cutA3_0 sl0 sl1 w2 ar sl4 s0 sl7 ob (.val (.int 3)))) rfl kz) ?_
    exact own_cutB33 l Z a0 hw (sl0) (sl1) w2 ar (sl4) s0 (sl7) ob b0_countOf b0_atLeast b0_partnersOf b0_saved b0_slack b0_nextTight kc y0 y1 y2 y3 kx na x0 x1 x2 x3 x4 ky (X931.more (by decide) (by decide)) hx hZ hby hml hown hlk hret h0 n0 eh931 Z0 N931 F_countOf_ob F_atLeast_ob F_sum_ob F_largest_ob F_partnersOf_ob F_saved_ob F_slack_ob F_nextTight_ob E_ob V_b0_countOf V_b0_atLeast V_ar g_b0_countOf g_b0_atLeast g_ob g_ar ne_ob_b0_countOf ne_b0_atLeast_b0_countOf ne_ob_b0_atLeast ne_ar_b0_countOf ne_ar_b0_atLeast ne_ar_ob hA0 hA1 hA2 hA3 hA4 hA5 hA6 hA7 hA8 hna3
   ·skip
    refine own_s (g' := (mkF m 212 (own_Lown_cutA3_0 sl0 sl1 w2 ar sl4 s0 sl7 ob (.val (.int 2))) [])) (fun _ kz => XS.ifYes X0.here hx rfl (pc0 := 203) (pc' := 212) rfl (hb hby at_203) rfl ((if0 _ _).trans (feq c930).2) (by decide) (by decide) kz) ?_
    exact own_cutB32 l Z a0 hw (sl0) (sl1) w2 ar (sl4) s0 (sl7) ob b0_countOf b0_atLeast b0_partnersOf b0_saved b0_slack b0_nextTight kc y0 y1 y2 y3 kx na x0 x1 x2 x3 x4 ky (X0.more (by decide) (by decide)) hx hZ hby hml hown hlk hret h0 n0 e0 Z0 N0 F_countOf_ob F_atLeast_ob F_sum_ob F_largest_ob F_partnersOf_ob F_saved_ob F_slack_ob F_nextTight_ob E_ob V_b0_countOf V_b0_atLeast V_ar g_b0_countOf g_b0_atLeast g_ob g_ar ne_ob_b0_countOf ne_b0_atLeast_b0_countOf ne_ob_b0_atLeast ne_ar_b0_countOf ne_ar_b0_atLeast ne_ar_ob hA0 hA1 hA2 hA3 hA4 hA5 hA6 hA7 hA8 hna2
  ·skip
   rw [show ((1 : Int32) + ((w2 &&& (2147483647 : Int32)) % (3 : Int32))) = (3 : Int32) from hd1]
   refine own_s (g' := (mkF m 199 (own_Lown_cutA3_0 sl0 sl1 w2 ar sl4 s0 sl7 ob (.val (.int 3))) [])) (fun _ kz => XS.istore X0.here hx rfl (hb hby at_197) rfl (l' := (own_Lown_cutA3_0 sl0 sl1 w2 ar sl4 s0 sl7 ob (.val (.int 3)))) rfl kz) ?_
   refine own_s (g' := (mkF m 200 (own_Lown_cutA3_0 sl0 sl1 w2 ar sl4 s0 sl7 ob (.val (.int 3))) [(.ref ar)])) (fun _ kz => XS.aloadN X0.here hx rfl (hb hby at_199) rfl rfl kz) ?_
   refine own_s (g' := (mkF m 202 (own_Lown_cutA3_0 sl0 sl1 w2 ar sl4 s0 sl7 ob (.val (.int 3))) [(.int 3), (.ref ar)])) (fun _ kz => XS.iload X0.here hx rfl (hb hby at_200) rfl kz) ?_
   obtain ⟨cl932, Ar932, -, S932, -, H932, -⟩ := id V_ar
   have in932 := inb_of S932 (j := (3 : Int32)) ⟨by decide, by decide⟩
   refine own_s (g' := (mkF m 203 (own_Lown_cutA3_0 sl0 sl1 w2 ar sl4 s0 sl7 ob (.val (.int 3))) [(.int y3)])) (X0.iaload hx (j := (3 : Int32)) (v := (.int y3)) (by rw [e0]; exact Ar932.1) (State.isArrayOf_alike hZ.alike Ar932.2.1) Ar932.2.2 in932 (Has.at H932 in932 rfl) (g := (mkF m 202 (own_Lown_cutA3_0 sl0 sl1 w2 ar sl4 s0 sl7 ob (.val (.int 3))) [(.int 3), (.ref ar)])) rfl rfl (hb hby at_202)) ?_
   refine own_s (g' := (mkF m 212 (own_Lown_cutA3_0 sl0 sl1 w2 ar sl4 s0 sl7 ob (.val (.int 3))) [])) (fun _ kz => XS.ifYes X0.here hx rfl (pc0 := 203) (pc' := 212) rfl (hb hby at_203) rfl ((if0 _ _).trans (feq hA8).2) (by decide) (by decide) kz) ?_
   exact own_cutB33 l Z a0 hw (sl0) (sl1) w2 ar (sl4) s0 (sl7) ob b0_countOf b0_atLeast b0_partnersOf b0_saved b0_slack b0_nextTight kc y0 y1 y2 y3 kx na x0 x1 x2 x3 x4 ky (X0.more (by decide) (by decide)) hx hZ hby hml hown hlk hret h0 n0 e0 Z0 N0 F_countOf_ob F_atLeast_ob F_sum_ob F_largest_ob F_partnersOf_ob F_saved_ob F_slack_ob F_nextTight_ob E_ob V_b0_countOf V_b0_atLeast V_ar g_b0_countOf g_b0_atLeast g_ob g_ar ne_ob_b0_countOf ne_b0_atLeast_b0_countOf ne_ob_b0_atLeast ne_ar_b0_countOf ne_ar_b0_atLeast ne_ar_ob hA0 hA1 hA2 hA3 hA4 hA5 hA6 hA7 hA8 hna3
theorem pd___IJ_V : parseMethodDescriptor "([IJ)V" = some ⟨[(.array .int), .long], none⟩ := by decide +kernel
theorem ef_0 (m : MethodId) (p0_0 : Int32) (p0_1 : Int32) (p0_2 : Int32) : entryFrame m #[(.int p0_0), (.int p0_1), (.int p0_2)] maxLocals = mkF m 0 #[.val (.int p0_0), .val (.int p0_1), .val (.int p0_2), .unset, .unset, .unset, .unset, .unset, .unset, .unset, .unset] [] := by first | (simp [entryFrame, mkF, argsToLocals, Value.category, maxLocals]; done) | rfl
abbrev own_L0_0 (p0_0 : Int32) (p0_1 : Int32) (p0_2 : Int32) (b933 : Addr) (ss0 : Int64) (l7 l8 l9 l10 : Slot) : Array Slot := #[.val (.int p0_0), .val (.int p0_1), .val (.int p0_2), .val (.ref b933), .val (.int 1), .val (.long ss0), .second, l7, l8, l9, l10]
abbrev own_L0_1 (p0_0 : Int32) (p0_1 : Int32) (p0_2 : Int32) (b933 : Addr) (b948 : Addr) (b966 : Addr) (ss0 : Int64) (l9 l10 : Slot) : Array Slot := #[.val (.int p0_0), .val (.int p0_1), .val (.int p0_2), .val (.ref b933), .val (.int 1), .val (.long ss0), .second, .val (.ref b948), .val (.ref b966), l9, l10]
abbrev own_L0_2 (p0_0 : Int32) (p0_1 : Int32) (p0_2 : Int32) (b933 : Addr) (b948 : Addr) (b966 : Addr) (ss0 : Int64) (l9 l10 : Slot) : Array Slot := #[.val (.int p0_0), .val (.int p0_1), .val (.int p0_2), .val (.ref b933), .val (.int 1), .val (.long ss0), .second, .val (.ref b948), .val (.ref b966), l9, l10]
abbrev own_L0_3 (p0_0 : Int32) (p0_1 : Int32) (p0_2 : Int32) (b933 : Addr) (b948 : Addr) (b966 : Addr) (ss0 : Int64) (l9 l10 : Slot) : Array Slot := #[.val (.int p0_0), .val (.int p0_1), .val (.int p0_2), .val (.ref b933), .val (.int 1), .val (.long ss0), .second, .val (.ref b948), .val (.ref b966), l9, l10]
abbrev own_L0_4 (p0_0 : Int32) (p0_1 : Int32) (p0_2 : Int32) (b933 : Addr) (ss0 : Int64) (l7 l8 l9 l10 : Slot) : Array Slot := #[.val (.int p0_0), .val (.int p0_1), .val (.int p0_2), .val (.ref b933), .val (.int 2), .val (.long ss0), .second, l7, l8, l9, l10]
abbrev own_L0_5 (p0_0 : Int32) (p0_1 : Int32) (p0_2 : Int32) (b933 : Addr) (b1181 : Addr) (b1199 : Addr) (ss0 : Int64) (l9 l10 : Slot) : Array Slot := #[.val (.int p0_0), .val (.int p0_1), .val (.int p0_2), .val (.ref b933), .val (.int 2), .val (.long ss0), .second, .val (.ref b1181), .val (.ref b1199), l9, l10]
abbrev own_L0_6 (p0_0 : Int32) (p0_1 : Int32) (p0_2 : Int32) (b933 : Addr) (b1181 : Addr) (b1199 : Addr) (ss0 : Int64) (l9 l10 : Slot) : Array Slot := #[.val (.int p0_0), .val (.int p0_1), .val (.int p0_2), .val (.ref b933), .val (.int 2), .val (.long ss0), .second, .val (.ref b1181), .val (.ref b1199), l9, l10]
abbrev own_L0_7 (p0_0 : Int32) (p0_1 : Int32) (p0_2 : Int32) (b933 : Addr) (ss0 : Int64) (l7 l8 l9 l10 : Slot) : Array Slot := #[.val (.int p0_0), .val (.int p0_1), .val (.int p0_2), .val (.ref b933), .val (.int 3), .val (.long ss0), .second, l7, l8, l9, l10]
abbrev own_L0_8 (p0_0 : Int32) (p0_1 : Int32) (p0_2 : Int32) (b933 : Addr) (b1363 : Addr) (b1381 : Addr) (ss0 : Int64) (l9 l10 : Slot) : Array Slot := #[.val (.int p0_0), .val (.int p0_1), .val (.int p0_2), .val (.ref b933), .val (.int 3), .val (.long ss0), .second, .val (.ref b1363), .val (.ref b1381), l9, l10]
def Q0 (Z : State) (p0_0 : Int32) (p0_1 : Int32) (p0_2 : Int32) (h0 : Heap) (n0 : Nat) (v : Option Value) (h : Heap) (L : List Loc) : Prop := v = some (.int (1 : Int32)) ∧ Fr n0 L
set_option maxRecDepth 65536 in
set_option maxHeartbeats 40000000 in
theorem rm0 (l : Launch) (Z : State) (a0 : Array Value) (hw : ∀ d ∈ tables_1, d.before a0 Z = true) (ws : List Jvm.Cond) (p0_0 : Int32) (p0_1 : Int32) (p0_2 : Int32) (h0 : Heap) (n0 : Nat) (Z0 : n0 ≤ h0.size) :
    MetFree l x (head1 (Jvm.Cond.code x code maxLocals ret :: ws) room_1) (fun a U => a = #[(.int p0_0), (.int p0_1), (.int p0_2)] ∧ Z.Warmed39 U.vm ∧ U.heap = h0) (fun _ _ _ _ _ => True) (fun _ U o U' => ∃ v L, o = .returned v ∧ Q0 Z p0_0 p0_1 p0_2 h0 n0 v U'.heap L ∧ FrameEnd U o U' L 32 192) := by
  refine MetFree.of_bodySF (plainFor_of_name pn_gallai_service_ResidualDegreesLowerPinLaw) hisR ?_
  intro p e s m args below meth c s₁ Bd hml0 hP hK
  obtain ⟨rfl, hZ, hh⟩ := hP
  have hx := Bd.exec
  have hby := Bd.bytes
  have hlk := Bd.notSynchronized
  have hret := Bd.returns
  have hml : c.maxLocals = 11 := hml0
  have hown : s.vm.findClass "gallai/service/ResidualDegreesLowerPinLaw" = some m.cls := findClass_of_methodNamed Bd.named
  have hnm := (name_of_methodNamed Bd.named Bd.method).1
  have X0 : Stand p l e room_1 s m #[(.int p0_0), (.int p0_1), (.int p0_2)] below meth c s₁ [] 0 0 := Stand.of_body Bd
  have e0 : s₁.heap = h0 := by rw [← hh, Bd.state]; rfl
  have N0 := Fr.nil n0
  have K0 : Keep h0 h0 [] := Keep.refl _ _
  show own_G p e below s (Q0 Z p0_0 p0_1 p0_2 h0 n0) 32 192 s₁ (entryFrame m #[(.int p0_0), (.int p0_1), (.int p0_2)] maxLocals)
  have ww0 := hw _ (List.mem_of_getElem? (i := 0) rfl)
  have ww1 := hw _ (List.mem_of_getElem? (i := 1) rfl)
  have ww2 := hw _ (List.mem_of_getElem? (i := 2) rfl)
  have ww3 := hw _ (List.mem_of_getElem? (i := 3) rfl)
  have ww4 := hw _ (List.mem_of_getElem? (i := 4) rfl)
  have ww5 := hw _ (List.mem_of_getElem? (i := 5) rfl)
  have ww6 := hw _ (List.mem_of_getElem? (i := 6) rfl)
  have ww7 := hw _ (List.mem_of_getElem? (i := 7) rfl)
  have ww8 := hw _ (List.mem_of_getElem? (i := 8) rfl)
  have ww9 := hw _ (List.mem_of_getElem? (i := 9) rfl)
  have ww23 := hw _ (List.mem_of_getElem? (i := 23) rfl)
  have ww29 := hw _ (List.mem_of_getElem? (i := 29) rfl)
  have ww31 := hw _ (List.mem_of_getElem? (i := 31) rfl)
  have ww33 := hw _ (List.mem_of_getElem? (i := 33) rfl)
  have ww35 := hw _ (List.mem_of_getElem? (i := 35) rfl)
  have ww37 := hw _ (List.mem_of_getElem? (i := 37) rfl)
  have ww47 := hw _ (List.mem_of_getElem? (i := 47) rfl)
  have ww49 := hw _ (List.mem_of_getElem? (i := 49) rfl)
  have ww50 := hw _ (List.mem_of_getElem? (i := 50) rfl)
  have ww51 := hw _ (List.mem_of_getElem? (i := 51) rfl)
  have ww52 := hw _ (List.mem_of_getElem? (i := 52) rfl)
  have ww53 := hw _ (List.mem_of_getElem? (i := 53) rfl)
  have ww54 := hw _ (List.mem_of_getElem? (i := 54) rfl)
  have ww55 := hw _ (List.mem_of_getElem? (i := 55) rfl)
  have ww56 := hw _ (List.mem_of_getElem? (i := 56) rfl)
  have ww57 := hw _ (List.mem_of_getElem? (i := 57) rfl)
  have ww58 := hw _ (List.mem_of_getElem? (i := 58) rfl)
  have ww59 := hw _ (List.mem_of_getElem? (i := 59) rfl)
  have ww60 := hw _ (List.mem_of_getElem? (i := 60) rfl)
  have ww61 := hw _ (List.mem_of_getElem? (i := 61) rfl)
  have ww62 := hw _ (List.mem_of_getElem? (i := 62) rfl)
  have ww63 := hw _ (List.mem_of_getElem? (i := 63) rfl)
  have ww64 := hw _ (List.mem_of_getElem? (i := 64) rfl)
  have ww65 := hw _ (List.mem_of_getElem? (i := 65) rfl)
  have ww66 := hw _ (List.mem_of_getElem? (i := 66) rfl)
  have ww67 := hw _ (List.mem_of_getElem? (i := 67) rfl)
  have ww68 := hw _ (List.mem_of_getElem? (i := 68) rfl)
  refine own_cast (ef_0 m p0_0 p0_1 p0_2) ?_
  refine own_s (g' := (mkF m 1 #[.val (.int p0_0), .val (.int p0_1), .val (.int p0_2), .unset, .unset, .unset, .unset, .unset, .unset, .unset, .unset] [(.int 4)])) (fun _ kz => XS.iconst X0.here hx rfl (hb hby at_0) kz) ?_
  obtain ⟨T933, h933, k933, X933, e933, E933, A933, Ex933, st933⟩ := newPE (aty := .int) X0 hx hZ ww0 e0 (g := (mkF m 1 #[.val (.int p0_0), .val (.int p0_1), .val (.int p0_2), .unset, .unset, .unset, .unset, .unset, .unset, .unset, .unset] [(.int 4)])) rfl (hb hby at_1) rfl (by decide) (cap := 4) (by decide) (by decide) (by decide) (by decide) (ad := "[I") (by decide)
  obtain ⟨b933, ga933⟩ : ∃ z, z = h0.size := ⟨_, rfl⟩
  rw [← ga933] at A933 Ex933 st933
  have g_b933 := Nat.le_trans Z0 (Nat.le_of_eq ga933.symm)
  have sz_b933 := Nat.le_trans K0.1 (Nat.le_of_eq ga933.symm)
  have V933 : Arv Z h933 b933 k933 .int (4 : Int32) [(.int 0), (.int 0), (.int 0), (.int 0)] (.int 0) := (Arv.new A933 (by decide)).pad (pad_rep [] (.int 0) 4)
  have K933 := K0.ext E933
  refine own_s (g' := (mkF m 3 #[.val (.int p0_0), .val (.int p0_1), .val (.int p0_2), .unset, .unset, .unset, .unset, .unset, .unset, .unset, .unset] [(.ref b933)])) st933 ?_
  refine own_s (g' := (mkF m 4 #[.val (.int p0_0), .val (.int p0_1), .val (.int p0_2), .val (.ref b933), .unset, .unset, .unset, .unset, .unset, .unset, .unset] [])) (fun _ kz => XS.astoreN X933.here hx rfl (hb hby at_3) rfl rfl (l' := #[.val (.int p0_0), .val (.int p0_1), .val (.int p0_2), .val (.ref b933), .unset, .unset, .unset, .unset, .unset, .unset, .unset]) rfl kz) ?_
  refine own_s (g' := (mkF m 5 #[.val (.int p0_0), .val (.int p0_1), .val (.int p0_2), .val (.ref b933), .unset, .unset, .unset, .unset, .unset, .unset, .unset] [(.ref b933)])) (fun _ kz => XS.aloadN X933.here hx rfl (hb hby at_4) rfl rfl kz) ?_
  refine own_s (g' := (mkF m 6 #[.val (.int p0_0), .val (.int p0_1), .val (.int p0_2), .val (.ref b933), .unset, .unset, .unset, .unset, .unset, .unset, .unset] [(.int 0), (.ref b933)])) (fun _ kz => XS.iconst X933.here hx rfl (hb hby at_5) kz) ?_
  refine own_s (g' := (mkF m 7 #[.val (.int p0_0), .val (.int p0_1), .val (.int p0_2), .val (.ref b933), .unset, .unset, .unset, .unset, .unset, .unset, .unset] [(.int p0_0), (.int 0), (.ref b933)])) (fun _ kz => XS.iloadN X933.here hx rfl (hb hby at_6) rfl kz) ?_
  refine own_s (g' := (mkF m 9 #[.val (.int p0_0), .val (.int p0_1), .val (.int p0_2), .val (.ref b933), .unset, .unset, .unset, .unset, .unset, .unset, .unset] [(.int 7), (.int p0_0), (.int 0), (.ref b933)])) (fun _ kz => XS.bipush X933.here hx rfl (hb hby at_7) kz) ?_
  refine own_s (g' := (mkF m 10 #[.val (.int p0_0), .val (.int p0_1), .val (.int p0_2), .val (.ref b933), .unset, .unset, .unset, .unset, .unset, .unset, .unset] [(.int (p0_0 &&& (7 : Int32))), (.int 0), (.ref b933)])) (fun _ kz => XS.iand X933.here hx rfl (hb hby at_9) rfl kz) ?_
  obtain ⟨cl934, Ar934, q934, S934, M934, H934, G934⟩ := id V933
  obtain ⟨T934, h934, X934, e934, W934, st934⟩ := stI X933 hx hZ e933 Ar934 (j := (0 : Int32)) (inb_of S934 ⟨by decide, by decide⟩) (g := (mkF m 10 #[.val (.int p0_0), .val (.int p0_1), .val (.int p0_2), .val (.ref b933), .unset, .unset, .unset, .unset, .unset, .unset, .unset] [(.int (p0_0 &&& (7 : Int32))), (.int 0), (.ref b933)])) rfl rfl (hb hby at_10)
  have f935 : Arv Z h934 b933 k933 .int (4 : Int32) [(.int (p0_0 &&& (7 : Int32))), (.int 0), (.int 0), (.int 0)] (.int 0) := Arv.set Ar934 q934 S934 M934 H934 G934 rfl W934 0 rfl (Nat.le_of_ble_eq_true rfl)
  have K934 := K933.wr W934 (Or.inr sz_b933)
  have N934 := Fr.snoc X934 N0 g_b933
  refine own_s (g' := (mkF m 11 #[.val (.int p0_0), .val (.int p0_1), .val (.int p0_2), .val (.ref b933), .unset, .unset, .unset, .unset, .unset, .unset, .unset] [])) st934 ?_
  refine own_s (g' := (mkF m 12 #[.val (.int p0_0), .val (.int p0_1), .val (.int p0_2), .val (.ref b933), .unset, .unset, .unset, .unset, .unset, .unset, .unset] [(.ref b933)])) (fun _ kz => XS.aloadN X934.here hx rfl (hb hby at_11) rfl rfl kz) ?_
  refine own_s (g' := (mkF m 13 #[.val (.int p0_0), .val (.int p0_1), .val (.int p0_2), .val (.ref b933), .unset, .unset, .unset, .unset, .unset, .unset, .unset] [(.int 1), (.ref b933)])) (fun _ kz => XS.iconst X934.here hx rfl (hb hby at_12) kz) ?_
  refine own_s (g' := (mkF m 14 #[.val (.int p0_0), .val (.int p0_1), .val (.int p0_2), .val (.ref b933), .unset, .unset, .unset, .unset, .unset, .unset, .unset] [(.int p0_0), (.int 1), (.ref b933)])) (fun _ kz => XS.iloadN X934.here hx rfl (hb hby at_13) rfl kz) ?_
  refine own_s (g' := (mkF m 15 #[.val (.int p0_0), .val (.int p0_1), .val (.int p0_2), .val (.ref b933), .unset, .unset, .unset, .unset, .unset, .unset, .unset] [(.int 3), (.int p0_0), (.int 1), (.ref b933)])) (fun _ kz => XS.iconst X934.here hx rfl (hb hby at_14) kz) ?_
  refine own_s (g' := (mkF m 16 #[.val (.int p0_0), .val (.int p0_1), .val (.int p0_2), .val (.ref b933), .unset, .unset, .unset, .unset, .unset, .unset, .unset] [(.int ((p0_0.toUInt32 >>> ((3 : Int32) &&& 31).toUInt32).toInt32)), (.int 1), (.ref b933)])) (fun _ kz => XS.iushr X934.here hx rfl (hb hby at_15) rfl kz) ?_
  refine own_s (g' := (mkF m 18 #[.val (.int p0_0), .val (.int p0_1), .val (.int p0_2), .val (.ref b933), .unset, .unset, .unset, .unset, .unset, .unset, .unset] [(.int 7), (.int ((p0_0.toUInt32 >>> ((3 : Int32) &&& 31).toUInt32).toInt32)), (.int 1), (.ref b933)])) (fun _ kz => XS.bipush X934.here hx rfl (hb hby at_16) kz) ?_
  refine own_s (g' := (mkF m 19 #[.val (.int p0_0), .val (.int p0_1), .val (.int p0_2), .val (.ref b933), .unset, .unset, .unset, .unset, .unset, .unset, .unset] [(.int (((p0_0.toUInt32 >>> ((3 : Int32) &&& 31).toUInt32).toInt32) &&& (7 : Int32))), (.int 1), (.ref b933)])) (fun _ kz => XS.iand X934.here hx rfl (hb hby at_18) rfl kz) ?_
  obtain ⟨cl936, Ar936, q936, S936, M936, H936, G936⟩ := id f935
  obtain ⟨T936, h936, X936, e936, W936, st936⟩ := stI X934 hx hZ e934 Ar936 (j := (1 : Int32)) (inb_of S936 ⟨by decide, by decide⟩) (g := (mkF m 19 #[.val (.int p0_0), .val (.int p0_1), .val (.int p0_2), .val (.ref b933), .unset, .unset, .unset, .unset, .unset, .unset, .unset] [(.int (((p0_0.toUInt32 >>> ((3 : Int32) &&& 31).toUInt32).toInt32) &&& (7 : Int32))), (.int 1), (.ref b933)])) rfl rfl (hb hby at_19)
  have f937 : Arv Z h936 b933 k933 .int (4 : Int32) [(.int (p0_0 &&& (7 : Int32))), (.int (((p0_0.toUInt32 >>> ((3 : Int32) &&& 31).toUInt32).toInt32) &&& (7 : Int32))), (.int 0), (.int 0)] (.int 0) := Arv.set Ar936 q936 S936 M936 H936 G936 rfl W936 1 rfl (Nat.le_of_ble_eq_true rfl)
  have K936 := K934.wr W936 (Or.inr sz_b933)
  have N936 := Fr.snoc X936 N934 g_b933
  refine own_s (g' := (mkF m 20 #[.val (.int p0_0), .val (.int p0_1), .val (.int p0_2), .val (.ref b933), .unset, .unset, .unset, .unset, .unset, .unset, .unset] [])) st936 ?_
  refine own_s (g' := (mkF m 21 #[.val (.int p0_0), .val (.int p0_1), .val (.int p0_2), .val (.ref b933), .unset, .unset, .unset, .unset, .unset, .unset, .unset] [(.ref b933)])) (fun _ kz => XS.aloadN X936.here hx rfl (hb hby at_20) rfl rfl kz) ?_
  refine own_s (g' := (mkF m 22 #[.val (.int p0_0), .val (.int p0_1), .val (.int p0_2), .val (.ref b933), .unset, .unset, .unset, .unset, .unset, .unset, .unset] [(.int 2), (.ref b933)])) (fun _ kz => XS.iconst X936.here hx rfl (hb hby at_21) kz) ?_
  refine own_s (g' := (mkF m 23 #[.val (.int p0_0), .val (.int p0_1), .val (.int p0_2), .val (.ref b933), .unset, .unset, .unset, .unset, .unset, .unset, .unset] [(.int p0_0), (.int 2), (.ref b933)])) (fun _ kz => XS.iloadN X936.here hx rfl (hb hby at_22) rfl kz) ?_
  refine own_s (g' := (mkF m 25 #[.val (.int p0_0), .val (.int p0_1), .val (.int p0_2), .val (.ref b933), .unset, .unset, .unset, .unset, .unset, .unset, .unset] [(.int 6), (.int p0_0), (.int 2), (.ref b933)])) (fun _ kz => XS.bipush X936.here hx rfl (hb hby at_23) kz) ?_
  refine own_s (g' := (mkF m 26 #[.val (.int p0_0), .val (.int p0_1), .val (.int p0_2), .val (.ref b933), .unset, .unset, .unset, .unset, .unset, .unset, .unset] [(.int ((p0_0.toUInt32 >>> ((6 : Int32) &&& 31).toUInt32).toInt32)), (.int 2), (.ref b933)])) (fun _ kz => XS.iushr X936.here hx rfl (hb hby at_25) rfl kz) ?_
  refine own_s (g' := (mkF m 28 #[.val (.int p0_0), .val (.int p0_1), .val (.int p0_2), .val (.ref b933), .unset, .unset, .unset, .unset, .unset, .unset, .unset] [(.int 7), (.int ((p0_0.toUInt32 >>> ((6 : Int32) &&& 31).toUInt32).toInt32)), (.int 2), (.ref b933)])) (fun _ kz => XS.bipush X936.here hx rfl (hb hby at_26) kz) ?_
  refine own_s (g' := (mkF m 29 #[.val (.int p0_0), .val (.int p0_1), .val (.int p0_2), .val (.ref b933), .unset, .unset, .unset, .unset, .unset, .unset, .unset] [(.int (((p0_0.toUInt32 >>> ((6 : Int32) &&& 31).toUInt32).toInt32) &&& (7 : Int32))), (.int 2), (.ref b933)])) (fun _ kz => XS.iand X936.here hx rfl (hb hby at_28) rfl kz) ?_
  obtain ⟨cl938, Ar938, q938, S938, M938, H938, G938⟩ := id f937
  obtain ⟨T938, h938, X938, e938, W938, st938⟩ := stI X936 hx hZ e936 Ar938 (j := (2 : Int32)) (inb_of S938 ⟨by decide, by decide⟩) (g := (mkF m 29 #[.val (.int p0_0), .val (.int p0_1), .val (.int p0_2), .val (.ref b933), .unset, .unset, .unset, .unset, .unset, .unset, .unset] [(.int (((p0_0.toUInt32 >>> ((6 : Int32) &&& 31).toUInt32).toInt32) &&& (7 : Int32))), (.int 2), (.ref b933)])) rfl rfl (hb hby at_29)
  have f939 : Arv Z h938 b933 k933 .int (4 : Int32) [(.int (p0_0 &&& (7 : Int32))), (.int (((p0_0.toUInt32 >>> ((3 : Int32) &&& 31).toUInt32).toInt32) &&& (7 : Int32))), (.int (((p0_0.toUInt32 >>> ((6 : Int32) &&& 31).toUInt32).toInt32) &&& (7 : Int32))), (.int 0)] (.int 0) := Arv.set Ar938 q938 S938 M938 H938 G938 rfl W938 2 rfl (Nat.le_of_ble_eq_true rfl)
  have K938 := K936.wr W938 (Or.inr sz_b933)
  have N938 := Fr.snoc X938 N936 g_b933
  refine own_s (g' := (mkF m 30 #[.val (.int p0_0), .val (.int p0_1), .val (.int p0_2), .val (.ref b933), .unset, .unset, .unset, .unset, .unset, .unset, .unset] [])) st938 ?_
  refine own_s (g' := (mkF m 31 #[.val (.int p0_0), .val (.int p0_1), .val (.int p0_2), .val (.ref b933), .unset, .unset, .unset, .unset, .unset, .unset, .unset] [(.ref b933)])) (fun _ kz => XS.aloadN X938.here hx rfl (hb hby at_30) rfl rfl kz) ?_
  refine own_s (g' := (mkF m 32 #[.val (.int p0_0), .val (.int p0_1), .val (.int p0_2), .val (.ref b933), .unset, .unset, .unset, .unset, .unset, .unset, .unset] [(.int 3), (.ref b933)])) (fun _ kz => XS.iconst X938.here hx rfl (hb hby at_31) kz) ?_
  refine own_s (g' := (mkF m 33 #[.val (.int p0_0), .val (.int p0_1), .val (.int p0_2), .val (.ref b933), .unset, .unset, .unset, .unset, .unset, .unset, .unset] [(.int p0_0), (.int 3), (.ref b933)])) (fun _ kz => XS.iloadN X938.here hx rfl (hb hby at_32) rfl kz) ?_
  refine own_s (g' := (mkF m 35 #[.val (.int p0_0), .val (.int p0_1), .val (.int p0_2), .val (.ref b933), .unset, .unset, .unset, .unset, .unset, .unset, .unset] [(.int 9), (.int p0_0), (.int 3), (.ref b933)])) (fun _ kz => XS.bipush X938.here hx rfl (hb hby at_33) kz) ?_
  refine own_s (g' := (mkF m 36 #[.val (.int p0_0), .val (.int p0_1), .val (.int p0_2), .val (.ref b933), .unset, .unset, .unset, .unset, .unset, .unset, .unset] [(.int ((p0_0.toUInt32 >>> ((9 : Int32) &&& 31).toUInt32).toInt32)), (.int 3), (.ref b933)])) (fun _ kz => XS.iushr X938.here hx rfl (hb hby at_35) rfl kz) ?_
  refine own_s (g' := (mkF m 38 #[.val (.int p0_0), .val (.int p0_1), .val (.int p0_2), .val (.ref b933), .unset, .unset, .unset, .unset, .unset, .unset, .unset] [(.int 7), (.int ((p0_0.toUInt32 >>> ((9 : Int32) &&& 31).toUInt32).toInt32)), (.int 3), (.ref b933)])) (fun _ kz => XS.bipush X938.here hx rfl (hb hby at_36) kz) ?_
  refine own_s (g' := (mkF m 39 #[.val (.int p0_0), .val (.int p0_1), .val (.int p0_2), .val (.ref b933), .unset, .unset, .unset, .unset, .unset, .unset, .unset] [(.int (((p0_0.toUInt32 >>> ((9 : Int32) &&& 31).toUInt32).toInt32) &&& (7 : Int32))), (.int 3), (.ref b933)])) (fun _ kz => XS.iand X938.here hx rfl (hb hby at_38) rfl kz) ?_
  obtain ⟨cl940, Ar940, q940, S940, M940, H940, G940⟩ := id f939
  obtain ⟨T940, h940, X940, e940, W940, st940⟩ := stI X938 hx hZ e938 Ar940 (j := (3 : Int32)) (inb_of S940 ⟨by decide, by decide⟩) (g := (mkF m 39 #[.val (.int p0_0), .val (.int p0_1), .val (.int p0_2), .val (.ref b933), .unset, .unset, .unset, .unset, .unset, .unset, .unset] [(.int (((p0_0.toUInt32 >>> ((9 : Int32) &&& 31).toUInt32).toInt32) &&& (7 : Int32))), (.int 3), (.ref b933)])) rfl rfl (hb hby at_39)
  have f941 : Arv Z h940 b933 k933 .int (4 : Int32) [(.int (p0_0 &&& (7 : Int32))), (.int (((p0_0.toUInt32 >>> ((3 : Int32) &&& 31).toUInt32).toInt32) &&& (7 : Int32))), (.int (((p0_0.toUInt32 >>> ((6 : Int32) &&& 31).toUInt32).toInt32) &&& (7 : Int32))), (.int (((p0_0.toUInt32 >>> ((9 : Int32) &&& 31).toUInt32).toInt32) &&& (7 : Int32)))] (.int 0) := Arv.set Ar940 q940 S940 M940 H940 G940 rfl W940 3 rfl (Nat.le_of_ble_eq_true rfl)
  have K940 := K938.wr W940 (Or.inr sz_b933)
  have N940 := Fr.snoc X940 N938 g_b933
  refine own_s (g' := (mkF m 40 #[.val (.int p0_0), .val (.int p0_1), .val (.int p0_2), .val (.ref b933), .unset, .unset, .unset, .unset, .unset, .unset, .unset] [])) st940 ?_
  obtain ⟨cc0, hcc0⟩ : ∃ z, z = (p0_0 &&& (7 : Int32)) := ⟨_, rfl⟩
  rw [← hcc0] at f941
  have hb0 := own_b7 p0_0
  have hs0 := own_b77 p0_0
  rw [← hcc0] at hb0 hs0
  obtain ⟨cc1, hcc1⟩ : ∃ z, z = (((p0_0.toUInt32 >>> ((3 : Int32) &&& 31).toUInt32).toInt32) &&& (7 : Int32)) := ⟨_, rfl⟩
  rw [← hcc1] at f941
  have hb1 := own_b7 ((p0_0.toUInt32 >>> ((3 : Int32) &&& 31).toUInt32).toInt32)
  have hs1 := own_b77 ((p0_0.toUInt32 >>> ((3 : Int32) &&& 31).toUInt32).toInt32)
  rw [← hcc1] at hb1 hs1
  obtain ⟨cc2, hcc2⟩ : ∃ z, z = (((p0_0.toUInt32 >>> ((6 : Int32) &&& 31).toUInt32).toInt32) &&& (7 : Int32)) := ⟨_, rfl⟩
  rw [← hcc2] at f941
  have hb2 := own_b7 ((p0_0.toUInt32 >>> ((6 : Int32) &&& 31).toUInt32).toInt32)
  have hs2 := own_b77 ((p0_0.toUInt32 >>> ((6 : Int32) &&& 31).toUInt32).toInt32)
  rw [← hcc2] at hb2 hs2
  obtain ⟨cc3, hcc3⟩ : ∃ z, z = (((p0_0.toUInt32 >>> ((9 : Int32) &&& 31).toUInt32).toInt32) &&& (7 : Int32)) := ⟨_, rfl⟩
  rw [← hcc3] at f941
  have hb3 := own_b7 ((p0_0.toUInt32 >>> ((9 : Int32) &&& 31).toUInt32).toInt32)
  have hs3 := own_b77 ((p0_0.toUInt32 >>> ((9 : Int32) &&& 31).toUInt32).toInt32)
  rw [← hcc3] at hb3 hs3
  refine own_s (g' := (mkF m 41 #[.val (.int p0_0), .val (.int p0_1), .val (.int p0_2), .val (.ref b933), .unset, .unset, .unset, .unset, .unset, .unset, .unset] [(.int 1)])) (fun _ kz => XS.iconst X940.here hx rfl (hb hby at_40) kz) ?_
  refine own_s (g' := (mkF m 42 #[.val (.int p0_0), .val (.int p0_1), .val (.int p0_2), .val (.ref b933), .unset, .unset, .unset, .unset, .unset, .unset, .unset] [(.int p0_1), (.int 1)])) (fun _ kz => XS.iloadN X940.here hx rfl (hb hby at_41) rfl kz) ?_
  refine own_s (g' := (mkF m 44 #[.val (.int p0_0), .val (.int p0_1), .val (.int p0_2), .val (.ref b933), .unset, .unset, .unset, .unset, .unset, .unset, .unset] [(.int 2147483647), (.int p0_1), (.int 1)])) (X940.ldcInt hx hown (mvT hZ ww1) (g := (mkF m 42 #[.val (.int p0_0), .val (.int p0_1), .val (.int p0_2), .val (.ref b933), .unset, .unset, .unset, .unset, .unset, .unset, .unset] [(.int p0_1), (.int 1)])) rfl (hb hby at_42)) ?_
  refine own_s (g' := (mkF m 45 #[.val (.int p0_0), .val (.int p0_1), .val (.int p0_2), .val (.ref b933), .unset, .unset, .unset, .unset, .unset, .unset, .unset] [(.int (p0_1 &&& (2147483647 : Int32))), (.int 1)])) (fun _ kz => XS.iand X940.here hx rfl (hb hby at_44) rfl kz) ?_
  refine own_s (g' := (mkF m 46 #[.val (.int p0_0), .val (.int p0_1), .val (.int p0_2), .val (.ref b933), .unset, .unset, .unset, .unset, .unset, .unset, .unset] [(.int 3), (.int (p0_1 &&& (2147483647 : Int32))), (.int 1)])) (fun _ kz => XS.iconst X940.here hx rfl (hb hby at_45) kz) ?_
  refine own_s (g' := (mkF m 47 #[.val (.int p0_0), .val (.int p0_1), .val (.int p0_2), .val (.ref b933), .unset, .unset, .unset, .unset, .unset, .unset, .unset] [(.int ((p0_1 &&& (2147483647 : Int32)) % (3 : Int32))), (.int 1)])) (fun _ kz => iremM X940 hx rfl (hb hby at_46) rfl (by decide) kz) ?_
  refine own_s (g' := (mkF m 48 #[.val (.int p0_0), .val (.int p0_1), .val (.int p0_2), .val (.ref b933), .unset, .unset, .unset, .unset, .unset, .unset, .unset] [(.int ((1 : Int32) + ((p0_1 &&& (2147483647 : Int32)) % (3 : Int32))))])) (fun _ kz => XS.iadd X940.here hx rfl (hb hby at_47) rfl kz) ?_
  rcases own_d p0_1 with hd1 | hd1 | hd1
  ·skip
   rw [show ((1 : Int32) + ((p0_1 &&& (2147483647 : Int32)) % (3 : Int32))) = (1 : Int32) from hd1]
   refine own_s (g' := (mkF m 50 #[.val (.int p0_0), .val (.int p0_1), .val (.int p0_2), .val (.ref b933), .val (.int 1), .unset, .unset, .unset, .unset, .unset, .unset] [])) (fun _ kz => XS.istore X940.here hx rfl (hb hby at_48) rfl (l' := #[.val (.int p0_0), .val (.int p0_1), .val (.int p0_2), .val (.ref b933), .val (.int 1), .unset, .unset, .unset, .unset, .unset, .unset]) rfl kz) ?_
   refine own_s (g' := (mkF m 51 #[.val (.int p0_0), .val (.int p0_1), .val (.int p0_2), .val (.ref b933), .val (.int 1), .unset, .unset, .unset, .unset, .unset, .unset] [(.ref b933)])) (fun _ kz => XS.aloadN X940.here hx rfl (hb hby at_50) rfl rfl kz) ?_
   refine own_s (g' := (mkF m 53 #[.val (.int p0_0), .val (.int p0_1), .val (.int p0_2), .val (.ref b933), .val (.int 1), .unset, .unset, .unset, .unset, .unset, .unset] [(.int 1), (.ref b933)])) (fun _ kz => XS.iload X940.here hx rfl (hb hby at_51) rfl kz) ?_
   refine own_s (g' := (mkF m 54 #[.val (.int p0_0), .val (.int p0_1), .val (.int p0_2), .val (.ref b933), .val (.int 1), .unset, .unset, .unset, .unset, .unset, .unset] [(.ref b933), (.int 1), (.ref b933)])) (fun _ kz => XS.aloadN X940.here hx rfl (hb hby at_53) rfl rfl kz) ?_
   refine own_s (g' := (mkF m 56 #[.val (.int p0_0), .val (.int p0_1), .val (.int p0_2), .val (.ref b933), .val (.int 1), .unset, .unset, .unset, .unset, .unset, .unset] [(.int 1), (.ref b933), (.int 1), (.ref b933)])) (fun _ kz => XS.iload X940.here hx rfl (hb hby at_54) rfl kz) ?_
   obtain ⟨cl942, Ar942, -, S942, -, H942, -⟩ := id f941
   have in942 := inb_of S942 (j := (1 : Int32)) ⟨by decide, by decide⟩
   refine own_s (g' := (mkF m 57 #[.val (.int p0_0), .val (.int p0_1), .val (.int p0_2), .val (.ref b933), .val (.int 1), .unset, .unset, .unset, .unset, .unset, .unset] [(.int cc1), (.int 1), (.ref b933)])) (X940.iaload hx (j := (1 : Int32)) (v := (.int cc1)) (by rw [e940]; exact Ar942.1) (State.isArrayOf_alike hZ.alike Ar942.2.1) Ar942.2.2 in942 (Has.at H942 in942 rfl) (g := (mkF m 56 #[.val (.int p0_0), .val (.int p0_1), .val (.int p0_2), .val (.ref b933), .val (.int 1), .unset, .unset, .unset, .unset, .unset, .unset] [(.int 1), (.ref b933), (.int 1), (.ref b933)])) rfl rfl (hb hby at_56)) ?_
   refine own_s (g' := (mkF m 58 #[.val (.int p0_0), .val (.int p0_1), .val (.int p0_2), .val (.ref b933), .val (.int 1), .unset, .unset, .unset, .unset, .unset, .unset] [(.int 1), (.int cc1), (.int 1), (.ref b933)])) (fun _ kz => XS.iconst X940.here hx rfl (hb hby at_57) kz) ?_
   refine own_s (g' := (mkF m 59 #[.val (.int p0_0), .val (.int p0_1), .val (.int p0_2), .val (.ref b933), .val (.int 1), .unset, .unset, .unset, .unset, .unset, .unset] [(.int (cc1 + (1 : Int32))), (.int 1), (.ref b933)])) (fun _ kz => XS.iadd X940.here hx rfl (hb hby at_58) rfl kz) ?_
   obtain ⟨cl943, Ar943, q943, S943, M943, H943, G943⟩ := id f941
   obtain ⟨T943, h943, X943, e943, W943, st943⟩ := stI X940 hx hZ e940 Ar943 (j := (1 : Int32)) (inb_of S943 ⟨by decide, by decide⟩) (g := (mkF m 59 #[.val (.int p0_0), .val (.int p0_1), .val (.int p0_2), .val (.ref b933), .val (.int 1), .unset, .unset, .unset, .unset, .unset, .unset] [(.int (cc1 + (1 : Int32))), (.int 1), (.ref b933)])) rfl rfl (hb hby at_59)
   have f944 : Arv Z h943 b933 k933 .int (4 : Int32) [(.int cc0), (.int (cc1 + (1 : Int32))), (.int cc2), (.int cc3)] (.int 0) := Arv.set Ar943 q943 S943 M943 H943 G943 rfl W943 1 rfl (Nat.le_of_ble_eq_true rfl)
   have K943 := K940.wr W943 (Or.inr sz_b933)
   have N943 := Fr.snoc X943 N940 g_b933
   refine own_s (g' := (mkF m 60 #[.val (.int p0_0), .val (.int p0_1), .val (.int p0_2), .val (.ref b933), .val (.int 1), .unset, .unset, .unset, .unset, .unset, .unset] [])) st943 ?_
   refine own_s (g' := (mkF m 61 #[.val (.int p0_0), .val (.int p0_1), .val (.int p0_2), .val (.ref b933), .val (.int 1), .unset, .unset, .unset, .unset, .unset, .unset] [(.ref b933)])) (fun _ kz => XS.aloadN X943.here hx rfl (hb hby at_60) rfl rfl kz) ?_
   refine own_s (g' := (mkF m 62 #[.val (.int p0_0), .val (.int p0_1), .val (.int p0_2), .val (.ref b933), .val (.int 1), .unset, .unset, .unset, .unset, .unset, .unset] [(.int 1), (.ref b933)])) (fun _ kz => XS.iconst X943.here hx rfl (hb hby at_61) kz) ?_
   obtain ⟨cl945, Ar945, -, S945, -, H945, -⟩ := id f944
   have in945 := inb_of S945 (j := (1 : Int32)) ⟨by decide, by decide⟩
   refine own_s (g' := (mkF m 63 #[.val (.int p0_0), .val (.int p0_1), .val (.int p0_2), .val (.ref b933), .val (.int 1), .unset, .unset, .unset, .unset, .unset, .unset] [(.int (cc1 + (1 : Int32)))])) (X943.iaload hx (j := (1 : Int32)) (v := (.int (cc1 + (1 : Int32)))) (by rw [e943]; exact Ar945.1) (State.isArrayOf_alike hZ.alike Ar945.2.1) Ar945.2.2 in945 (Has.at H945 in945 rfl) (g := (mkF m 62 #[.val (.int p0_0), .val (.int p0_1), .val (.int p0_2), .val (.ref b933), .val (.int 1), .unset, .unset, .unset, .unset, .unset, .unset] [(.int 1), (.ref b933)])) rfl rfl (hb hby at_62)) ?_
   refine own_s (g' := (mkF m 64 #[.val (.int p0_0), .val (.int p0_1), .val (.int p0_2), .val (.ref b933), .val (.int 1), .unset, .unset, .unset, .unset, .unset, .unset] [(.long (cc1 + (1 : Int32)).toInt64)])) (fun _ kz => XS.i2l X943.here hx rfl (hb hby at_63) rfl kz) ?_
   refine own_s (g' := (mkF m 67 #[.val (.int p0_0), .val (.int p0_1), .val (.int p0_2), .val (.ref b933), .val (.int 1), .unset, .unset, .unset, .unset, .unset, .unset] [(.long 2), (.long (cc1 + (1 : Int32)).toInt64)])) (X943.ldc2Long hx hown (mvT hZ ww2) (g := (mkF m 64 #[.val (.int p0_0), .val (.int p0_1), .val (.int p0_2), .val (.ref b933), .val (.int 1), .unset, .unset, .unset, .unset, .unset, .unset] [(.long (cc1 + (1 : Int32)).toInt64)])) rfl (hb hby at_64)) ?_
   refine own_s (g' := (mkF m 68 #[.val (.int p0_0), .val (.int p0_1), .val (.int p0_2), .val (.ref b933), .val (.int 1), .unset, .unset, .unset, .unset, .unset, .unset] [(.ref b933), (.long 2), (.long (cc1 + (1 : Int32)).toInt64)])) (fun _ kz => XS.aloadN X943.here hx rfl (hb hby at_67) rfl rfl kz) ?_
   refine own_s (g' := (mkF m 69 #[.val (.int p0_0), .val (.int p0_1), .val (.int p0_2), .val (.ref b933), .val (.int 1), .unset, .unset, .unset, .unset, .unset, .unset] [(.int 2), (.ref b933), (.long 2), (.long (cc1 + (1 : Int32)).toInt64)])) (fun _ kz => XS.iconst X943.here hx rfl (hb hby at_68) kz) ?_
   obtain ⟨cl946, Ar946, -, S946, -, H946, -⟩ := id f944
   have in946 := inb_of S946 (j := (2 : Int32)) ⟨by decide, by decide⟩
   refine own_s (g' := (mkF m 70 #[.val (.int p0_0), .val (.int p0_1), .val (.int p0_2), .val (.ref b933), .val (.int 1), .unset, .unset, .unset, .unset, .unset, .unset] [(.int cc2), (.long 2), (.long (cc1 + (1 : Int32)).toInt64)])) (X943.iaload hx (j := (2 : Int32)) (v := (.int cc2)) (by rw [e943]; exact Ar946.1) (State.isArrayOf_alike hZ.alike Ar946.2.1) Ar946.2.2 in946 (Has.at H946 in946 rfl) (g := (mkF m 69 #[.val (.int p0_0), .val (.int p0_1), .val (.int p0_2), .val (.ref b933), .val (.int 1), .unset, .unset, .unset, .unset, .unset, .unset] [(.int 2), (.ref b933), (.long 2), (.long (cc1 + (1 : Int32)).toInt64)])) rfl rfl (hb hby at_69)) ?_
   refine own_s (g' := (mkF m 71 #[.val (.int p0_0), .val (.int p0_1), .val (.int p0_2), .val (.ref b933), .val (.int 1), .unset, .unset, .unset, .unset, .unset, .unset] [(.long cc2.toInt64), (.long 2), (.long (cc1 + (1 : Int32)).toInt64)])) (fun _ kz => XS.i2l X943.here hx rfl (hb hby at_70) rfl kz) ?_
   refine own_s (g' := (mkF m 72 #[.val (.int p0_0), .val (.int p0_1), .val (.int p0_2), .val (.ref b933), .val (.int 1), .unset, .unset, .unset, .unset, .unset, .unset] [(.long ((2 : Int64) * cc2.toInt64)), (.long (cc1 + (1 : Int32)).toInt64)])) (fun _ kz => XS.lmul X943.here hx rfl (hb hby at_71) rfl kz) ?_
   refine own_s (g' := (mkF m 73 #[.val (.int p0_0), .val (.int p0_1), .val (.int p0_2), .val (.ref b933), .val (.int 1), .unset, .unset, .unset, .unset, .unset, .unset] [(.long ((cc1 + (1 : Int32)).toInt64 + ((2 : Int64) * cc2.toInt64)))])) (fun _ kz => XS.ladd X943.here hx rfl (hb hby at_72) rfl kz) ?_
   refine own_s (g' := (mkF m 76 #[.val (.int p0_0), .val (.int p0_1), .val (.int p0_2), .val (.ref b933), .val (.int 1), .unset, .unset, .unset, .unset, .unset, .unset] [(.long 3), (.long ((cc1 + (1 : Int32)).toInt64 + ((2 : Int64) * cc2.toInt64)))])) (X943.ldc2Long hx hown (mvT hZ ww3) (g := (mkF m 73 #[.val (.int p0_0), .val (.int p0_1), .val (.int p0_2), .val (.ref b933), .val (.int 1), .unset, .unset, .unset, .unset, .unset, .unset] [(.long ((cc1 + (1 : Int32)).toInt64 + ((2 : Int64) * cc2.toInt64)))])) rfl (hb hby at_73)) ?_
   refine own_s (g' := (mkF m 77 #[.val (.int p0_0), .val (.int p0_1), .val (.int p0_2), .val (.ref b933), .val (.int 1), .unset, .unset, .unset, .unset, .unset, .unset] [(.ref b933), (.long 3), (.long ((cc1 + (1 : Int32)).toInt64 + ((2 : Int64) * cc2.toInt64)))])) (fun _ kz => XS.aloadN X943.here hx rfl (hb hby at_76) rfl rfl kz) ?_
   refine own_s (g' := (mkF m 78 #[.val (.int p0_0), .val (.int p0_1), .val (.int p0_2), .val (.ref b933), .val (.int 1), .unset, .unset, .unset, .unset, .unset, .unset] [(.int 3), (.ref b933), (.long 3), (.long ((cc1 + (1 : Int32)).toInt64 + ((2 : Int64) * cc2.toInt64)))])) (fun _ kz => XS.iconst X943.here hx rfl (hb hby at_77) kz) ?_
   obtain ⟨cl947, Ar947, -, S947, -, H947, -⟩ := id f944
   have in947 := inb_of S947 (j := (3 : Int32)) ⟨by decide, by decide⟩
   refine own_s (g' := (mkF m 79 #[.val (.int p0_0), .val (.int p0_1), .val (.int p0_2), .val (.ref b933), .val (.int 1), .unset, .unset, .unset, .unset, .unset, .unset] [(.int cc3), (.long 3), (.long ((cc1 + (1 : Int32)).toInt64 + ((2 : Int64) * cc2.toInt64)))])) (X943.iaload hx (j := (3 : Int32)) (v := (.int cc3)) (by rw [e943]; exact Ar947.1) (State.isArrayOf_alike hZ.alike Ar947.2.1) Ar947.2.2 in947 (Has.at H947 in947 rfl) (g := (mkF m 78 #[.val (.int p0_0), .val (.int p0_1), .val (.int p0_2), .val (.ref b933), .val (.int 1), .unset, .unset, .unset, .unset, .unset, .unset] [(.int 3), (.ref b933), (.long 3), (.long ((cc1 + (1 : Int32)).toInt64 + ((2 : Int64) * cc2.toInt64)))])) rfl rfl (hb hby at_78)) ?_
   refine own_s (g' := (mkF m 80 #[.val (.int p0_0), .val (.int p0_1), .val (.int p0_2), .val (.ref b933), .val (.int 1), .unset, .unset, .unset, .unset, .unset, .unset] [(.long cc3.toInt64), (.long 3), (.long ((cc1 + (1 : Int32)).toInt64 + ((2 : Int64) * cc2.toInt64)))])) (fun _ kz => XS.i2l X943.here hx rfl (hb hby at_79) rfl kz) ?_
   refine own_s (g' := (mkF m 81 #[.val (.int p0_0), .val (.int p0_1), .val (.int p0_2), .val (.ref b933), .val (.int 1), .unset, .unset, .unset, .unset, .unset, .unset] [(.long ((3 : Int64) * cc3.toInt64)), (.long ((cc1 + (1 : Int32)).toInt64 + ((2 : Int64) * cc2.toInt64)))])) (fun _ kz => XS.lmul X943.here hx rfl (hb hby at_80) rfl kz) ?_
   refine own_s (g' := (mkF m 82 #[.val (.int p0_0), .val (.int p0_1), .val (.int p0_2), .val (.ref b933), .val (.int 1), .unset, .unset, .unset, .unset, .unset, .unset] [(.long (((cc1 + (1 : Int32)).toInt64 + ((2 : Int64) * cc2.toInt64)) + ((3 : Int64) * cc3.toInt64)))])) (fun _ kz => XS.ladd X943.here hx rfl (hb hby at_81) rfl kz) ?_
   obtain ⟨ss0, hss0⟩ : ∃ z, z = (((cc1 + (1 : Int32)).toInt64 + ((2 : Int64) * cc2.toInt64)) + ((3 : Int64) * cc3.toInt64)) := ⟨_, rfl⟩
   rw [← hss0]
   refine own_s (g' := (mkF m 84 #[.val (.int p0_0), .val (.int p0_1), .val (.int p0_2), .val (.ref b933), .val (.int 1), .val (.long ss0), .second, .unset, .unset, .unset, .unset] [])) (fun _ kz => XS.lstore X943.here hx rfl (hb hby at_82) rfl (l' := #[.val (.int p0_0), .val (.int p0_1), .val (.int p0_2), .val (.ref b933), .val (.int 1), .val (.long ss0), .second, .unset, .unset, .unset, .unset]) rfl kz) ?_
   show own_G p e below s _ _ _ T943 (mkF m _ (own_L0_0 p0_0 p0_1 p0_2 b933 ss0 .unset .unset .unset .unset) _)
   refine own_s (g' := (mkF m 85 (own_L0_0 p0_0 p0_1 p0_2 b933 ss0 .unset .unset .unset .unset) [(.int 4)])) (fun _ kz => XS.iconst X943.here hx rfl (hb hby at_84) kz) ?_
   obtain ⟨T948, h948, k948, X948, e948, E948, A948, Ex948, st948⟩ := newPE (aty := .int) X943 hx hZ ww0 e943 (g := (mkF m 85 (own_L0_0 p0_0 p0_1 p0_2 b933 ss0 .unset .unset .unset .unset) [(.int 4)])) rfl (hb hby at_85) rfl (by decide) (cap := 4) (by decide) (by decide) (by decide) (by decide) (ad := "[I") (by decide)
   obtain ⟨b948, ga948⟩ : ∃ z, z = h943.size := ⟨_, rfl⟩
   rw [← ga948] at A948 Ex948 st948
   have g_b948 := Nat.le_trans (Nat.le_trans Z0 K943.1) (Nat.le_of_eq ga948.symm)
   have sz_b948 := Nat.le_trans K943.1 (Nat.le_of_eq ga948.symm)
   have V948 : Arv Z h948 b948 k948 .int (4 : Int32) [(.int 0), (.int 0), (.int 0), (.int 0)] (.int 0) := (Arv.new A948 (by decide)).pad (pad_rep [] (.int 0) 4)
   have K948 := K943.ext E948
   refine own_s (g' := (mkF m 87 (own_L0_0 p0_0 p0_1 p0_2 b933 ss0 .unset .unset .unset .unset) [(.ref b948)])) st948 ?_
   refine own_s (g' := (mkF m 88 (own_L0_0 p0_0 p0_1 p0_2 b933 ss0 .unset .unset .unset .unset) [(.ref b948), (.ref b948)])) (fun _ kz => XS.dup X948.here hx rfl (hb hby at_87) rfl rfl kz) ?_
   refine own_s (g' := (mkF m 89 (own_L0_0 p0_0 p0_1 p0_2 b933 ss0 .unset .unset .unset .unset) [(.int 0), (.ref b948), (.ref b948)])) (fun _ kz => XS.iconst X948.here hx rfl (hb hby at_88) kz) ?_
   refine own_s (g' := (mkF m 90 (own_L0_0 p0_0 p0_1 p0_2 b933 ss0 .unset .unset .unset .unset) [(.ref b933), (.int 0), (.ref b948), (.ref b948)])) (fun _ kz => XS.aloadN X948.here hx rfl (hb hby at_89) rfl rfl kz) ?_
   refine own_s (g' := (mkF m 91 (own_L0_0 p0_0 p0_1 p0_2 b933 ss0 .unset .unset .unset .unset) [(.int 0), (.ref b933), (.int 0), (.ref b948), (.ref b948)])) (fun _ kz => XS.iconst X948.here hx rfl (hb hby at_90) kz) ?_
   have f949 := (f944.ext E948)
   obtain ⟨cl950, Ar950, -, S950, -, H950, -⟩ := id f949
   have in950 := inb_of S950 (j := (0 : Int32)) ⟨by decide, by decide⟩
   refine own_s (g' := (mkF m 92 (own_L0_0 p0_0 p0_1 p0_2 b933 ss0 .unset .unset .unset .unset) [(.int cc0), (.int 0), (.ref b948), (.ref b948)])) (X948.iaload hx (j := (0 : Int32)) (v := (.int cc0)) (by rw [e948]; exact Ar950.1) (State.isArrayOf_alike hZ.alike Ar950.2.1) Ar950.2.2 in950 (Has.at H950 in950 rfl) (g := (mkF m 91 (own_L0_0 p0_0 p0_1 p0_2 b933 ss0 .unset .unset .unset .unset) [(.int 0), (.ref b933), (.int 0), (.ref b948), (.ref b948)])) rfl rfl (hb hby at_91)) ?_
   obtain ⟨cl951, Ar951, q951, S951, M951, H951, G951⟩ := id V948
   obtain ⟨T951, h951, X951, e951, W951, st951⟩ := stI X948 hx hZ e948 Ar951 (j := (0 : Int32)) (inb_of S951 ⟨by decide, by decide⟩) (g := (mkF m 92 (own_L0_0 p0_0 p0_1 p0_2 b933 ss0 .unset .unset .unset .unset) [(.int cc0), (.int 0), (.ref b948), (.ref b948)])) rfl rfl (hb hby at_92)
   have f952 : Arv Z h951 b948 k948 .int (4 : Int32) [(.int cc0), (.int 0), (.int 0), (.int 0)] (.int 0) := Arv.set Ar951 q951 S951 M951 H951 G951 rfl W951 0 rfl (Nat.le_of_ble_eq_true rfl)
   have K951 := K948.wr W951 (Or.inr sz_b948)
   have N951 := Fr.snoc X951 N943 g_b948
   refine own_s (g' := (mkF m 93 (own_L0_0 p0_0 p0_1 p0_2 b933 ss0 .unset .unset .unset .unset) [(.ref b948)])) st951 ?_
   refine own_s (g' := (mkF m 94 (own_L0_0 p0_0 p0_1 p0_2 b933 ss0 .unset .unset .unset .unset) [(.ref b948), (.ref b948)])) (fun _ kz => XS.dup X951.here hx rfl (hb hby at_93) rfl rfl kz) ?_
   refine own_s (g' := (mkF m 95 (own_L0_0 p0_0 p0_1 p0_2 b933 ss0 .unset .unset .unset .unset) [(.int 1), (.ref b948), (.ref b948)])) (fun _ kz => XS.iconst X951.here hx rfl (hb hby at_94) kz) ?_
   refine own_s (g' := (mkF m 96 (own_L0_0 p0_0 p0_1 p0_2 b933 ss0 .unset .unset .unset .unset) [(.ref b933), (.int 1), (.ref b948), (.ref b948)])) (fun _ kz => XS.aloadN X951.here hx rfl (hb hby at_95) rfl rfl kz) ?_
   refine own_s (g' := (mkF m 97 (own_L0_0 p0_0 p0_1 p0_2 b933 ss0 .unset .unset .unset .unset) [(.int 1), (.ref b933), (.int 1), (.ref b948), (.ref b948)])) (fun _ kz => XS.iconst X951.here hx rfl (hb hby at_96) kz) ?_
   have ne953 : b933 ≠ b948 := Nat.ne_of_lt (Nat.lt_of_lt_of_le (((((Ex933.wr W934).wr W936).wr W938).wr W940).wr W943).lt (Nat.le_of_eq ga948.symm))
   have f954 := (f949.other W951 ne953)
   obtain ⟨cl955, Ar955, -, S955, -, H955, -⟩ := id f954
   have in955 := inb_of S955 (j := (1 : Int32)) ⟨by decide, by decide⟩
   refine own_s (g' := (mkF m 98 (own_L0_0 p0_0 p0_1 p0_2 b933 ss0 .unset .unset .unset .unset) [(.int (cc1 + (1 : Int32))), (.int 1), (.ref b948), (.ref b948)])) (X951.iaload hx (j := (1 : Int32)) (v := (.int (cc1 + (1 : Int32)))) (by rw [e951]; exact Ar955.1) (State.isArrayOf_alike hZ.alike Ar955.2.1) Ar955.2.2 in955 (Has.at H955 in955 rfl) (g := (mkF m 97 (own_L0_0 p0_0 p0_1 p0_2 b933 ss0 .unset .unset .unset .unset) [(.int 1), (.ref b933), (.int 1), (.ref b948), (.ref b948)])) rfl rfl (hb hby at_97)) ?_
   obtain ⟨cl956, Ar956, q956, S956, M956, H956, G956⟩ := id f952
   obtain ⟨T956, h956, X956, e956, W956, st956⟩ := stI X951 hx hZ e951 Ar956 (j := (1 : Int32)) (inb_of S956 ⟨by decide, by decide⟩) (g := (mkF m 98 (own_L0_0 p0_0 p0_1 p0_2 b933 ss0 .unset .unset .unset .unset) [(.int (cc1 + (1 : Int32))), (.int 1), (.ref b948), (.ref b948)])) rfl rfl (hb hby at_98)
   have f957 : Arv Z h956 b948 k948 .int (4 : Int32) [(.int cc0), (.int (cc1 + (1 : Int32))), (.int 0), (.int 0)] (.int 0) := Arv.set Ar956 q956 S956 M956 H956 G956 rfl W956 1 rfl (Nat.le_of_ble_eq_true rfl)
   have K956 := K951.wr W956 (Or.inr sz_b948)
   have N956 := Fr.snoc X956 N951 g_b948
   refine own_s (g' := (mkF m 99 (own_L0_0 p0_0 p0_1 p0_2 b933 ss0 .unset .unset .unset .unset) [(.ref b948)])) st956 ?_
   refine own_s (g' := (mkF m 100 (own_L0_0 p0_0 p0_1 p0_2 b933 ss0 .unset .unset .unset .unset) [(.ref b948), (.ref b948)])) (fun _ kz => XS.dup X956.here hx rfl (hb hby at_99) rfl rfl kz) ?_
   refine own_s (g' := (mkF m 101 (own_L0_0 p0_0 p0_1 p0_2 b933 ss0 .unset .unset .unset .unset) [(.int 2), (.ref b948), (.ref b948)])) (fun _ kz => XS.iconst X956.here hx rfl (hb hby at_100) kz) ?_
   refine own_s (g' := (mkF m 102 (own_L0_0 p0_0 p0_1 p0_2 b933 ss0 .unset .unset .unset .unset) [(.ref b933), (.int 2), (.ref b948), (.ref b948)])) (fun _ kz => XS.aloadN X956.here hx rfl (hb hby at_101) rfl rfl kz) ?_
   refine own_s (g' := (mkF m 103 (own_L0_0 p0_0 p0_1 p0_2 b933 ss0 .unset .unset .unset .unset) [(.int 2), (.ref b933), (.int 2), (.ref b948), (.ref b948)])) (fun _ kz => XS.iconst X956.here hx rfl (hb hby at_102) kz) ?_
   have f958 := (f954.other W956 ne953)
   obtain ⟨cl959, Ar959, -, S959, -, H959, -⟩ := id f958
   have in959 := inb_of S959 (j := (2 : Int32)) ⟨by decide, by decide⟩
   refine own_s (g' := (mkF m 104 (own_L0_0 p0_0 p0_1 p0_2 b933 ss0 .unset .unset .unset .unset) [(.int cc2), (.int 2), (.ref b948), (.ref b948)])) (X956.iaload hx (j := (2 : Int32)) (v := (.int cc2)) (by rw [e956]; exact Ar959.1) (State.isArrayOf_alike hZ.alike Ar959.2.1) Ar959.2.2 in959 (Has.at H959 in959 rfl) (g := (mkF m 103 (own_L0_0 p0_0 p0_1 p0_2 b933 ss0 .unset .unset .unset .unset) [(.int 2), (.ref b933), (.int 2), (.ref b948), (.ref b948)])) rfl rfl (hb hby at_103)) ?_
   obtain ⟨cl960, Ar960, q960, S960, M960, H960, G960⟩ := id f957
   obtain ⟨T960, h960, X960, e960, W960, st960⟩ := stI X956 hx hZ e956 Ar960 (j := (2 : Int32)) (inb_of S960 ⟨by decide, by decide⟩) (g := (mkF m 104 (own_L0_0 p0_0 p0_1 p0_2 b933 ss0 .unset .unset .unset .unset) [(.int cc2), (.int 2), (.ref b948), (.ref b948)])) rfl rfl (hb hby at_104)
   have f961 : Arv Z h960 b948 k948 .int (4 : Int32) [(.int cc0), (.int (cc1 + (1 : Int32))), (.int cc2), (.int 0)] (.int 0) := Arv.set Ar960 q960 S960 M960 H960 G960 rfl W960 2 rfl (Nat.le_of_ble_eq_true rfl)
   have K960 := K956.wr W960 (Or.inr sz_b948)
   have N960 := Fr.snoc X960 N956 g_b948
   refine own_s (g' := (mkF m 105 (own_L0_0 p0_0 p0_1 p0_2 b933 ss0 .unset .unset .unset .unset) [(.ref b948)])) st960 ?_
   refine own_s (g' := (mkF m 106 (own_L0_0 p0_0 p0_1 p0_2 b933 ss0 .unset .unset .unset .unset) [(.ref b948), (.ref b948)])) (fun _ kz => XS.dup X960.here hx rfl (hb hby at_105) rfl rfl kz) ?_
   refine own_s (g' := (mkF m 107 (own_L0_0 p0_0 p0_1 p0_2 b933 ss0 .unset .unset .unset .unset) [(.int 3), (.ref b948), (.ref b948)])) (fun _ kz => XS.iconst X960.here hx rfl (hb hby at_106) kz) ?_
   refine own_s (g' := (mkF m 108 (own_L0_0 p0_0 p0_1 p0_2 b933 ss0 .unset .unset .unset .unset) [(.ref b933), (.int 3), (.ref b948), (.ref b948)])) (fun _ kz => XS.aloadN X960.here hx rfl (hb hby at_107) rfl rfl kz) ?_
   refine own_s (g' := (mkF m 109 (own_L0_0 p0_0 p0_1 p0_2 b933 ss0 .unset .unset .unset .unset) [(.int 3), (.ref b933), (.int 3), (.ref b948), (.ref b948)])) (fun _ kz => XS.iconst X960.here hx rfl (hb hby at_108) kz) ?_
   have f962 := (f958.other W960 ne953)
   obtain ⟨cl963, Ar963, -, S963, -, H963, -⟩ := id f962
   have in963 := inb_of S963 (j := (3 : Int32)) ⟨by decide, by decide⟩
   refine own_s (g' := (mkF m 110 (own_L0_0 p0_0 p0_1 p0_2 b933 ss0 .unset .unset .unset .unset) [(.int cc3), (.int 3), (.ref b948), (.ref b948)])) (X960.iaload hx (j := (3 : Int32)) (v := (.int cc3)) (by rw [e960]; exact Ar963.1) (State.isArrayOf_alike hZ.alike Ar963.2.1) Ar963.2.2 in963 (Has.at H963 in963 rfl) (g := (mkF m 109 (own_L0_0 p0_0 p0_1 p0_2 b933 ss0 .unset .unset .unset .unset) [(.int 3), (.ref b933), (.int 3), (.ref b948), (.ref b948)])) rfl rfl (hb hby at_109)) ?_
   obtain ⟨cl964, Ar964, q964, S964, M964, H964, G964⟩ := id f961
   obtain ⟨T964, h964, X964, e964, W964, st964⟩ := stI X960 hx hZ e960 Ar964 (j := (3 : Int32)) (inb_of S964 ⟨by decide, by decide⟩) (g := (mkF m 110 (own_L0_0 p0_0 p0_1 p0_2 b933 ss0 .unset .unset .unset .unset) [(.int cc3), (.int 3), (.ref b948), (.ref b948)])) rfl rfl (hb hby at_110)
   have f965 : Arv Z h964 b948 k948 .int (4 : Int32) [(.int cc0), (.int (cc1 + (1 : Int32))), (.int cc2), (.int cc3)] (.int 0) := Arv.set Ar964 q964 S964 M964 H964 G964 rfl W964 3 rfl (Nat.le_of_ble_eq_true rfl)
   have K964 := K960.wr W964 (Or.inr sz_b948)
   have N964 := Fr.snoc X964 N960 g_b948
   refine own_s (g' := (mkF m 111 (own_L0_0 p0_0 p0_1 p0_2 b933 ss0 .unset .unset .unset .unset) [(.ref b948)])) st964 ?_
   refine own_s (g' := (mkF m 113 (own_L0_0 p0_0 p0_1 p0_2 b933 ss0 (.val (.ref b948)) .unset .unset .unset) [])) (fun _ kz => XS.astore X964.here hx rfl (hb hby at_111) rfl rfl (l' := (own_L0_0 p0_0 p0_1 p0_2 b933 ss0 (.val (.ref b948)) .unset .unset .unset)) rfl kz) ?_
   obtain ⟨T966, h966, X966, e966, E966, A966, D966, -, st966⟩ := newO X964 hx hZ hown ww4 ww5 ww6 e964 (g := (mkF m 113 (own_L0_0 p0_0 p0_1 p0_2 b933 ss0 (.val (.ref b948)) .unset .unset .unset) [])) rfl (hb hby at_113) (by decide) (by decide)
   obtain ⟨b966, ga966⟩ : ∃ z, z = h964.size := ⟨_, rfl⟩
   rw [← ga966] at A966 D966 st966
   have g_b966 := Nat.le_trans (Nat.le_trans Z0 K964.1) (Nat.le_of_eq ga966.symm)
   have sz_b966 := Nat.le_trans K964.1 (Nat.le_of_eq ga966.symm)
   have f966_countOf : Fld Z h966 b966 "gallai/service/ResidualDegrees" "countOf" "[I" .null := D966 (Or.inr ww23) (ty := (.array .int)) (by decide +kernel)
   have f966_largest : Fld Z h966 b966 "gallai/service/ResidualDegrees" "largest" "I" (.int 0) := D966 (Or.inl ww29) (ty := .int) (by decide +kernel)
   have f966_atLeast : Fld Z h966 b966 "gallai/service/ResidualDegrees" "atLeast" "[I" .null := D966 (Or.inr ww31) (ty := (.array .int)) (by decide +kernel)
   have f966_sum : Fld Z h966 b966 "gallai/service/ResidualDegrees" "sum" "J" (.long 0) := D966 (Or.inl ww33) (ty := .long) (by decide +kernel)
   have f966_partnersOf : Fld Z h966 b966 "gallai/service/ResidualDegrees" "partnersOf" "[I" .null := D966 (Or.inr ww35) (ty := (.array .int)) (by decide +kernel)
   have f966_saved : Fld Z h966 b966 "gallai/service/ResidualDegrees" "saved" "[I" .null := D966 (Or.inr ww37) (ty := (.array .int)) (by decide +kernel)
   have f966_slack : Fld Z h966 b966 "gallai/service/ResidualDegrees" "slack" "[J" .null := D966 (Or.inr ww47) (ty := (.array .long)) (by decide +kernel)
   have f966_nextTight : Fld Z h966 b966 "gallai/service/ResidualDegrees" "nextTight" "[I" .null := D966 (Or.inr ww49) (ty := (.array .int)) (by decide +kernel)
   have K966 := K964.ext E966
   refine own_s (g' := (mkF m 116 (own_L0_0 p0_0 p0_1 p0_2 b933 ss0 (.val (.ref b948)) .unset .unset .unset) [(.ref b966)])) st966 ?_
   refine own_s (g' := (mkF m 117 (own_L0_0 p0_0 p0_1 p0_2 b933 ss0 (.val (.ref b948)) .unset .unset .unset) [(.ref b966), (.ref b966)])) (fun _ kz => XS.dup X966.here hx rfl (hb hby at_116) rfl rfl kz) ?_
   refine own_s (g' := (mkF m 119 (own_L0_0 p0_0 p0_1 p0_2 b933 ss0 (.val (.ref b948)) .unset .unset .unset) [(.ref b948), (.ref b966), (.ref b966)])) (fun _ kz => XS.aload X966.here hx rfl (hb hby at_117) rfl rfl kz) ?_
   refine own_s (g' := (mkF m 121 (own_L0_0 p0_0 p0_1 p0_2 b933 ss0 (.val (.ref b948)) .unset .unset .unset) [(.long ss0), (.ref b948), (.ref b966), (.ref b966)])) (fun _ kz => XS.lload X966.here hx rfl (hb hby at_119) rfl kz) ?_
   have hi967 := own_inc (c := cc1) hb1.1 hb1.2
   have hi968 := own_inc (c := cc0) hb0.1 hb0.2
   by_cases c969 : cc3 = (0 : Int32)
   ·skip
    by_cases c970 : cc2 = (0 : Int32)
    ·skip
     have f972 := (f965.ext E966)
     have f973 := (((((Ex948.wr W951).wr W956).wr W960).wr W964).ext E966)
     obtain ⟨_, _, ⟨T971, L971, k971, n971⟩, -, X971, ⟨Lc971, hQ971, l971, y971, z971⟩, st971⟩ := X966.specialBack hx (y := (⟨"gallai/service/ResidualDegrees", "<init>", "([IJ)V"⟩ : MethodName)) rfl hown (mvT hZ ww7) (mvT hZ ww8) (mvT hZ ww9) (by decide) (backOf (W := 1) (rm1L1 l Z a0 hw [] b966 b948 ss0 (0 : Int32) (0 : Int64) k948 cc0 (cc1 + (1 : Int32)) cc2 cc3 h966 n0 (Nat.le_trans Z0 K966.1) f966_countOf f966_largest f966_atLeast f966_sum f966_partnersOf f966_saved f966_slack f966_nextTight f973 A966 f972 g_b966 c969 c970 (hi967.1 : ¬ (cc1 + (1 : Int32)) = (0 : Int32))) hZ ww9 ww6 (by decide) (by decide)) (g := (mkF m 121 (own_L0_0 p0_0 p0_1 p0_2 b933 ss0 (.val (.ref b948)) .unset .unset .unset) [(.long ss0), (.ref b948), (.ref b966), (.ref b966)])) rfl (by rw [hml]; rfl) (Steps.refl _) (a := b966) (argsL := [(.ref b948), (.long ss0)]) (rest := [(.ref b966)]) (lenOf pd___IJ_V rfl) rfl (by show 2 * 0 + _ ≤ _; exact Nat.le_of_eq rfl) (hb hby at_121) (fun _ _ => ⟨rfl, e966, (by decide : 3 + 6 ≤ _), (by decide : 22 + 16 ≤ _)⟩)
     dsimp only [Pt.U, Pt.locs, Pt.cells, Pt.slots] at X971 l971 y971 z971 st971 hQ971
     subst l971 y971 z971
     obtain ⟨bf0_971, bf1_971, bf2_971, bf3_971, bf4_971, bf5_971, kf0_971, kf1_971, kf2_971, kf3_971, kf4_971, kf5_971, hs_bf0_971, hs_bf1_971, hs_bf2_971, hs_bf3_971, hs_bf4_971, hs_bf5_971, ne_bf0_971_bf1_971, ne_bf0_971_bf2_971, ne_bf0_971_bf3_971, ne_bf0_971_bf4_971, ne_bf0_971_bf5_971, ne_bf1_971_bf2_971, ne_bf1_971_bf3_971, ne_bf1_971_bf4_971, ne_bf1_971_bf5_971, ne_bf2_971_bf3_971, ne_bf2_971_bf4_971, ne_bf2_971_bf5_971, ne_bf3_971_bf4_971, ne_bf3_971_bf5_971, ne_bf4_971_bf5_971, rfl, N971q, K971q, f974, f975, f976, f977, f978, f979, f980, f981, f982, f983, f984, f985, f986, f987, f988⟩ := hQ971
     have g_bf0_971 := Nat.le_trans (Nat.le_trans Z0 K966.1) hs_bf0_971
     have sz_bf0_971 := Nat.le_trans K966.1 hs_bf0_971
     have g_bf1_971 := Nat.le_trans (Nat.le_trans Z0 K966.1) hs_bf1_971
     have sz_bf1_971 := Nat.le_trans K966.1 hs_bf1_971
     have g_bf2_971 := Nat.le_trans (Nat.le_trans Z0 K966.1) hs_bf2_971
     have sz_bf2_971 := Nat.le_trans K966.1 hs_bf2_971
     have g_bf3_971 := Nat.le_trans (Nat.le_trans Z0 K966.1) hs_bf3_971
     have sz_bf3_971 := Nat.le_trans K966.1 hs_bf3_971
     have g_bf4_971 := Nat.le_trans (Nat.le_trans Z0 K966.1) hs_bf4_971
     have sz_bf4_971 := Nat.le_trans K966.1 hs_bf4_971
     have g_bf5_971 := Nat.le_trans (Nat.le_trans Z0 K966.1) hs_bf5_971
     have sz_bf5_971 := Nat.le_trans K966.1 hs_bf5_971
     have K971 := K966.trans K971q (allS (Or.inr sz_b966) all0)
     have N971 := Fr.app N964 N971q
     refine own_trans (g' := (mkF m 124 (own_L0_0 p0_0 p0_1 p0_2 b933 ss0 (.val (.ref b948)) .unset .unset .unset) [(.ref b966)])) st971 ?_
     refine own_s (g' := (mkF m 126 (own_L0_0 p0_0 p0_1 p0_2 b933 ss0 (.val (.ref b948)) (.val (.ref b966)) .unset .unset) [])) (fun _ kz => XS.astore X971.here hx rfl (hb hby at_124) rfl rfl (l' := (own_L0_0 p0_0 p0_1 p0_2 b933 ss0 (.val (.ref b948)) (.val (.ref b966)) .unset .unset)) rfl kz) ?_
     show own_G p e below s _ _ _ T971 (mkF m _ (own_L0_1 p0_0 p0_1 p0_2 b933 b948 b966 ss0 .unset .unset) _)
     refine own_s (g' := (mkF m 128 (own_L0_1 p0_0 p0_1 p0_2 b933 b948 b966 ss0 .unset .unset) [(.ref b966)])) (fun _ kz => XS.aload X971.here hx rfl (hb hby at_126) rfl rfl kz) ?_
     refine own_s (g' := (mkF m 130 (own_L0_1 p0_0 p0_1 p0_2 b933 b948 b966 ss0 .unset .unset) [(.int 1), (.ref b966)])) (fun _ kz => XS.iload X971.here hx rfl (hb hby at_128) rfl kz) ?_
     have f989 : Arv Z T971.heap bf1_971 kf1_971 .int (3 : Int32) [(.int 0), (.int ((0 : Int32) + (cc1 + (1 : Int32)))), (.int 0), (.int 0), (.int 0)] (.int 0) := f975.pad (pad_rep [(.int 0), (.int ((0 : Int32) + (cc1 + (1 : Int32)))), (.int 0)] (.int 0) 2)
     by_cases c990 : cc1 = (0 : Int32)
     ·skip
      have ne992 : b966 ≠ bf0_971 := Nat.ne_of_lt (Nat.lt_of_lt_of_le A966.lt hs_bf0_971)
      have ne993 : b966 ≠ bf1_971 := Nat.ne_of_lt (Nat.lt_of_lt_of_le A966.lt hs_bf1_971)
      obtain ⟨cq991, kq991, q991a, q991b, q991c⟩ := isOf hZ rfl f980
      obtain ⟨_, _, ⟨T991, L991, k991, n991⟩, -, X991, ⟨Lc991, hQ991, l991, y991, z991⟩, st991⟩ := X971.virtualBack hx (y := (⟨"gallai/service/ResidualDegrees", "lower", "(I)V"⟩ : MethodName)) (z := (⟨"gallai/service/ResidualDegrees", "lower", "(I)V"⟩ : MethodName)) hown (mvT hZ ww50) (mvT hZ ww51) (notFace_of_selects (args := #[]) (mvT hZ ww53)) (mvT hZ ww53) (mvT hZ ww52) (by decide) (backOf (W := 0) (rm6L1d1 l Z a0 hw [] b966 bf0_971 bf1_971 ss0 bf2_971 bf3_971 bf4_971 bf5_971 kf0_971 cc0 (cc1 + (1 : Int32)) cc2 cc3 kf1_971 (3 : Int32) (0 : Int32) ((0 : Int32) + (cc1 + (1 : Int32))) (0 : Int32) (0 : Int32) (0 : Int32) T971.heap n0 (Nat.le_trans Z0 K971.1) f981 f983 f984 f982 f985 f986 f987 f988 f980 f974 f989 g_bf0_971 g_bf1_971 g_b966 ne992 (Ne.symm ne_bf0_971_bf1_971) ne993 (by decide)) hZ ww54 ww6 (by decide) (by decide)) q991a q991c (g := (mkF m 130 (own_L0_1 p0_0 p0_1 p0_2 b933 b948 b966 ss0 .unset .unset) [(.int 1), (.ref b966)])) rfl (by rw [hml]; rfl) (Steps.refl _) (argsL := [(.int 1)]) (rest := []) (lenOf pd__I_V rfl) rfl (by show 2 * 0 + _ ≤ _; exact Nat.le_of_eq rfl) (hb hby at_130) (fun _ _ => ⟨rfl, rfl, (by decide : 9 + 0 ≤ _), (by decide : 38 + 0 ≤ _)⟩)
      dsimp only [Pt.U, Pt.locs, Pt.cells, Pt.slots] at X991 l991 y991 z991 st991 hQ991
      subst l991 y991 z991
      obtain ⟨rfl, N991q, K991q, f994, f995, f996, f997, f998, f999, f1000, f1001, f1002, f1003, f1004⟩ := hQ991
      have f1005 : Fld Z T991.heap b966 "gallai/service/ResidualDegrees" "largest" "I" (.int 0) := (show (w6L1d1_largest (cc1 + (1 : Int32))) = (0 : Int32) from (if_pos (((own_pm cc1).trans c990) : ((cc1 + (1 : Int32)) - (1 : Int32)) = (0 : Int32)))) ▸ f1004
      have K991 := K971.trans K991q (allS (Or.inr sz_bf0_971) (allS (Or.inr sz_bf1_971) (allS (Or.inr sz_b966) all0)))
      have N991 := Fr.app N971 N991q
      refine own_trans (g' := (mkF m 133 (own_L0_1 p0_0 p0_1 p0_2 b933 b948 b966 ss0 .unset .unset) [])) st991 ?_
      refine own_s (g' := (mkF m 134 (own_L0_1 p0_0 p0_1 p0_2 b933 b948 b966 ss0 .unset .unset) [(.ref b933)])) (fun _ kz => XS.aloadN X991.here hx rfl (hb hby at_133) rfl rfl kz) ?_
      refine own_s (g' := (mkF m 136 (own_L0_1 p0_0 p0_1 p0_2 b933 b948 b966 ss0 .unset .unset) [(.int 1), (.ref b933)])) (fun _ kz => XS.iload X991.here hx rfl (hb hby at_134) rfl kz) ?_
      refine own_s (g' := (mkF m 137 (own_L0_1 p0_0 p0_1 p0_2 b933 b948 b966 ss0 .unset .unset) [(.ref b933), (.int 1), (.ref b933)])) (fun _ kz => XS.aloadN X991.here hx rfl (hb hby at_136) rfl rfl kz) ?_
      refine own_s (g' := (mkF m 139 (own_L0_1 p0_0 p0_1 p0_2 b933 b948 b966 ss0 .unset .unset) [(.int 1), (.ref b933), (.int 1), (.ref b933)])) (fun _ kz => XS.iload X991.here hx rfl (hb hby at_137) rfl kz) ?_
      have ne1006 : b933 ≠ b966 := Nat.ne_of_lt (Nat.lt_of_lt_of_le ((((((((((Ex933.wr W934).wr W936).wr W938).wr W940).wr W943).ext E948).wr W951).wr W956).wr W960).wr W964).lt (Nat.le_of_eq ga966.symm))
      have ne1007 : b933 ≠ bf0_971 := Nat.ne_of_lt (Nat.lt_of_lt_of_le (((((((((((Ex933.wr W934).wr W936).wr W938).wr W940).wr W943).ext E948).wr W951).wr W956).wr W960).wr W964).ext E966).lt hs_bf0_971)
      have ne1008 : b933 ≠ bf1_971 := Nat.ne_of_lt (Nat.lt_of_lt_of_le (((((((((((Ex933.wr W934).wr W936).wr W938).wr W940).wr W943).ext E948).wr W951).wr W956).wr W960).wr W964).ext E966).lt hs_bf1_971)
      have f1009 := ((((f962.other W964 ne953).ext E966).keep K971q (ninS ne1006 nin0)).keep K991q (ninS ne1007 (ninS ne1008 (ninS ne1006 nin0))))
      obtain ⟨cl1010, Ar1010, -, S1010, -, H1010, -⟩ := id f1009
      have in1010 := inb_of S1010 (j := (1 : Int32)) ⟨by decide, by decide⟩
      refine own_s (g' := (mkF m 140 (own_L0_1 p0_0 p0_1 p0_2 b933 b948 b966 ss0 .unset .unset) [(.int (cc1 + (1 : Int32))), (.int 1), (.ref b933)])) (X991.iaload hx (j := (1 : Int32)) (v := (.int (cc1 + (1 : Int32)))) Ar1010.1 (State.isArrayOf_alike hZ.alike Ar1010.2.1) Ar1010.2.2 in1010 (Has.at H1010 in1010 rfl) (g := (mkF m 139 (own_L0_1 p0_0 p0_1 p0_2 b933 b948 b966 ss0 .unset .unset) [(.int 1), (.ref b933), (.int 1), (.ref b933)])) rfl rfl (hb hby at_139)) ?_
      refine own_s (g' := (mkF m 141 (own_L0_1 p0_0 p0_1 p0_2 b933 b948 b966 ss0 .unset .unset) [(.int 1), (.int (cc1 + (1 : Int32))), (.int 1), (.ref b933)])) (fun _ kz => XS.iconst X991.here hx rfl (hb hby at_140) kz) ?_
      refine own_s (g' := (mkF m 142 (own_L0_1 p0_0 p0_1 p0_2 b933 b948 b966 ss0 .unset .unset) [(.int ((cc1 + (1 : Int32)) - (1 : Int32))), (.int 1), (.ref b933)])) (fun _ kz => XS.isub X991.here hx rfl (hb hby at_141) rfl kz) ?_
      obtain ⟨cl1011, Ar1011, q1011, S1011, M1011, H1011, G1011⟩ := id f1009
      obtain ⟨T1011, h1011, X1011, e1011, W1011, st1011⟩ := stI X991 hx hZ rfl Ar1011 (j := (1 : Int32)) (inb_of S1011 ⟨by decide, by decide⟩) (g := (mkF m 142 (own_L0_1 p0_0 p0_1 p0_2 b933 b948 b966 ss0 .unset .unset) [(.int ((cc1 + (1 : Int32)) - (1 : Int32))), (.int 1), (.ref b933)])) rfl rfl (hb hby at_142)
      have f1012 : Arv Z h1011 b933 k933 .int (4 : Int32) [(.int cc0), (.int ((cc1 + (1 : Int32)) - (1 : Int32))), (.int cc2), (.int cc3)] (.int 0) := Arv.set Ar1011 q1011 S1011 M1011 H1011 G1011 rfl W1011 1 rfl (Nat.le_of_ble_eq_true rfl)
      have K1011 := K991.wr W1011 (Or.inr sz_b933)
      have N1011 := Fr.snoc X1011 N991 g_b933
      refine own_s (g' := (mkF m 143 (own_L0_1 p0_0 p0_1 p0_2 b933 b948 b966 ss0 .unset .unset) [])) st1011 ?_
      refine own_s (g' := (mkF m 144 (own_L0_1 p0_0 p0_1 p0_2 b933 b948 b966 ss0 .unset .unset) [(.ref b933)])) (fun _ kz => XS.aloadN X1011.here hx rfl (hb hby at_143) rfl rfl kz) ?_
      refine own_s (g' := (mkF m 146 (own_L0_1 p0_0 p0_1 p0_2 b933 b948 b966 ss0 .unset .unset) [(.int 1), (.ref b933)])) (fun _ kz => XS.iload X1011.here hx rfl (hb hby at_144) rfl kz) ?_
      refine own_s (g' := (mkF m 147 (own_L0_1 p0_0 p0_1 p0_2 b933 b948 b966 ss0 .unset .unset) [(.int 1), (.int 1), (.ref b933)])) (fun _ kz => XS.iconst X1011.here hx rfl (hb hby at_146) kz) ?_
      refine own_s (g' := (mkF m 148 (own_L0_1 p0_0 p0_1 p0_2 b933 b948 b966 ss0 .unset .unset) [(.int ((1 : Int32) - (1 : Int32))), (.ref b933)])) (fun _ kz => XS.isub X1011.here hx rfl (hb hby at_147) rfl kz) ?_
      rw [show ((1 : Int32) - (1 : Int32)) = (0 : Int32) from by decide]
      refine own_s (g' := (mkF m 149 (own_L0_1 p0_0 p0_1 p0_2 b933 b948 b966 ss0 .unset .unset) [(.ref b933), (.int 0), (.ref b933)])) (fun _ kz => XS.aloadN X1011.here hx rfl (hb hby at_148) rfl rfl kz) ?_
      refine own_s (g' := (mkF m 151 (own_L0_1 p0_0 p0_1 p0_2 b933 b948 b966 ss0 .unset .unset) [(.int 1), (.ref b933), (.int 0), (.ref b933)])) (fun _ kz => XS.iload X1011.here hx rfl (hb hby at_149) rfl kz) ?_
      refine own_s (g' := (mkF m 152 (own_L0_1 p0_0 p0_1 p0_2 b933 b948 b966 ss0 .unset .unset) [(.int 1), (.int 1), (.ref b933), (.int 0), (.ref b933)])) (fun _ kz => XS.iconst X1011.here hx rfl (hb hby at_151) kz) ?_
      refine own_s (g' := (mkF m 153 (own_L0_1 p0_0 p0_1 p0_2 b933 b948 b966 ss0 .unset .unset) [(.int ((1 : Int32) - (1 : Int32))), (.ref b933), (.int 0), (.ref b933)])) (fun _ kz => XS.isub X1011.here hx rfl (hb hby at_152) rfl kz) ?_
      rw [show ((1 : Int32) - (1 : Int32)) = (0 : Int32) from by decide]
      obtain ⟨cl1013, Ar1013, -, S1013, -, H1013, -⟩ := id f1012
      have in1013 := inb_of S1013 (j := (0 : Int32)) ⟨by decide, by decide⟩
      refine own_s (g' := (mkF m 154 (own_L0_1 p0_0 p0_1 p0_2 b933 b948 b966 ss0 .unset .unset) [(.int cc0), (.int 0), (.ref b933)])) (X1011.iaload hx (j := (0 : Int32)) (v := (.int cc0)) (by rw [e1011]; exact Ar1013.1) (State.isArrayOf_alike hZ.alike Ar1013.2.1) Ar1013.2.2 in1013 (Has.at H1013 in1013 rfl) (g := (mkF m 153 (own_L0_1 p0_0 p0_1 p0_2 b933 b948 b966 ss0 .unset .unset) [(.int 0), (.ref b933), (.int 0), (.ref b933)])) rfl rfl (hb hby at_153)) ?_
      refine own_s (g' := (mkF m 155 (own_L0_1 p0_0 p0_1 p0_2 b933 b948 b966 ss0 .unset .unset) [(.int 1), (.int cc0), (.int 0), (.ref b933)])) (fun _ kz => XS.iconst X1011.here hx rfl (hb hby at_154) kz) ?_
      refine own_s (g' := (mkF m 156 (own_L0_1 p0_0 p0_1 p0_2 b933 b948 b966 ss0 .unset .unset) [(.int (cc0 + (1 : Int32))), (.int 0), (.ref b933)])) (fun _ kz => XS.iadd X1011.here hx rfl (hb hby at_155) rfl kz) ?_
      obtain ⟨cl1014, Ar1014, q1014, S1014, M1014, H1014, G1014⟩ := id f1012
      obtain ⟨T1014, h1014, X1014, e1014, W1014, st1014⟩ := stI X1011 hx hZ e1011 Ar1014 (j := (0 : Int32)) (inb_of S1014 ⟨by decide, by decide⟩) (g := (mkF m 156 (own_L0_1 p0_0 p0_1 p0_2 b933 b948 b966 ss0 .unset .unset) [(.int (cc0 + (1 : Int32))), (.int 0), (.ref b933)])) rfl rfl (hb hby at_156)
      have f1015 : Arv Z h1014 b933 k933 .int (4 : Int32) [(.int (cc0 + (1 : Int32))), (.int ((cc1 + (1 : Int32)) - (1 : Int32))), (.int cc2), (.int cc3)] (.int 0) := Arv.set Ar1014 q1014 S1014 M1014 H1014 G1014 rfl W1014 0 rfl (Nat.le_of_ble_eq_true rfl)
      have K1014 := K1011.wr W1014 (Or.inr sz_b933)
      have N1014 := Fr.snoc X1014 N1011 g_b933
      refine own_s (g' := (mkF m 157 (own_L0_1 p0_0 p0_1 p0_2 b933 b948 b966 ss0 .unset .unset) [])) st1014 ?_
      have f1016 := ((f994.other W1011 (Ne.symm ne1007)).other W1014 (Ne.symm ne1007))
      rw [own_pm cc1] at f1016
      rw [own_pm cc1] at f1015
      refine own_s (g' := (mkF m 159 (own_L0_1 p0_0 p0_1 p0_2 b933 b948 b966 ss0 .unset .unset) [(.ref b966)])) (fun _ kz => XS.aload X1014.here hx rfl (hb hby at_157) rfl rfl kz) ?_
      have f1018 := ((f1003.other W1011 (Or.inl (Ne.symm ne1006))).other W1014 (Or.inl (Ne.symm ne1006)))
      have f1019 := ((f996.wr W1011).wr W1014)
      obtain ⟨cq1017, kq1017, q1017a, q1017b, q1017c⟩ := isOf hZ e1014 f1019
      obtain ⟨_, _, ⟨T1017, L1017, k1017, n1017⟩, -, X1017, ⟨Lc1017, hQ1017, l1017, y1017, z1017⟩, st1017⟩ := X1014.virtualBack hx (y := (⟨"gallai/service/ResidualDegrees", "sum", "()J"⟩ : MethodName)) (z := (⟨"gallai/service/ResidualDegrees", "sum", "()J"⟩ : MethodName)) hown (mvT hZ ww55) (mvT hZ ww56) (notFace_of_selects (args := #[]) (mvT hZ ww58)) (mvT hZ ww58) (mvT hZ ww57) (by decide) (backOf (W := 0) (rm7 l Z a0 hw [] b966 (ss0 - (1 : Int64)) h1014 n0 (Nat.le_trans Z0 K1014.1) f1018) hZ ww59 ww6 (by decide) (by decide)) q1017a q1017c (g := (mkF m 159 (own_L0_1 p0_0 p0_1 p0_2 b933 b948 b966 ss0 .unset .unset) [(.ref b966)])) rfl (by rw [hml]; rfl) (Steps.refl _) (argsL := []) (rest := []) (lenOf pd___J rfl) rfl (by show 2 * 0 + _ ≤ _; exact Nat.le_of_eq rfl) (hb hby at_159) (fun _ _ => ⟨rfl, e1014, (by decide : 9 + 0 ≤ _), (by decide : 38 + 0 ≤ _)⟩)
      dsimp only [Pt.U, Pt.locs, Pt.cells, Pt.slots] at X1017 l1017 y1017 z1017 st1017 hQ1017
      subst l1017 y1017 z1017
      obtain ⟨rfl, N1017q, eh1017⟩ := hQ1017
      have N1017 := Fr.app N1014 N1017q
      refine own_trans (g' := (mkF m 162 (own_L0_1 p0_0 p0_1 p0_2 b933 b948 b966 ss0 .unset .unset) [(.long (ss0 - (1 : Int64)))])) st1017 ?_
      refine own_s (g' := (mkF m 164 (own_L0_1 p0_0 p0_1 p0_2 b933 b948 b966 ss0 .unset .unset) [(.long ss0), (.long (ss0 - (1 : Int64)))])) (fun _ kz => XS.lload X1017.here hx rfl (hb hby at_162) rfl kz) ?_
      refine own_s (g' := (mkF m 165 (own_L0_1 p0_0 p0_1 p0_2 b933 b948 b966 ss0 .unset .unset) [(.long 1), (.long ss0), (.long (ss0 - (1 : Int64)))])) (fun _ kz => XS.lconst X1017.here hx rfl (hb hby at_164) kz) ?_
      refine own_s (g' := (mkF m 166 (own_L0_1 p0_0 p0_1 p0_2 b933 b948 b966 ss0 .unset .unset) [(.long (ss0 - (1 : Int64))), (.long (ss0 - (1 : Int64)))])) (fun _ kz => XS.lsub X1017.here hx rfl (hb hby at_165) rfl kz) ?_
      refine own_s (g' := (mkF m 167 (own_L0_1 p0_0 p0_1 p0_2 b933 b948 b966 ss0 .unset .unset) [(.int (lcmpW (ss0 - (1 : Int64)) (ss0 - (1 : Int64))))])) (fun _ kz => XS.lcmp X1017.here hx rfl (hb hby at_166) rfl kz) ?_
      refine own_s (g' := (mkF m 170 (own_L0_1 p0_0 p0_1 p0_2 b933 b948 b966 ss0 .unset .unset) [])) (fun _ kz => XS.ifNo X1017.here hx rfl (hb hby at_167) rfl ((if0 _ _).trans (teq ((lw_eq (ss0 - (1 : Int64)) (ss0 - (1 : Int64))).mpr rfl)).2) kz) ?_
      refine own_s (g' := (mkF m 172 (own_L0_1 p0_0 p0_1 p0_2 b933 b948 b966 ss0 .unset .unset) [(.ref b966)])) (fun _ kz => XS.aload X1017.here hx rfl (hb hby at_170) rfl rfl kz) ?_
      have f1021 := ((f1005.other W1011 (Or.inl (Ne.symm ne1006))).other W1014 (Or.inl (Ne.symm ne1006)))
      obtain ⟨cq1020, kq1020, q1020a, q1020b, q1020c⟩ := isOf hZ eh1017 f1019
      obtain ⟨_, _, ⟨T1020, L1020, k1020, n1020⟩, -, X1020, ⟨Lc1020, hQ1020, l1020, y1020, z1020⟩, st1020⟩ := X1017.virtualBack hx (y := (⟨"gallai/service/ResidualDegrees", "largest", "()I"⟩ : MethodName)) (z := (⟨"gallai/service/ResidualDegrees", "largest", "()I"⟩ : MethodName)) hown (mvT hZ ww60) (mvT hZ ww61) (notFace_of_selects (args := #[]) (mvT hZ ww63)) (mvT hZ ww63) (mvT hZ ww62) (by decide) (backOf (W := 0) (rm8 l Z a0 hw [] b966 (0 : Int32) h1014 n0 (Nat.le_trans Z0 K1014.1) f1021) hZ ww64 ww6 (by decide) (by decide)) q1020a q1020c (g := (mkF m 172 (own_L0_1 p0_0 p0_1 p0_2 b933 b948 b966 ss0 .unset .unset) [(.ref b966)])) rfl (by rw [hml]; rfl) (Steps.refl _) (argsL := []) (rest := []) (lenOf pd___I rfl) rfl (by show 2 * 0 + _ ≤ _; exact Nat.le_of_eq rfl) (hb hby at_172) (fun _ _ => ⟨rfl, eh1017, (by decide : 9 + 0 ≤ _), (by decide : 38 + 0 ≤ _)⟩)
      dsimp only [Pt.U, Pt.locs, Pt.cells, Pt.slots] at X1020 l1020 y1020 z1020 st1020 hQ1020
      subst l1020 y1020 z1020
      obtain ⟨rfl, N1020q, eh1020⟩ := hQ1020
      have N1020 := Fr.app N1017 N1020q
      refine own_trans (g' := (mkF m 175 (own_L0_1 p0_0 p0_1 p0_2 b933 b948 b966 ss0 .unset .unset) [(.int 0)])) st1020 ?_
      refine own_s (g' := (mkF m 176 (own_L0_1 p0_0 p0_1 p0_2 b933 b948 b966 ss0 .unset .unset) [(.ref b933), (.int 0)])) (fun _ kz => XS.aloadN X1020.here hx rfl (hb hby at_175) rfl rfl kz) ?_
      obtain ⟨_, _, ⟨T1022, L1022, k1022, n1022⟩, -, X1022, ⟨Lc1022, hQ1022, l1022, y1022, z1022⟩, st1022⟩ := Jvm.LawKit.callS X1020 hx (y := (⟨"gallai/service/ResidualDegreesLowerPinLaw", "top", "([I)I"⟩ : MethodName)) hown (mvT hZ ww65) (mvT hZ ww66) (mvT hZ ww67) (mvT hZ ww68) (by decide) (backOf (W := 1) (rm9 l Z a0 hw [] b933 k933 (cc0 + (1 : Int32)) cc1 cc2 cc3 h1014 n0 (Nat.le_trans Z0 K1014.1) f1015) hZ ww68 ww67 (by decide) (by decide)) (g := (mkF m 176 (own_L0_1 p0_0 p0_1 p0_2 b933 b948 b966 ss0 .unset .unset) [(.ref b933), (.int 0)])) rfl (by rw [hml]; rfl) (argsL := [(.ref b933)]) (rest := [(.int 0)]) (lenOf pd___I_I rfl) rfl (by show 2 * 0 + _ ≤ _; exact Nat.le_of_eq rfl) (hb hby at_176) (fun _ _ => ⟨rfl, eh1020, (by decide : 9 + 0 ≤ _), (by decide : 38 + 0 ≤ _)⟩)
      dsimp only [Pt.U, Pt.locs, Pt.cells, Pt.slots] at X1022 l1022 y1022 z1022 st1022 hQ1022
      subst l1022 y1022 z1022
      obtain ⟨rfl, N1022q, eh1022⟩ := hQ1022
      have N1022 := Fr.app N1020 N1022q
      refine own_s (g' := (mkF m 179 (own_L0_1 p0_0 p0_1 p0_2 b933 b948 b966 ss0 .unset .unset) [(.int (r9 cc1 cc2 cc3)), (.int 0)])) st1022 ?_
      rw [show (r9 cc1 cc2 cc3) = (0 : Int32) from ((if_neg ((own_eqltI (Eq.symm c969)) : ¬ (0 : Int32) < cc3)).trans ((if_neg ((own_eqltI (Eq.symm c970)) : ¬ (0 : Int32) < cc2)).trans (if_neg ((own_eqltI (Eq.symm c990)) : ¬ (0 : Int32) < cc1))))]
      refine own_s (g' := (mkF m 182 (own_L0_1 p0_0 p0_1 p0_2 b933 b948 b966 ss0 .unset .unset) [])) (fun _ kz => XS.icmpNo X1022.here hx rfl (hb hby at_179) rfl (teq ((by decide) : (0 : Int32) = (0 : Int32))).2 kz) ?_
      refine own_s (g' := (mkF m 183 (own_L0_1 p0_0 p0_1 p0_2 b933 b948 b966 ss0 .unset .unset) [(.int 1)])) (fun _ kz => XS.iconst X1022.here hx rfl (hb hby at_182) kz) ?_
      refine own_s (g' := (mkF m 187 (own_L0_1 p0_0 p0_1 p0_2 b933 b948 b966 ss0 .unset .unset) [(.int 1)])) (fun _ kz => XS.goto X1022.here hx rfl (pc0 := 183) (pc' := 187) rfl (hb hby at_183) (by decide) (by decide) kz) ?_
      refine own_s (g' := (mkF m 189 (own_L0_1 p0_0 p0_1 p0_2 b933 b948 b966 ss0 (.val (.int 1)) .unset) [])) (fun _ kz => XS.istore X1022.here hx rfl (hb hby at_187) rfl (l' := (own_L0_1 p0_0 p0_1 p0_2 b933 b948 b966 ss0 (.val (.int 1)) .unset)) rfl kz) ?_
      exact own_cutA0 l Z a0 hw (.val (.int p0_0)) (.val (.int p0_1)) p0_2 b933 (.val (.int 1)) ss0 (.val (.ref b948)) b966 k933 (cc0 + (1 : Int32)) cc1 cc2 cc3 (X1022.more (by decide) (by decide)) hx hZ hby hml hown hlk hret h1014 n0 eh1022 (Nat.le_trans Z0 K1014.1) N1022 f1015 (hi968.2.2 : ¬ (cc0 + (1 : Int32)) < (0 : Int32)) (hb1.1 : ¬ cc1 < (0 : Int32)) (hb2.1 : ¬ cc2 < (0 : Int32)) (hb3.1 : ¬ cc3 < (0 : Int32)) ((own_inc20 hb0.1 hs0) : ¬ (20 : Int32) < (cc0 + (1 : Int32))) (hb1.2 : ¬ (20 : Int32) < cc1) (hb2.2 : ¬ (20 : Int32) < cc2) (hb3.2 : ¬ (20 : Int32) < cc3) c969 c970 c990
     ·skip
      have ne1024 : b966 ≠ bf0_971 := Nat.ne_of_lt (Nat.lt_of_lt_of_le A966.lt hs_bf0_971)
      have ne1025 : b966 ≠ bf1_971 := Nat.ne_of_lt (Nat.lt_of_lt_of_le A966.lt hs_bf1_971)
      obtain ⟨cq1023, kq1023, q1023a, q1023b, q1023c⟩ := isOf hZ rfl f980
      obtain ⟨_, _, ⟨T1023, L1023, k1023, n1023⟩, -, X1023, ⟨Lc1023, hQ1023, l1023, y1023, z1023⟩, st1023⟩ := X971.virtualBack hx (y := (⟨"gallai/service/ResidualDegrees", "lower", "(I)V"⟩ : MethodName)) (z := (⟨"gallai/service/ResidualDegrees", "lower", "(I)V"⟩ : MethodName)) hown (mvT hZ ww50) (mvT hZ ww51) (notFace_of_selects (args := #[]) (mvT hZ ww53)) (mvT hZ ww53) (mvT hZ ww52) (by decide) (backOf (W := 0) (rm6L1d1 l Z a0 hw [] b966 bf0_971 bf1_971 ss0 bf2_971 bf3_971 bf4_971 bf5_971 kf0_971 cc0 (cc1 + (1 : Int32)) cc2 cc3 kf1_971 (3 : Int32) (0 : Int32) ((0 : Int32) + (cc1 + (1 : Int32))) (0 : Int32) (0 : Int32) (0 : Int32) T971.heap n0 (Nat.le_trans Z0 K971.1) f981 f983 f984 f982 f985 f986 f987 f988 f980 f974 f989 g_bf0_971 g_bf1_971 g_b966 ne1024 (Ne.symm ne_bf0_971_bf1_971) ne1025 (by decide)) hZ ww54 ww6 (by decide) (by decide)) q1023a q1023c (g := (mkF m 130 (own_L0_1 p0_0 p0_1 p0_2 b933 b948 b966 ss0 .unset .unset) [(.int 1), (.ref b966)])) rfl (by rw [hml]; rfl) (Steps.refl _) (argsL := [(.int 1)]) (rest := []) (lenOf pd__I_V rfl) rfl (by show 2 * 0 + _ ≤ _; exact Nat.le_of_eq rfl) (hb hby at_130) (fun _ _ => ⟨rfl, rfl, (by decide : 9 + 0 ≤ _), (by decide : 38 + 0 ≤ _)⟩)
      dsimp only [Pt.U, Pt.locs, Pt.cells, Pt.slots] at X1023 l1023 y1023 z1023 st1023 hQ1023
      subst l1023 y1023 z1023
      obtain ⟨rfl, N1023q, K1023q, f1026, f1027, f1028, f1029, f1030, f1031, f1032, f1033, f1034, f1035, f1036⟩ := hQ1023
      have f1037 : Fld Z T1023.heap b966 "gallai/service/ResidualDegrees" "largest" "I" (.int 1) := (show (w6L1d1_largest (cc1 + (1 : Int32))) = (1 : Int32) from (if_neg ((fun q => c990 ((own_pm cc1).symm.trans q)) : ¬ ((cc1 + (1 : Int32)) - (1 : Int32)) = (0 : Int32)))) ▸ f1036
      have K1023 := K971.trans K1023q (allS (Or.inr sz_bf0_971) (allS (Or.inr sz_bf1_971) (allS (Or.inr sz_b966) all0)))
      have N1023 := Fr.app N971 N1023q
      refine own_trans (g' := (mkF m 133 (own_L0_1 p0_0 p0_1 p0_2 b933 b948 b966 ss0 .unset .unset) [])) st1023 ?_
      refine own_s (g' := (mkF m 134 (own_L0_1 p0_0 p0_1 p0_2 b933 b948 b966 ss0 .unset .unset) [(.ref b933)])) (fun _ kz => XS.aloadN X1023.here hx rfl (hb hby at_133) rfl rfl kz) ?_
      refine own_s (g' := (mkF m 136 (own_L0_1 p0_0 p0_1 p0_2 b933 b948 b966 ss0 .unset .unset) [(.int 1), (.ref b933)])) (fun _ kz => XS.iload X1023.here hx rfl (hb hby at_134) rfl kz) ?_
      refine own_s (g' := (mkF m 137 (own_L0_1 p0_0 p0_1 p0_2 b933 b948 b966 ss0 .unset .unset) [(.ref b933), (.int 1), (.ref b933)])) (fun _ kz => XS.aloadN X1023.here hx rfl (hb hby at_136) rfl rfl kz) ?_
      refine own_s (g' := (mkF m 139 (own_L0_1 p0_0 p0_1 p0_2 b933 b948 b966 ss0 .unset .unset) [(.int 1), (.ref b933), (.int 1), (.ref b933)])) (fun _ kz => XS.iload X1023.here hx rfl (hb hby at_137) rfl kz) ?_
      have ne1038 : b933 ≠ b966 := Nat.ne_of_lt (Nat.lt_of_lt_of_le ((((((((((Ex933.wr W934).wr W936).wr W938).wr W940).wr W943).ext E948).wr W951).wr W956).wr W960).wr W964).lt (Nat.le_of_eq ga966.symm))
      have ne1039 : b933 ≠ bf0_971 := Nat.ne_of_lt (Nat.lt_of_lt_of_le (((((((((((Ex933.wr W934).wr W936).wr W938).wr W940).wr W943).ext E948).wr W951).wr W956).wr W960).wr W964).ext E966).lt hs_bf0_971)
      have ne1040 : b933 ≠ bf1_971 := Nat.ne_of_lt (Nat.lt_of_lt_of_le (((((((((((Ex933.wr W934).wr W936).wr W938).wr W940).wr W943).ext E948).wr W951).wr W956).wr W960).wr W964).ext E966).lt hs_bf1_971)
      have f1041 := ((((f962.other W964 ne953).ext E966).keep K971q (ninS ne1038 nin0)).keep K1023q (ninS ne1039 (ninS ne1040 (ninS ne1038 nin0))))
      obtain ⟨cl1042, Ar1042, -, S1042, -, H1042, -⟩ := id f1041
      have in1042 := inb_of S1042 (j := (1 : Int32)) ⟨by decide, by decide⟩
      refine own_s (g' := (mkF m 140 (own_L0_1 p0_0 p0_1 p0_2 b933 b948 b966 ss0 .unset .unset) [(.int (cc1 + (1 : Int32))), (.int 1), (.ref b933)])) (X1023.iaload hx (j := (1 : Int32)) (v := (.int (cc1 + (1 : Int32)))) Ar1042.1 (State.isArrayOf_alike hZ.alike Ar1042.2.1) Ar1042.2.2 in1042 (Has.at H1042 in1042 rfl) (g := (mkF m 139 (own_L0_1 p0_0 p0_1 p0_2 b933 b948 b966 ss0 .unset .unset) [(.int 1), (.ref b933), (.int 1), (.ref b933)])) rfl rfl (hb hby at_139)) ?_
      refine own_s (g' := (mkF m 141 (own_L0_1 p0_0 p0_1 p0_2 b933 b948 b966 ss0 .unset .unset) [(.int 1), (.int (cc1 + (1 : Int32))), (.int 1), (.ref b933)])) (fun _ kz => XS.iconst X1023.here hx rfl (hb hby at_140) kz) ?_
      refine own_s (g' := (mkF m 142 (own_L0_1 p0_0 p0_1 p0_2 b933 b948 b966 ss0 .unset .unset) [(.int ((cc1 + (1 : Int32)) - (1 : Int32))), (.int 1), (.ref b933)])) (fun _ kz => XS.isub X1023.here hx rfl (hb hby at_141) rfl kz) ?_
      obtain ⟨cl1043, Ar1043, q1043, S1043, M1043, H1043, G1043⟩ := id f1041
      obtain ⟨T1043, h1043, X1043, e1043, W1043, st1043⟩ := stI X1023 hx hZ rfl Ar1043 (j := (1 : Int32)) (inb_of S1043 ⟨by decide, by decide⟩) (g := (mkF m 142 (own_L0_1 p0_0 p0_1 p0_2 b933 b948 b966 ss0 .unset .unset) [(.int ((cc1 + (1 : Int32)) - (1 : Int32))), (.int 1), (.ref b933)])) rfl rfl (hb hby at_142)
      have f1044 : Arv Z h1043 b933 k933 .int (4 : Int32) [(.int cc0), (.int ((cc1 + (1 : Int32)) - (1 : Int32))), (.int cc2), (.int cc3)] (.int 0) := Arv.set Ar1043 q1043 S1043 M1043 H1043 G1043 rfl W1043 1 rfl (Nat.le_of_ble_eq_true rfl)
      have K1043 := K1023.wr W1043 (Or.inr sz_b933)
      have N1043 := Fr.snoc X1043 N1023 g_b933
      refine own_s (g' := (mkF m 143 (own_L0_1 p0_0 p0_1 p0_2 b933 b948 b966 ss0 .unset .unset) [])) st1043 ?_
      refine own_s (g' := (mkF m 144 (own_L0_1 p0_0 p0_1 p0_2 b933 b948 b966 ss0 .unset .unset) [(.ref b933)])) (fun _ kz => XS.aloadN X1043.here hx rfl (hb hby at_143) rfl rfl kz) ?_
      refine own_s (g' := (mkF m 146 (own_L0_1 p0_0 p0_1 p0_2 b933 b948 b966 ss0 .unset .unset) [(.int 1), (.ref b933)])) (fun _ kz => XS.iload X1043.here hx rfl (hb hby at_144) rfl kz) ?_
      refine own_s (g' := (mkF m 147 (own_L0_1 p0_0 p0_1 p0_2 b933 b948 b966 ss0 .unset .unset) [(.int 1), (.int 1), (.ref b933)])) (fun _ kz => XS.iconst X1043.here hx rfl (hb hby at_146) kz) ?_
      refine own_s (g' := (mkF m 148 (own_L0_1 p0_0 p0_1 p0_2 b933 b948 b966 ss0 .unset .unset) [(.int ((1 : Int32) - (1 : Int32))), (.ref b933)])) (fun _ kz => XS.isub X1043.here hx rfl (hb hby at_147) rfl kz) ?_
      rw [show ((1 : Int32) - (1 : Int32)) = (0 : Int32) from by decide]
      refine own_s (g' := (mkF m 149 (own_L0_1 p0_0 p0_1 p0_2 b933 b948 b966 ss0 .unset .unset) [(.ref b933), (.int 0), (.ref b933)])) (fun _ kz => XS.aloadN X1043.here hx rfl (hb hby at_148) rfl rfl kz) ?_
      refine own_s (g' := (mkF m 151 (own_L0_1 p0_0 p0_1 p0_2 b933 b948 b966 ss0 .unset .unset) [(.int 1), (.ref b933), (.int 0), (.ref b933)])) (fun _ kz => XS.iload X1043.here hx rfl (hb hby at_149) rfl kz) ?_
      refine own_s (g' := (mkF m 152 (own_L0_1 p0_0 p0_1 p0_2 b933 b948 b966 ss0 .unset .unset) [(.int 1), (.int 1), (.ref b933), (.int 0), (.ref b933)])) (fun _ kz => XS.iconst X1043.here hx rfl (hb hby at_151) kz) ?_
      refine own_s (g' := (mkF m 153 (own_L0_1 p0_0 p0_1 p0_2 b933 b948 b966 ss0 .unset .unset) [(.int ((1 : Int32) - (1 : Int32))), (.ref b933), (.int 0), (.ref b933)])) (fun _ kz => XS.isub X1043.here hx rfl (hb hby at_152) rfl kz) ?_
      rw [show ((1 : Int32) - (1 : Int32)) = (0 : Int32) from by decide]
      obtain ⟨cl1045, Ar1045, -, S1045, -, H1045, -⟩ := id f1044
      have in1045 := inb_of S1045 (j := (0 : Int32)) ⟨by decide, by decide⟩
      refine own_s (g' := (mkF m 154 (own_L0_1 p0_0 p0_1 p0_2 b933 b948 b966 ss0 .unset .unset) [(.int cc0), (.int 0), (.ref b933)])) (X1043.iaload hx (j := (0 : Int32)) (v := (.int cc0)) (by rw [e1043]; exact Ar1045.1) (State.isArrayOf_alike hZ.alike Ar1045.2.1) Ar1045.2.2 in1045 (Has.at H1045 in1045 rfl) (g := (mkF m 153 (own_L0_1 p0_0 p0_1 p0_2 b933 b948 b966 ss0 .unset .unset) [(.int 0), (.ref b933), (.int 0), (.ref b933)])) rfl rfl (hb hby at_153)) ?_
      refine own_s (g' := (mkF m 155 (own_L0_1 p0_0 p0_1 p0_2 b933 b948 b966 ss0 .unset .unset) [(.int 1), (.int cc0), (.int 0), (.ref b933)])) (fun _ kz => XS.iconst X1043.here hx rfl (hb hby at_154) kz) ?_
      refine own_s (g' := (mkF m 156 (own_L0_1 p0_0 p0_1 p0_2 b933 b948 b966 ss0 .unset .unset) [(.int (cc0 + (1 : Int32))), (.int 0), (.ref b933)])) (fun _ kz => XS.iadd X1043.here hx rfl (hb hby at_155) rfl kz) ?_
      obtain ⟨cl1046, Ar1046, q1046, S1046, M1046, H1046, G1046⟩ := id f1044
      obtain ⟨T1046, h1046, X1046, e1046, W1046, st1046⟩ := stI X1043 hx hZ e1043 Ar1046 (j := (0 : Int32)) (inb_of S1046 ⟨by decide, by decide⟩) (g := (mkF m 156 (own_L0_1 p0_0 p0_1 p0_2 b933 b948 b966 ss0 .unset .unset) [(.int (cc0 + (1 : Int32))), (.int 0), (.ref b933)])) rfl rfl (hb hby at_156)
      have f1047 : Arv Z h1046 b933 k933 .int (4 : Int32) [(.int (cc0 + (1 : Int32))), (.int ((cc1 + (1 : Int32)) - (1 : Int32))), (.int cc2), (.int cc3)] (.int 0) := Arv.set Ar1046 q1046 S1046 M1046 H1046 G1046 rfl W1046 0 rfl (Nat.le_of_ble_eq_true rfl)
      have K1046 := K1043.wr W1046 (Or.inr sz_b933)
      have N1046 := Fr.snoc X1046 N1043 g_b933
      refine own_s (g' := (mkF m 157 (own_L0_1 p0_0 p0_1 p0_2 b933 b948 b966 ss0 .unset .unset) [])) st1046 ?_
      have f1048 := ((f1026.other W1043 (Ne.symm ne1039)).other W1046 (Ne.symm ne1039))
      rw [own_pm cc1] at f1048
      rw [own_pm cc1] at f1047
      refine own_s (g' := (mkF m 159 (own_L0_1 p0_0 p0_1 p0_2 b933 b948 b966 ss0 .unset .unset) [(.ref b966)])) (fun _ kz => XS.aload X1046.here hx rfl (hb hby at_157) rfl rfl kz) ?_
      have f1050 := ((f1035.other W1043 (Or.inl (Ne.symm ne1038))).other W1046 (Or.inl (Ne.symm ne1038)))
      have f1051 := ((f1028.wr W1043).wr W1046)
      obtain ⟨cq1049, kq1049, q1049a, q1049b, q1049c⟩ := isOf hZ e1046 f1051
      obtain ⟨_, _, ⟨T1049, L1049, k1049, n1049⟩, -, X1049, ⟨Lc1049, hQ1049, l1049, y1049, z1049⟩, st1049⟩ := X1046.virtualBack hx (y := (⟨"gallai/service/ResidualDegrees", "sum", "()J"⟩ : MethodName)) (z := (⟨"gallai/service/ResidualDegrees", "sum", "()J"⟩ : MethodName)) hown (mvT hZ ww55) (mvT hZ ww56) (notFace_of_selects (args := #[]) (mvT hZ ww58)) (mvT hZ ww58) (mvT hZ ww57) (by decide) (backOf (W := 0) (rm7 l Z a0 hw [] b966 (ss0 - (1 : Int64)) h1046 n0 (Nat.le_trans Z0 K1046.1) f1050) hZ ww59 ww6 (by decide) (by decide)) q1049a q1049c (g := (mkF m 159 (own_L0_1 p0_0 p0_1 p0_2 b933 b948 b966 ss0 .unset .unset) [(.ref b966)])) rfl (by rw [hml]; rfl) (Steps.refl _) (argsL := []) (rest := []) (lenOf pd___J rfl) rfl (by show 2 * 0 + _ ≤ _; exact Nat.le_of_eq rfl) (hb hby at_159) (fun _ _ => ⟨rfl, e1046, (by decide : 9 + 0 ≤ _), (by decide : 38 + 0 ≤ _)⟩)
      dsimp only [Pt.U, Pt.locs, Pt.cells, Pt.slots] at X1049 l1049 y1049 z1049 st1049 hQ1049
      subst l1049 y1049 z1049
      obtain ⟨rfl, N1049q, eh1049⟩ := hQ1049
      have N1049 := Fr.app N1046 N1049q
      refine own_trans (g' := (mkF m 162 (own_L0_1 p0_0 p0_1 p0_2 b933 b948 b966 ss0 .unset .unset) [(.long (ss0 - (1 : Int64)))])) st1049 ?_
      refine own_s (g' := (mkF m 164 (own_L0_1 p0_0 p0_1 p0_2 b933 b948 b966 ss0 .unset .unset) [(.long ss0), (.long (ss0 - (1 : Int64)))])) (fun _ kz => XS.lload X1049.here hx rfl (hb hby at_162) rfl kz) ?_
      refine own_s (g' := (mkF m 165 (own_L0_1 p0_0 p0_1 p0_2 b933 b948 b966 ss0 .unset .unset) [(.long 1), (.long ss0), (.long (ss0 - (1 : Int64)))])) (fun _ kz => XS.lconst X1049.here hx rfl (hb hby at_164) kz) ?_
      refine own_s (g' := (mkF m 166 (own_L0_1 p0_0 p0_1 p0_2 b933 b948 b966 ss0 .unset .unset) [(.long (ss0 - (1 : Int64))), (.long (ss0 - (1 : Int64)))])) (fun _ kz => XS.lsub X1049.here hx rfl (hb hby at_165) rfl kz) ?_
      refine own_s (g' := (mkF m 167 (own_L0_1 p0_0 p0_1 p0_2 b933 b948 b966 ss0 .unset .unset) [(.int (lcmpW (ss0 - (1 : Int64)) (ss0 - (1 : Int64))))])) (fun _ kz => XS.lcmp X1049.here hx rfl (hb hby at_166) rfl kz) ?_
      refine own_s (g' := (mkF m 170 (own_L0_1 p0_0 p0_1 p0_2 b933 b948 b966 ss0 .unset .unset) [])) (fun _ kz => XS.ifNo X1049.here hx rfl (hb hby at_167) rfl ((if0 _ _).trans (teq ((lw_eq (ss0 - (1 : Int64)) (ss0 - (1 : Int64))).mpr rfl)).2) kz) ?_
      refine own_s (g' := (mkF m 172 (own_L0_1 p0_0 p0_1 p0_2 b933 b948 b966 ss0 .unset .unset) [(.ref b966)])) (fun _ kz => XS.aload X1049.here hx rfl (hb hby at_170) rfl rfl kz) ?_
      have f1053 := ((f1037.other W1043 (Or.inl (Ne.symm ne1038))).other W1046 (Or.inl (Ne.symm ne1038)))
      obtain ⟨cq1052, kq1052, q1052a, q1052b, q1052c⟩ := isOf hZ eh1049 f1051
      obtain ⟨_, _, ⟨T1052, L1052, k1052, n1052⟩, -, X1052, ⟨Lc1052, hQ1052, l1052, y1052, z1052⟩, st1052⟩ := X1049.virtualBack hx (y := (⟨"gallai/service/ResidualDegrees", "largest", "()I"⟩ : MethodName)) (z := (⟨"gallai/service/ResidualDegrees", "largest", "()I"⟩ : MethodName)) hown (mvT hZ ww60) (mvT hZ ww61) (notFace_of_selects (args := #[]) (mvT hZ ww63)) (mvT hZ ww63) (mvT hZ ww62) (by decide) (backOf (W := 0) (rm8 l Z a0 hw [] b966 (1 : Int32) h1046 n0 (Nat.le_trans Z0 K1046.1) f1053) hZ ww64 ww6 (by decide) (by decide)) q1052a q1052c (g := (mkF m 172 (own_L0_1 p0_0 p0_1 p0_2 b933 b948 b966 ss0 .unset .unset) [(.ref b966)])) rfl (by rw [hml]; rfl) (Steps.refl _) (argsL := []) (rest := []) (lenOf pd___I rfl) rfl (by show 2 * 0 + _ ≤ _; exact Nat.le_of_eq rfl) (hb hby at_172) (fun _ _ => ⟨rfl, eh1049, (by decide : 9 + 0 ≤ _), (by decide : 38 + 0 ≤ _)⟩)
      dsimp only [Pt.U, Pt.locs, Pt.cells, Pt.slots] at X1052 l1052 y1052 z1052 st1052 hQ1052
      subst l1052 y1052 z1052
      obtain ⟨rfl, N1052q, eh1052⟩ := hQ1052
      have N1052 := Fr.app N1049 N1052q
      refine own_trans (g' := (mkF m 175 (own_L0_1 p0_0 p0_1 p0_2 b933 b948 b966 ss0 .unset .unset) [(.int 1)])) st1052 ?_
      refine own_s (g' := (mkF m 176 (own_L0_1 p0_0 p0_1 p0_2 b933 b948 b966 ss0 .unset .unset) [(.ref b933), (.int 1)])) (fun _ kz => XS.aloadN X1052.here hx rfl (hb hby at_175) rfl rfl kz) ?_
      obtain ⟨_, _, ⟨T1054, L1054, k1054, n1054⟩, -, X1054, ⟨Lc1054, hQ1054, l1054, y1054, z1054⟩, st1054⟩ := Jvm.LawKit.callS X1052 hx (y := (⟨"gallai/service/ResidualDegreesLowerPinLaw", "top", "([I)I"⟩ : MethodName)) hown (mvT hZ ww65) (mvT hZ ww66) (mvT hZ ww67) (mvT hZ ww68) (by decide) (backOf (W := 1) (rm9 l Z a0 hw [] b933 k933 (cc0 + (1 : Int32)) cc1 cc2 cc3 h1046 n0 (Nat.le_trans Z0 K1046.1) f1047) hZ ww68 ww67 (by decide) (by decide)) (g := (mkF m 176 (own_L0_1 p0_0 p0_1 p0_2 b933 b948 b966 ss0 .unset .unset) [(.ref b933), (.int 1)])) rfl (by rw [hml]; rfl) (argsL := [(.ref b933)]) (rest := [(.int 1)]) (lenOf pd___I_I rfl) rfl (by show 2 * 0 + _ ≤ _; exact Nat.le_of_eq rfl) (hb hby at_176) (fun _ _ => ⟨rfl, eh1052, (by decide : 9 + 0 ≤ _), (by decide : 38 + 0 ≤ _)⟩)
      dsimp only [Pt.U, Pt.locs, Pt.cells, Pt.slots] at X1054 l1054 y1054 z1054 st1054 hQ1054
      subst l1054 y1054 z1054
      obtain ⟨rfl, N1054q, eh1054⟩ := hQ1054
      have N1054 := Fr.app N1052 N1054q
      refine own_s (g' := (mkF m 179 (own_L0_1 p0_0 p0_1 p0_2 b933 b948 b966 ss0 .unset .unset) [(.int (r9 cc1 cc2 cc3)), (.int 1)])) st1054 ?_
      rw [show (r9 cc1 cc2 cc3) = (1 : Int32) from ((if_neg ((own_eqltI (Eq.symm c969)) : ¬ (0 : Int32) < cc3)).trans ((if_neg ((own_eqltI (Eq.symm c970)) : ¬ (0 : Int32) < cc2)).trans (if_pos ((own_triI (fun q => c990 q.symm) hb1.1) : (0 : Int32) < cc1))))]
      refine own_s (g' := (mkF m 182 (own_L0_1 p0_0 p0_1 p0_2 b933 b948 b966 ss0 .unset .unset) [])) (fun _ kz => XS.icmpNo X1054.here hx rfl (hb hby at_179) rfl (teq ((by decide) : (1 : Int32) = (1 : Int32))).2 kz) ?_
      refine own_s (g' := (mkF m 183 (own_L0_1 p0_0 p0_1 p0_2 b933 b948 b966 ss0 .unset .unset) [(.int 1)])) (fun _ kz => XS.iconst X1054.here hx rfl (hb hby at_182) kz) ?_
      refine own_s (g' := (mkF m 187 (own_L0_1 p0_0 p0_1 p0_2 b933 b948 b966 ss0 .unset .unset) [(.int 1)])) (fun _ kz => XS.goto X1054.here hx rfl (pc0 := 183) (pc' := 187) rfl (hb hby at_183) (by decide) (by decide) kz) ?_
      refine own_s (g' := (mkF m 189 (own_L0_1 p0_0 p0_1 p0_2 b933 b948 b966 ss0 (.val (.int 1)) .unset) [])) (fun _ kz => XS.istore X1054.here hx rfl (hb hby at_187) rfl (l' := (own_L0_1 p0_0 p0_1 p0_2 b933 b948 b966 ss0 (.val (.int 1)) .unset)) rfl kz) ?_
      have f1055 := ((f1027.other W1043 (Ne.symm ne1040)).other W1046 (Ne.symm ne1040))
      have f1056 := ((f1029.other W1043 (Or.inl (Ne.symm ne1038))).other W1046 (Or.inl (Ne.symm ne1038)))
      have f1057 := ((f1030.other W1043 (Or.inl (Ne.symm ne1038))).other W1046 (Or.inl (Ne.symm ne1038)))
      have f1058 := ((f1031.other W1043 (Or.inl (Ne.symm ne1038))).other W1046 (Or.inl (Ne.symm ne1038)))
      have f1059 := ((f1032.other W1043 (Or.inl (Ne.symm ne1038))).other W1046 (Or.inl (Ne.symm ne1038)))
      have f1060 := ((f1033.other W1043 (Or.inl (Ne.symm ne1038))).other W1046 (Or.inl (Ne.symm ne1038)))
      have f1061 := ((f1034.other W1043 (Or.inl (Ne.symm ne1038))).other W1046 (Or.inl (Ne.symm ne1038)))
      exact own_cutA1 l Z a0 hw (.val (.int p0_0)) (.val (.int p0_1)) p0_2 b933 (.val (.int 1)) ss0 (.val (.ref b948)) b966 bf0_971 bf1_971 bf2_971 bf3_971 bf4_971 bf5_971 k933 (cc0 + (1 : Int32)) cc1 cc2 cc3 kf0_971 kf1_971 (3 : Int32) (0 : Int32) (((0 : Int32) + (cc1 + (1 : Int32))) - (1 : Int32)) (0 : Int32) (0 : Int32) (0 : Int32) (X1054.more (by decide) (by decide)) hx hZ hby hml hown hlk hret h1046 n0 eh1054 (Nat.le_trans Z0 K1046.1) N1054 f1056 f1057 f1050 f1053 f1058 f1059 f1060 f1061 f1051 f1047 f1048 f1055 g_bf0_971 g_bf1_971 g_b966 g_b933 ne1024 (Ne.symm ne_bf0_971_bf1_971) ne1025 ne1039 ne1040 ne1038 (hi968.2.2 : ¬ (cc0 + (1 : Int32)) < (0 : Int32)) (hb1.1 : ¬ cc1 < (0 : Int32)) (hb2.1 : ¬ cc2 < (0 : Int32)) (hb3.1 : ¬ cc3 < (0 : Int32)) ((own_inc20 hb0.1 hs0) : ¬ (20 : Int32) < (cc0 + (1 : Int32))) (hb1.2 : ¬ (20 : Int32) < cc1) (hb2.2 : ¬ (20 : Int32) < cc2) (hb3.2 : ¬ (20 : Int32) < cc3) c969 c970 c990 (by decide)
    ·skip
     have f1063 := (f965.ext E966)
     have f1064 := (((((Ex948.wr W951).wr W956).wr W960).wr W964).ext E966)
     obtain ⟨_, _, ⟨T1062, L1062, k1062, n1062⟩, -, X1062, ⟨Lc1062, hQ1062, l1062, y1062, z1062⟩, st1062⟩ := X966.specialBack hx (y := (⟨"gallai/service/ResidualDegrees", "<init>", "([IJ)V"⟩ : MethodName)) rfl hown (mvT hZ ww7) (mvT hZ ww8) (mvT hZ ww9) (by decide) (backOf (W := 1) (rm1L2 l Z a0 hw [] b966 b948 ss0 (0 : Int32) (0 : Int64) k948 cc0 (cc1 + (1 : Int32)) cc2 cc3 h966 n0 (Nat.le_trans Z0 K966.1) f966_countOf f966_largest f966_atLeast f966_sum f966_partnersOf f966_saved f966_slack f966_nextTight f1064 A966 f1063 g_b966 c969 c970) hZ ww9 ww6 (by decide) (by decide)) (g := (mkF m 121 (own_L0_0 p0_0 p0_1 p0_2 b933 ss0 (.val (.ref b948)) .unset .unset .unset) [(.long ss0), (.ref b948), (.ref b966), (.ref b966)])) rfl (by rw [hml]; rfl) (Steps.refl _) (a := b966) (argsL := [(.ref b948), (.long ss0)]) (rest := [(.ref b966)]) (lenOf pd___IJ_V rfl) rfl (by show 2 * 0 + _ ≤ _; exact Nat.le_of_eq rfl) (hb hby at_121) (fun _ _ => ⟨rfl, e966, (by decide : 3 + 6 ≤ _), (by decide : 22 + 21 ≤ _)⟩)
     dsimp only [Pt.U, Pt.locs, Pt.cells, Pt.slots] at X1062 l1062 y1062 z1062 st1062 hQ1062
     subst l1062 y1062 z1062
     obtain ⟨bf0_1062, bf1_1062, bf2_1062, bf3_1062, bf4_1062, bf5_1062, kf0_1062, kf1_1062, kf2_1062, kf3_1062, kf4_1062, kf5_1062, hs_bf0_1062, hs_bf1_1062, hs_bf2_1062, hs_bf3_1062, hs_bf4_1062, hs_bf5_1062, ne_bf0_1062_bf1_1062, ne_bf0_1062_bf2_1062, ne_bf0_1062_bf3_1062, ne_bf0_1062_bf4_1062, ne_bf0_1062_bf5_1062, ne_bf1_1062_bf2_1062, ne_bf1_1062_bf3_1062, ne_bf1_1062_bf4_1062, ne_bf1_1062_bf5_1062, ne_bf2_1062_bf3_1062, ne_bf2_1062_bf4_1062, ne_bf2_1062_bf5_1062, ne_bf3_1062_bf4_1062, ne_bf3_1062_bf5_1062, ne_bf4_1062_bf5_1062, rfl, N1062q, K1062q, f1065, f1066, f1067, f1068, f1069, f1070, f1071, f1072, f1073, f1074, f1075, f1076, f1077, f1078, f1079⟩ := hQ1062
     have g_bf0_1062 := Nat.le_trans (Nat.le_trans Z0 K966.1) hs_bf0_1062
     have sz_bf0_1062 := Nat.le_trans K966.1 hs_bf0_1062
     have g_bf1_1062 := Nat.le_trans (Nat.le_trans Z0 K966.1) hs_bf1_1062
     have sz_bf1_1062 := Nat.le_trans K966.1 hs_bf1_1062
     have g_bf2_1062 := Nat.le_trans (Nat.le_trans Z0 K966.1) hs_bf2_1062
     have sz_bf2_1062 := Nat.le_trans K966.1 hs_bf2_1062
     have g_bf3_1062 := Nat.le_trans (Nat.le_trans Z0 K966.1) hs_bf3_1062
     have sz_bf3_1062 := Nat.le_trans K966.1 hs_bf3_1062
     have g_bf4_1062 := Nat.le_trans (Nat.le_trans Z0 K966.1) hs_bf4_1062
     have sz_bf4_1062 := Nat.le_trans K966.1 hs_bf4_1062
     have g_bf5_1062 := Nat.le_trans (Nat.le_trans Z0 K966.1) hs_bf5_1062
     have sz_bf5_1062 := Nat.le_trans K966.1 hs_bf5_1062
     have K1062 := K966.trans K1062q (allS (Or.inr sz_b966) all0)
     have N1062 := Fr.app N964 N1062q
     refine own_trans (g' := (mkF m 124 (own_L0_0 p0_0 p0_1 p0_2 b933 ss0 (.val (.ref b948)) .unset .unset .unset) [(.ref b966)])) st1062 ?_
     refine own_s (g' := (mkF m 126 (own_L0_0 p0_0 p0_1 p0_2 b933 ss0 (.val (.ref b948)) (.val (.ref b966)) .unset .unset) [])) (fun _ kz => XS.astore X1062.here hx rfl (hb hby at_124) rfl rfl (l' := (own_L0_0 p0_0 p0_1 p0_2 b933 ss0 (.val (.ref b948)) (.val (.ref b966)) .unset .unset)) rfl kz) ?_
     show own_G p e below s _ _ _ T1062 (mkF m _ (own_L0_2 p0_0 p0_1 p0_2 b933 b948 b966 ss0 .unset .unset) _)
     refine own_s (g' := (mkF m 128 (own_L0_2 p0_0 p0_1 p0_2 b933 b948 b966 ss0 .unset .unset) [(.ref b966)])) (fun _ kz => XS.aload X1062.here hx rfl (hb hby at_126) rfl rfl kz) ?_
     refine own_s (g' := (mkF m 130 (own_L0_2 p0_0 p0_1 p0_2 b933 b948 b966 ss0 .unset .unset) [(.int 1), (.ref b966)])) (fun _ kz => XS.iload X1062.here hx rfl (hb hby at_128) rfl kz) ?_
     have f1080 : Arv Z T1062.heap bf1_1062 kf1_1062 .int (4 : Int32) [(.int 0), (.int (((0 : Int32) + cc2) + (cc1 + (1 : Int32)))), (.int ((0 : Int32) + cc2)), (.int 0), (.int 0)] (.int 0) := f1066.pad (pad_rep [(.int 0), (.int (((0 : Int32) + cc2) + (cc1 + (1 : Int32)))), (.int ((0 : Int32) + cc2)), (.int 0)] (.int 0) 1)
     have ne1082 : b966 ≠ bf0_1062 := Nat.ne_of_lt (Nat.lt_of_lt_of_le A966.lt hs_bf0_1062)
     have ne1083 : b966 ≠ bf1_1062 := Nat.ne_of_lt (Nat.lt_of_lt_of_le A966.lt hs_bf1_1062)
     obtain ⟨cq1081, kq1081, q1081a, q1081b, q1081c⟩ := isOf hZ rfl f1071
     obtain ⟨_, _, ⟨T1081, L1081, k1081, n1081⟩, -, X1081, ⟨Lc1081, hQ1081, l1081, y1081, z1081⟩, st1081⟩ := X1062.virtualBack hx (y := (⟨"gallai/service/ResidualDegrees", "lower", "(I)V"⟩ : MethodName)) (z := (⟨"gallai/service/ResidualDegrees", "lower", "(I)V"⟩ : MethodName)) hown (mvT hZ ww50) (mvT hZ ww51) (notFace_of_selects (args := #[]) (mvT hZ ww53)) (mvT hZ ww53) (mvT hZ ww52) (by decide) (backOf (W := 0) (rm6L2d1 l Z a0 hw [] b966 bf0_1062 bf1_1062 ss0 bf2_1062 bf3_1062 bf4_1062 bf5_1062 kf0_1062 cc0 (cc1 + (1 : Int32)) cc2 cc3 kf1_1062 (4 : Int32) (0 : Int32) (((0 : Int32) + cc2) + (cc1 + (1 : Int32))) ((0 : Int32) + cc2) (0 : Int32) (0 : Int32) T1062.heap n0 (Nat.le_trans Z0 K1062.1) f1072 f1074 f1075 f1073 f1076 f1077 f1078 f1079 f1071 f1065 f1080 g_bf0_1062 g_bf1_1062 g_b966 ne1082 (Ne.symm ne_bf0_1062_bf1_1062) ne1083 c970 (by decide)) hZ ww54 ww6 (by decide) (by decide)) q1081a q1081c (g := (mkF m 130 (own_L0_2 p0_0 p0_1 p0_2 b933 b948 b966 ss0 .unset .unset) [(.int 1), (.ref b966)])) rfl (by rw [hml]; rfl) (Steps.refl _) (argsL := [(.int 1)]) (rest := []) (lenOf pd__I_V rfl) rfl (by show 2 * 0 + _ ≤ _; exact Nat.le_of_eq rfl) (hb hby at_130) (fun _ _ => ⟨rfl, rfl, (by decide : 9 + 0 ≤ _), (by decide : 43 + 0 ≤ _)⟩)
     dsimp only [Pt.U, Pt.locs, Pt.cells, Pt.slots] at X1081 l1081 y1081 z1081 st1081 hQ1081
     subst l1081 y1081 z1081
     obtain ⟨rfl, N1081q, K1081q, f1084, f1085, f1086, f1087, f1088, f1089, f1090, f1091, f1092, f1093, f1094⟩ := hQ1081
     have K1081 := K1062.trans K1081q (allS (Or.inr sz_bf0_1062) (allS (Or.inr sz_bf1_1062) (allS (Or.inr sz_b966) all0)))
     have N1081 := Fr.app N1062 N1081q
     refine own_trans (g' := (mkF m 133 (own_L0_2 p0_0 p0_1 p0_2 b933 b948 b966 ss0 .unset .unset) [])) st1081 ?_
     refine own_s (g' := (mkF m 134 (own_L0_2 p0_0 p0_1 p0_2 b933 b948 b966 ss0 .unset .unset) [(.ref b933)])) (fun _ kz => XS.aloadN X1081.here hx rfl (hb hby at_133) rfl rfl kz) ?_
     refine own_s (g' := (mkF m 136 (own_L0_2 p0_0 p0_1 p0_2 b933 b948 b966 ss0 .unset .unset) [(.int 1), (.ref b933)])) (fun _ kz => XS.iload X1081.here hx rfl (hb hby at_134) rfl kz) ?_
     refine own_s (g' := (mkF m 137 (own_L0_2 p0_0 p0_1 p0_2 b933 b948 b966 ss0 .unset .unset) [(.ref b933), (.int 1), (.ref b933)])) (fun _ kz => XS.aloadN X1081.here hx rfl (hb hby at_136) rfl rfl kz) ?_
     refine own_s (g' := (mkF m 139 (own_L0_2 p0_0 p0_1 p0_2 b933 b948 b966 ss0 .unset .unset) [(.int 1), (.ref b933), (.int 1), (.ref b933)])) (fun _ kz => XS.iload X1081.here hx rfl (hb hby at_137) rfl kz) ?_
     have ne1095 : b933 ≠ b966 := Nat.ne_of_lt (Nat.lt_of_lt_of_le ((((((((((Ex933.wr W934).wr W936).wr W938).wr W940).wr W943).ext E948).wr W951).wr W956).wr W960).wr W964).lt (Nat.le_of_eq ga966.symm))
     have ne1096 : b933 ≠ bf0_1062 := Nat.ne_of_lt (Nat.lt_of_lt_of_le (((((((((((Ex933.wr W934).wr W936).wr W938).wr W940).wr W943).ext E948).wr W951).wr W956).wr W960).wr W964).ext E966).lt hs_bf0_1062)
     have ne1097 : b933 ≠ bf1_1062 := Nat.ne_of_lt (Nat.lt_of_lt_of_le (((((((((((Ex933.wr W934).wr W936).wr W938).wr W940).wr W943).ext E948).wr W951).wr W956).wr W960).wr W964).ext E966).lt hs_bf1_1062)
     have f1098 := ((((f962.other W964 ne953).ext E966).keep K1062q (ninS ne1095 nin0)).keep K1081q (ninS ne1096 (ninS ne1097 (ninS ne1095 nin0))))
     obtain ⟨cl1099, Ar1099, -, S1099, -, H1099, -⟩ := id f1098
     have in1099 := inb_of S1099 (j := (1 : Int32)) ⟨by decide, by decide⟩
     refine own_s (g' := (mkF m 140 (own_L0_2 p0_0 p0_1 p0_2 b933 b948 b966 ss0 .unset .unset) [(.int (cc1 + (1 : Int32))), (.int 1), (.ref b933)])) (X1081.iaload hx (j := (1 : Int32)) (v := (.int (cc1 + (1 : Int32)))) Ar1099.1 (State.isArrayOf_alike hZ.alike Ar1099.2.1) Ar1099.2.2 in1099 (Has.at H1099 in1099 rfl) (g := (mkF m 139 (own_L0_2 p0_0 p0_1 p0_2 b933 b948 b966 ss0 .unset .unset) [(.int 1), (.ref b933), (.int 1), (.ref b933)])) rfl rfl (hb hby at_139)) ?_
     refine own_s (g' := (mkF m 141 (own_L0_2 p0_0 p0_1 p0_2 b933 b948 b966 ss0 .unset .unset) [(.int 1), (.int (cc1 + (1 : Int32))), (.int 1), (.ref b933)])) (fun _ kz => XS.iconst X1081.here hx rfl (hb hby at_140) kz) ?_
     refine own_s (g' := (mkF m 142 (own_L0_2 p0_0 p0_1 p0_2 b933 b948 b966 ss0 .unset .unset) [(.int ((cc1 + (1 : Int32)) - (1 : Int32))), (.int 1), (.ref b933)])) (fun _ kz => XS.isub X1081.here hx rfl (hb hby at_141) rfl kz) ?_
     obtain ⟨cl1100, Ar1100, q1100, S1100, M1100, H1100, G1100⟩ := id f1098
     obtain ⟨T1100, h1100, X1100, e1100, W1100, st1100⟩ := stI X1081 hx hZ rfl Ar1100 (j := (1 : Int32)) (inb_of S1100 ⟨by decide, by decide⟩) (g := (mkF m 142 (own_L0_2 p0_0 p0_1 p0_2 b933 b948 b966 ss0 .unset .unset) [(.int ((cc1 + (1 : Int32)) - (1 : Int32))), (.int 1), (.ref b933)])) rfl rfl (hb hby at_142)
     have f1101 : Arv Z h1100 b933 k933 .int (4 : Int32) [(.int cc0), (.int ((cc1 + (1 : Int32)) - (1 : Int32))), (.int cc2), (.int cc3)] (.int 0) := Arv.set Ar1100 q1100 S1100 M1100 H1100 G1100 rfl W1100 1 rfl (Nat.le_of_ble_eq_true rfl)
     have K1100 := K1081.wr W1100 (Or.inr sz_b933)
     have N1100 := Fr.snoc X1100 N1081 g_b933
     refine own_s (g' := (mkF m 143 (own_L0_2 p0_0 p0_1 p0_2 b933 b948 b966 ss0 .unset .unset) [])) st1100 ?_
     refine own_s (g' := (mkF m 144 (own_L0_2 p0_0 p0_1 p0_2 b933 b948 b966 ss0 .unset .unset) [(.ref b933)])) (fun _ kz => XS.aloadN X1100.here hx rfl (hb hby at_143) rfl rfl kz) ?_
     refine own_s (g' := (mkF m 146 (own_L0_2 p0_0 p0_1 p0_2 b933 b948 b966 ss0 .unset .unset) [(.int 1), (.ref b933)])) (fun _ kz => XS.iload X1100.here hx rfl (hb hby at_144) rfl kz) ?_
     refine own_s (g' := (mkF m 147 (own_L0_2 p0_0 p0_1 p0_2 b933 b948 b966 ss0 .unset .unset) [(.int 1), (.int 1), (.ref b933)])) (fun _ kz => XS.iconst X1100.here hx rfl (hb hby at_146) kz) ?_
     refine own_s (g' := (mkF m 148 (own_L0_2 p0_0 p0_1 p0_2 b933 b948 b966 ss0 .unset .unset) [(.int ((1 : Int32) - (1 : Int32))), (.ref b933)])) (fun _ kz => XS.isub X1100.here hx rfl (hb hby at_147) rfl kz) ?_
     rw [show ((1 : Int32) - (1 : Int32)) = (0 : Int32) from by decide]
     refine own_s (g' := (mkF m 149 (own_L0_2 p0_0 p0_1 p0_2 b933 b948 b966 ss0 .unset .unset) [(.ref b933), (.int 0), (.ref b933)])) (fun _ kz => XS.aloadN X1100.here hx rfl (hb hby at_148) rfl rfl kz) ?_
     refine own_s (g' := (mkF m 151 (own_L0_2 p0_0 p0_1 p0_2 b933 b948 b966 ss0 .unset .unset) [(.int 1), (.ref b933), (.int 0), (.ref b933)])) (fun _ kz => XS.iload X1100.here hx rfl (hb hby at_149) rfl kz) ?_
     refine own_s (g' := (mkF m 152 (own_L0_2 p0_0 p0_1 p0_2 b933 b948 b966 ss0 .unset .unset) [(.int 1), (.int 1), (.ref b933), (.int 0), (.ref b933)])) (fun _ kz => XS.iconst X1100.here hx rfl (hb hby at_151) kz) ?_
     refine own_s (g' := (mkF m 153 (own_L0_2 p0_0 p0_1 p0_2 b933 b948 b966 ss0 .unset .unset) [(.int ((1 : Int32) - (1 : Int32))), (.ref b933), (.int 0), (.ref b933)])) (fun _ kz => XS.isub X1100.here hx rfl (hb hby at_152) rfl kz) ?_
     rw [show ((1 : Int32) - (1 : Int32)) = (0 : Int32) from by decide]
     obtain ⟨cl1102, Ar1102, -, S1102, -, H1102, -⟩ := id f1101
     have in1102 := inb_of S1102 (j := (0 : Int32)) ⟨by decide, by decide⟩
     refine own_s (g' := (mkF m 154 (own_L0_2 p0_0 p0_1 p0_2 b933 b948 b966 ss0 .unset .unset) [(.int cc0), (.int 0), (.ref b933)])) (X1100.iaload hx (j := (0 : Int32)) (v := (.int cc0)) (by rw [e1100]; exact Ar1102.1) (State.isArrayOf_alike hZ.alike Ar1102.2.1) Ar1102.2.2 in1102 (Has.at H1102 in1102 rfl) (g := (mkF m 153 (own_L0_2 p0_0 p0_1 p0_2 b933 b948 b966 ss0 .unset .unset) [(.int 0), (.ref b933), (.int 0), (.ref b933)])) rfl rfl (hb hby at_153)) ?_
     refine own_s (g' := (mkF m 155 (own_L0_2 p0_0 p0_1 p0_2 b933 b948 b966 ss0 .unset .unset) [(.int 1), (.int cc0), (.int 0), (.ref b933)])) (fun _ kz => XS.iconst X1100.here hx rfl (hb hby at_154) kz) ?_
     refine own_s (g' := (mkF m 156 (own_L0_2 p0_0 p0_1 p0_2 b933 b948 b966 ss0 .unset .unset) [(.int (cc0 + (1 : Int32))), (.int 0), (.ref b933)])) (fun _ kz => XS.iadd X1100.here hx rfl (hb hby at_155) rfl kz) ?_
     obtain ⟨cl1103, Ar1103, q1103, S1103, M1103, H1103, G1103⟩ := id f1101
     obtain ⟨T1103, h1103, X1103, e1103, W1103, st1103⟩ := stI X1100 hx hZ e1100 Ar1103 (j := (0 : Int32)) (inb_of S1103 ⟨by decide, by decide⟩) (g := (mkF m 156 (own_L0_2 p0_0 p0_1 p0_2 b933 b948 b966 ss0 .unset .unset) [(.int (cc0 + (1 : Int32))), (.int 0), (.ref b933)])) rfl rfl (hb hby at_156)
     have f1104 : Arv Z h1103 b933 k933 .int (4 : Int32) [(.int (cc0 + (1 : Int32))), (.int ((cc1 + (1 : Int32)) - (1 : Int32))), (.int cc2), (.int cc3)] (.int 0) := Arv.set Ar1103 q1103 S1103 M1103 H1103 G1103 rfl W1103 0 rfl (Nat.le_of_ble_eq_true rfl)
     have K1103 := K1100.wr W1103 (Or.inr sz_b933)
     have N1103 := Fr.snoc X1103 N1100 g_b933
     refine own_s (g' := (mkF m 157 (own_L0_2 p0_0 p0_1 p0_2 b933 b948 b966 ss0 .unset .unset) [])) st1103 ?_
     have f1105 := ((f1084.other W1100 (Ne.symm ne1096)).other W1103 (Ne.symm ne1096))
     rw [own_pm cc1] at f1105
     rw [own_pm cc1] at f1104
     refine own_s (g' := (mkF m 159 (own_L0_2 p0_0 p0_1 p0_2 b933 b948 b966 ss0 .unset .unset) [(.ref b966)])) (fun _ kz => XS.aload X1103.here hx rfl (hb hby at_157) rfl rfl kz) ?_
     have f1107 := ((f1094.other W1100 (Or.inl (Ne.symm ne1095))).other W1103 (Or.inl (Ne.symm ne1095)))
     have f1108 := ((f1086.wr W1100).wr W1103)
     obtain ⟨cq1106, kq1106, q1106a, q1106b, q1106c⟩ := isOf hZ e1103 f1108
     obtain ⟨_, _, ⟨T1106, L1106, k1106, n1106⟩, -, X1106, ⟨Lc1106, hQ1106, l1106, y1106, z1106⟩, st1106⟩ := X1103.virtualBack hx (y := (⟨"gallai/service/ResidualDegrees", "sum", "()J"⟩ : MethodName)) (z := (⟨"gallai/service/ResidualDegrees", "sum", "()J"⟩ : MethodName)) hown (mvT hZ ww55) (mvT hZ ww56) (notFace_of_selects (args := #[]) (mvT hZ ww58)) (mvT hZ ww58) (mvT hZ ww57) (by decide) (backOf (W := 0) (rm7 l Z a0 hw [] b966 (ss0 - (1 : Int64)) h1103 n0 (Nat.le_trans Z0 K1103.1) f1107) hZ ww59 ww6 (by decide) (by decide)) q1106a q1106c (g := (mkF m 159 (own_L0_2 p0_0 p0_1 p0_2 b933 b948 b966 ss0 .unset .unset) [(.ref b966)])) rfl (by rw [hml]; rfl) (Steps.refl _) (argsL := []) (rest := []) (lenOf pd___J rfl) rfl (by show 2 * 0 + _ ≤ _; exact Nat.le_of_eq rfl) (hb hby at_159) (fun _ _ => ⟨rfl, e1103, (by decide : 9 + 0 ≤ _), (by decide : 43 + 0 ≤ _)⟩)
     dsimp only [Pt.U, Pt.locs, Pt.cells, Pt.slots] at X1106 l1106 y1106 z1106 st1106 hQ1106
     subst l1106 y1106 z1106
     obtain ⟨rfl, N1106q, eh1106⟩ := hQ1106
     have N1106 := Fr.app N1103 N1106q
     refine own_trans (g' := (mkF m 162 (own_L0_2 p0_0 p0_1 p0_2 b933 b948 b966 ss0 .unset .unset) [(.long (ss0 - (1 : Int64)))])) st1106 ?_
     refine own_s (g' := (mkF m 164 (own_L0_2 p0_0 p0_1 p0_2 b933 b948 b966 ss0 .unset .unset) [(.long ss0), (.long (ss0 - (1 : Int64)))])) (fun _ kz => XS.lload X1106.here hx rfl (hb hby at_162) rfl kz) ?_
     refine own_s (g' := (mkF m 165 (own_L0_2 p0_0 p0_1 p0_2 b933 b948 b966 ss0 .unset .unset) [(.long 1), (.long ss0), (.long (ss0 - (1 : Int64)))])) (fun _ kz => XS.lconst X1106.here hx rfl (hb hby at_164) kz) ?_
     refine own_s (g' := (mkF m 166 (own_L0_2 p0_0 p0_1 p0_2 b933 b948 b966 ss0 .unset .unset) [(.long (ss0 - (1 : Int64))), (.long (ss0 - (1 : Int64)))])) (fun _ kz => XS.lsub X1106.here hx rfl (hb hby at_165) rfl kz) ?_
     refine own_s (g' := (mkF m 167 (own_L0_2 p0_0 p0_1 p0_2 b933 b948 b966 ss0 .unset .unset) [(.int (lcmpW (ss0 - (1 : Int64)) (ss0 - (1 : Int64))))])) (fun _ kz => XS.lcmp X1106.here hx rfl (hb hby at_166) rfl kz) ?_
     refine own_s (g' := (mkF m 170 (own_L0_2 p0_0 p0_1 p0_2 b933 b948 b966 ss0 .unset .unset) [])) (fun _ kz => XS.ifNo X1106.here hx rfl (hb hby at_167) rfl ((if0 _ _).trans (teq ((lw_eq (ss0 - (1 : Int64)) (ss0 - (1 : Int64))).mpr rfl)).2) kz) ?_
     refine own_s (g' := (mkF m 172 (own_L0_2 p0_0 p0_1 p0_2 b933 b948 b966 ss0 .unset .unset) [(.ref b966)])) (fun _ kz => XS.aload X1106.here hx rfl (hb hby at_170) rfl rfl kz) ?_
     have f1110 := ((f1089.other W1100 (Or.inl (Ne.symm ne1095))).other W1103 (Or.inl (Ne.symm ne1095)))
     obtain ⟨cq1109, kq1109, q1109a, q1109b, q1109c⟩ := isOf hZ eh1106 f1108
     obtain ⟨_, _, ⟨T1109, L1109, k1109, n1109⟩, -, X1109, ⟨Lc1109, hQ1109, l1109, y1109, z1109⟩, st1109⟩ := X1106.virtualBack hx (y := (⟨"gallai/service/ResidualDegrees", "largest", "()I"⟩ : MethodName)) (z := (⟨"gallai/service/ResidualDegrees", "largest", "()I"⟩ : MethodName)) hown (mvT hZ ww60) (mvT hZ ww61) (notFace_of_selects (args := #[]) (mvT hZ ww63)) (mvT hZ ww63) (mvT hZ ww62) (by decide) (backOf (W := 0) (rm8 l Z a0 hw [] b966 (2 : Int32) h1103 n0 (Nat.le_trans Z0 K1103.1) f1110) hZ ww64 ww6 (by decide) (by decide)) q1109a q1109c (g := (mkF m 172 (own_L0_2 p0_0 p0_1 p0_2 b933 b948 b966 ss0 .unset .unset) [(.ref b966)])) rfl (by rw [hml]; rfl) (Steps.refl _) (argsL := []) (rest := []) (lenOf pd___I rfl) rfl (by show 2 * 0 + _ ≤ _; exact Nat.le_of_eq rfl) (hb hby at_172) (fun _ _ => ⟨rfl, eh1106, (by decide : 9 + 0 ≤ _), (by decide : 43 + 0 ≤ _)⟩)
     dsimp only [Pt.U, Pt.locs, Pt.cells, Pt.slots] at X1109 l1109 y1109 z1109 st1109 hQ1109
     subst l1109 y1109 z1109
     obtain ⟨rfl, N1109q, eh1109⟩ := hQ1109
     have N1109 := Fr.app N1106 N1109q
     refine own_trans (g' := (mkF m 175 (own_L0_2 p0_0 p0_1 p0_2 b933 b948 b966 ss0 .unset .unset) [(.int 2)])) st1109 ?_
     refine own_s (g' := (mkF m 176 (own_L0_2 p0_0 p0_1 p0_2 b933 b948 b966 ss0 .unset .unset) [(.ref b933), (.int 2)])) (fun _ kz => XS.aloadN X1109.here hx rfl (hb hby at_175) rfl rfl kz) ?_
     obtain ⟨_, _, ⟨T1111, L1111, k1111, n1111⟩, -, X1111, ⟨Lc1111, hQ1111, l1111, y1111, z1111⟩, st1111⟩ := Jvm.LawKit.callS X1109 hx (y := (⟨"gallai/service/ResidualDegreesLowerPinLaw", "top", "([I)I"⟩ : MethodName)) hown (mvT hZ ww65) (mvT hZ ww66) (mvT hZ ww67) (mvT hZ ww68) (by decide) (backOf (W := 1) (rm9 l Z a0 hw [] b933 k933 (cc0 + (1 : Int32)) cc1 cc2 cc3 h1103 n0 (Nat.le_trans Z0 K1103.1) f1104) hZ ww68 ww67 (by decide) (by decide)) (g := (mkF m 176 (own_L0_2 p0_0 p0_1 p0_2 b933 b948 b966 ss0 .unset .unset) [(.ref b933), (.int 2)])) rfl (by rw [hml]; rfl) (argsL := [(.ref b933)]) (rest := [(.int 2)]) (lenOf pd___I_I rfl) rfl (by show 2 * 0 + _ ≤ _; exact Nat.le_of_eq rfl) (hb hby at_176) (fun _ _ => ⟨rfl, eh1109, (by decide : 9 + 0 ≤ _), (by decide : 43 + 0 ≤ _)⟩)
     dsimp only [Pt.U, Pt.locs, Pt.cells, Pt.slots] at X1111 l1111 y1111 z1111 st1111 hQ1111
     subst l1111 y1111 z1111
     obtain ⟨rfl, N1111q, eh1111⟩ := hQ1111
     have N1111 := Fr.app N1109 N1111q
     refine own_s (g' := (mkF m 179 (own_L0_2 p0_0 p0_1 p0_2 b933 b948 b966 ss0 .unset .unset) [(.int (r9 cc1 cc2 cc3)), (.int 2)])) st1111 ?_
     rw [show (r9 cc1 cc2 cc3) = (2 : Int32) from ((if_neg ((own_eqltI (Eq.symm c969)) : ¬ (0 : Int32) < cc3)).trans (if_pos ((own_triI (fun q => c970 q.symm) hb2.1) : (0 : Int32) < cc2)))]
     refine own_s (g' := (mkF m 182 (own_L0_2 p0_0 p0_1 p0_2 b933 b948 b966 ss0 .unset .unset) [])) (fun _ kz => XS.icmpNo X1111.here hx rfl (hb hby at_179) rfl (teq ((by decide) : (2 : Int32) = (2 : Int32))).2 kz) ?_
     refine own_s (g' := (mkF m 183 (own_L0_2 p0_0 p0_1 p0_2 b933 b948 b966 ss0 .unset .unset) [(.int 1)])) (fun _ kz => XS.iconst X1111.here hx rfl (hb hby at_182) kz) ?_
     refine own_s (g' := (mkF m 187 (own_L0_2 p0_0 p0_1 p0_2 b933 b948 b966 ss0 .unset .unset) [(.int 1)])) (fun _ kz => XS.goto X1111.here hx rfl (pc0 := 183) (pc' := 187) rfl (hb hby at_183) (by decide) (by decide) kz) ?_
     refine own_s (g' := (mkF m 189 (own_L0_2 p0_0 p0_1 p0_2 b933 b948 b966 ss0 (.val (.int 1)) .unset) [])) (fun _ kz => XS.istore X1111.here hx rfl (hb hby at_187) rfl (l' := (own_L0_2 p0_0 p0_1 p0_2 b933 b948 b966 ss0 (.val (.int 1)) .unset)) rfl kz) ?_
     have f1112 := ((f1085.other W1100 (Ne.symm ne1097)).other W1103 (Ne.symm ne1097))
     have f1113 := ((f1087.other W1100 (Or.inl (Ne.symm ne1095))).other W1103 (Or.inl (Ne.symm ne1095)))
     have f1114 := ((f1088.other W1100 (Or.inl (Ne.symm ne1095))).other W1103 (Or.inl (Ne.symm ne1095)))
     have f1115 := ((f1090.other W1100 (Or.inl (Ne.symm ne1095))).other W1103 (Or.inl (Ne.symm ne1095)))
     have f1116 := ((f1091.other W1100 (Or.inl (Ne.symm ne1095))).other W1103 (Or.inl (Ne.symm ne1095)))
     have f1117 := ((f1092.other W1100 (Or.inl (Ne.symm ne1095))).other W1103 (Or.inl (Ne.symm ne1095)))
     have f1118 := ((f1093.other W1100 (Or.inl (Ne.symm ne1095))).other W1103 (Or.inl (Ne.symm ne1095)))
     exact own_cutA2 l Z a0 hw (.val (.int p0_0)) (.val (.int p0_1)) p0_2 b933 (.val (.int 1)) ss0 (.val (.ref b948)) b966 bf0_1062 bf1_1062 bf2_1062 bf3_1062 bf4_1062 bf5_1062 k933 (cc0 + (1 : Int32)) cc1 cc2 cc3 kf0_1062 kf1_1062 (4 : Int32) (0 : Int32) ((((0 : Int32) + cc2) + (cc1 + (1 : Int32))) - (1 : Int32)) ((0 : Int32) + cc2) (0 : Int32) (0 : Int32) (X1111.more (by decide) (by decide)) hx hZ hby hml hown hlk hret h1103 n0 eh1111 (Nat.le_trans Z0 K1103.1) N1111 f1113 f1114 f1107 f1110 f1115 f1116 f1117 f1118 f1108 f1104 f1105 f1112 g_bf0_1062 g_bf1_1062 g_b966 g_b933 ne1082 (Ne.symm ne_bf0_1062_bf1_1062) ne1083 ne1096 ne1097 ne1095 (hi968.2.2 : ¬ (cc0 + (1 : Int32)) < (0 : Int32)) (hb1.1 : ¬ cc1 < (0 : Int32)) (hb2.1 : ¬ cc2 < (0 : Int32)) (hb3.1 : ¬ cc3 < (0 : Int32)) ((own_inc20 hb0.1 hs0) : ¬ (20 : Int32) < (cc0 + (1 : Int32))) (hb1.2 : ¬ (20 : Int32) < cc1) (hb2.2 : ¬ (20 : Int32) < cc2) (hb3.2 : ¬ (20 : Int32) < cc3) c969 c970 (by decide) (by decide)
   ·skip
    have f1120 := (f965.ext E966)
    have f1121 := (((((Ex948.wr W951).wr W956).wr W960).wr W964).ext E966)
    obtain ⟨_, _, ⟨T1119, L1119, k1119, n1119⟩, -, X1119, ⟨Lc1119, hQ1119, l1119, y1119, z1119⟩, st1119⟩ := X966.specialBack hx (y := (⟨"gallai/service/ResidualDegrees", "<init>", "([IJ)V"⟩ : MethodName)) rfl hown (mvT hZ ww7) (mvT hZ ww8) (mvT hZ ww9) (by decide) (backOf (W := 1) (rm1L3 l Z a0 hw [] b966 b948 ss0 (0 : Int32) (0 : Int64) k948 cc0 (cc1 + (1 : Int32)) cc2 cc3 h966 n0 (Nat.le_trans Z0 K966.1) f966_countOf f966_largest f966_atLeast f966_sum f966_partnersOf f966_saved f966_slack f966_nextTight f1121 A966 f1120 g_b966 c969) hZ ww9 ww6 (by decide) (by decide)) (g := (mkF m 121 (own_L0_0 p0_0 p0_1 p0_2 b933 ss0 (.val (.ref b948)) .unset .unset .unset) [(.long ss0), (.ref b948), (.ref b966), (.ref b966)])) rfl (by rw [hml]; rfl) (Steps.refl _) (a := b966) (argsL := [(.ref b948), (.long ss0)]) (rest := [(.ref b966)]) (lenOf pd___IJ_V rfl) rfl (by show 2 * 0 + _ ≤ _; exact Nat.le_of_eq rfl) (hb hby at_121) (fun _ _ => ⟨rfl, e966, (by decide : 3 + 6 ≤ _), (by decide : 22 + 26 ≤ _)⟩)
    dsimp only [Pt.U, Pt.locs, Pt.cells, Pt.slots] at X1119 l1119 y1119 z1119 st1119 hQ1119
    subst l1119 y1119 z1119
    obtain ⟨bf0_1119, bf1_1119, bf2_1119, bf3_1119, bf4_1119, bf5_1119, kf0_1119, kf1_1119, kf2_1119, kf3_1119, kf4_1119, kf5_1119, hs_bf0_1119, hs_bf1_1119, hs_bf2_1119, hs_bf3_1119, hs_bf4_1119, hs_bf5_1119, ne_bf0_1119_bf1_1119, ne_bf0_1119_bf2_1119, ne_bf0_1119_bf3_1119, ne_bf0_1119_bf4_1119, ne_bf0_1119_bf5_1119, ne_bf1_1119_bf2_1119, ne_bf1_1119_bf3_1119, ne_bf1_1119_bf4_1119, ne_bf1_1119_bf5_1119, ne_bf2_1119_bf3_1119, ne_bf2_1119_bf4_1119, ne_bf2_1119_bf5_1119, ne_bf3_1119_bf4_1119, ne_bf3_1119_bf5_1119, ne_bf4_1119_bf5_1119, rfl, N1119q, K1119q, f1122, f1123, f1124, f1125, f1126, f1127, f1128, f1129, f1130, f1131, f1132, f1133, f1134, f1135, f1136⟩ := hQ1119
    have g_bf0_1119 := Nat.le_trans (Nat.le_trans Z0 K966.1) hs_bf0_1119
    have sz_bf0_1119 := Nat.le_trans K966.1 hs_bf0_1119
    have g_bf1_1119 := Nat.le_trans (Nat.le_trans Z0 K966.1) hs_bf1_1119
    have sz_bf1_1119 := Nat.le_trans K966.1 hs_bf1_1119
    have g_bf2_1119 := Nat.le_trans (Nat.le_trans Z0 K966.1) hs_bf2_1119
    have sz_bf2_1119 := Nat.le_trans K966.1 hs_bf2_1119
    have g_bf3_1119 := Nat.le_trans (Nat.le_trans Z0 K966.1) hs_bf3_1119
    have sz_bf3_1119 := Nat.le_trans K966.1 hs_bf3_1119
    have g_bf4_1119 := Nat.le_trans (Nat.le_trans Z0 K966.1) hs_bf4_1119
    have sz_bf4_1119 := Nat.le_trans K966.1 hs_bf4_1119
    have g_bf5_1119 := Nat.le_trans (Nat.le_trans Z0 K966.1) hs_bf5_1119
    have sz_bf5_1119 := Nat.le_trans K966.1 hs_bf5_1119
    have K1119 := K966.trans K1119q (allS (Or.inr sz_b966) all0)
    have N1119 := Fr.app N964 N1119q
    refine own_trans (g' := (mkF m 124 (own_L0_0 p0_0 p0_1 p0_2 b933 ss0 (.val (.ref b948)) .unset .unset .unset) [(.ref b966)])) st1119 ?_
    refine own_s (g' := (mkF m 126 (own_L0_0 p0_0 p0_1 p0_2 b933 ss0 (.val (.ref b948)) (.val (.ref b966)) .unset .unset) [])) (fun _ kz => XS.astore X1119.here hx rfl (hb hby at_124) rfl rfl (l' := (own_L0_0 p0_0 p0_1 p0_2 b933 ss0 (.val (.ref b948)) (.val (.ref b966)) .unset .unset)) rfl kz) ?_
    show own_G p e below s _ _ _ T1119 (mkF m _ (own_L0_3 p0_0 p0_1 p0_2 b933 b948 b966 ss0 .unset .unset) _)
    refine own_s (g' := (mkF m 128 (own_L0_3 p0_0 p0_1 p0_2 b933 b948 b966 ss0 .unset .unset) [(.ref b966)])) (fun _ kz => XS.aload X1119.here hx rfl (hb hby at_126) rfl rfl kz) ?_
    refine own_s (g' := (mkF m 130 (own_L0_3 p0_0 p0_1 p0_2 b933 b948 b966 ss0 .unset .unset) [(.int 1), (.ref b966)])) (fun _ kz => XS.iload X1119.here hx rfl (hb hby at_128) rfl kz) ?_
    have ne1138 : b966 ≠ bf0_1119 := Nat.ne_of_lt (Nat.lt_of_lt_of_le A966.lt hs_bf0_1119)
    have ne1139 : b966 ≠ bf1_1119 := Nat.ne_of_lt (Nat.lt_of_lt_of_le A966.lt hs_bf1_1119)
    obtain ⟨cq1137, kq1137, q1137a, q1137b, q1137c⟩ := isOf hZ rfl f1128
    obtain ⟨_, _, ⟨T1137, L1137, k1137, n1137⟩, -, X1137, ⟨Lc1137, hQ1137, l1137, y1137, z1137⟩, st1137⟩ := X1119.virtualBack hx (y := (⟨"gallai/service/ResidualDegrees", "lower", "(I)V"⟩ : MethodName)) (z := (⟨"gallai/service/ResidualDegrees", "lower", "(I)V"⟩ : MethodName)) hown (mvT hZ ww50) (mvT hZ ww51) (notFace_of_selects (args := #[]) (mvT hZ ww53)) (mvT hZ ww53) (mvT hZ ww52) (by decide) (backOf (W := 0) (rm6L3d1 l Z a0 hw [] b966 bf0_1119 bf1_1119 ss0 bf2_1119 bf3_1119 bf4_1119 bf5_1119 kf0_1119 cc0 (cc1 + (1 : Int32)) cc2 cc3 kf1_1119 (5 : Int32) (0 : Int32) ((((0 : Int32) + cc3) + cc2) + (cc1 + (1 : Int32))) (((0 : Int32) + cc3) + cc2) ((0 : Int32) + cc3) (0 : Int32) T1119.heap n0 (Nat.le_trans Z0 K1119.1) f1129 f1131 f1132 f1130 f1133 f1134 f1135 f1136 f1128 f1122 f1123 g_bf0_1119 g_bf1_1119 g_b966 ne1138 (Ne.symm ne_bf0_1119_bf1_1119) ne1139 c969 (by decide)) hZ ww54 ww6 (by decide) (by decide)) q1137a q1137c (g := (mkF m 130 (own_L0_3 p0_0 p0_1 p0_2 b933 b948 b966 ss0 .unset .unset) [(.int 1), (.ref b966)])) rfl (by rw [hml]; rfl) (Steps.refl _) (argsL := [(.int 1)]) (rest := []) (lenOf pd__I_V rfl) rfl (by show 2 * 0 + _ ≤ _; exact Nat.le_of_eq rfl) (hb hby at_130) (fun _ _ => ⟨rfl, rfl, (by decide : 9 + 0 ≤ _), (by decide : 48 + 0 ≤ _)⟩)
    dsimp only [Pt.U, Pt.locs, Pt.cells, Pt.slots] at X1137 l1137 y1137 z1137 st1137 hQ1137
    subst l1137 y1137 z1137
    obtain ⟨rfl, N1137q, K1137q, f1140, f1141, f1142, f1143, f1144, f1145, f1146, f1147, f1148, f1149, f1150⟩ := hQ1137
    have K1137 := K1119.trans K1137q (allS (Or.inr sz_bf0_1119) (allS (Or.inr sz_bf1_1119) (allS (Or.inr sz_b966) all0)))
    have N1137 := Fr.app N1119 N1137q
    refine own_trans (g' := (mkF m 133 (own_L0_3 p0_0 p0_1 p0_2 b933 b948 b966 ss0 .unset .unset) [])) st1137 ?_
    refine own_s (g' := (mkF m 134 (own_L0_3 p0_0 p0_1 p0_2 b933 b948 b966 ss0 .unset .unset) [(.ref b933)])) (fun _ kz => XS.aloadN X1137.here hx rfl (hb hby at_133) rfl rfl kz) ?_
    refine own_s (g' := (mkF m 136 (own_L0_3 p0_0 p0_1 p0_2 b933 b948 b966 ss0 .unset .unset) [(.int 1), (.ref b933)])) (fun _ kz => XS.iload X1137.here hx rfl (hb hby at_134) rfl kz) ?_
    refine own_s (g' := (mkF m 137 (own_L0_3 p0_0 p0_1 p0_2 b933 b948 b966 ss0 .unset .unset) [(.ref b933), (.int 1), (.ref b933)])) (fun _ kz => XS.aloadN X1137.here hx rfl (hb hby at_136) rfl rfl kz) ?_
    refine own_s (g' := (mkF m 139 (own_L0_3 p0_0 p0_1 p0_2 b933 b948 b966 ss0 .unset .unset) [(.int 1), (.ref b933), (.int 1), (.ref b933)])) (fun _ kz => XS.iload X1137.here hx rfl (hb hby at_137) rfl kz) ?_
    have ne1151 : b933 ≠ b966 := Nat.ne_of_lt (Nat.lt_of_lt_of_le ((((((((((Ex933.wr W934).wr W936).wr W938).wr W940).wr W943).ext E948).wr W951).wr W956).wr W960).wr W964).lt (Nat.le_of_eq ga966.symm))
    have ne1152 : b933 ≠ bf0_1119 := Nat.ne_of_lt (Nat.lt_of_lt_of_le (((((((((((Ex933.wr W934).wr W936).wr W938).wr W940).wr W943).ext E948).wr W951).wr W956).wr W960).wr W964).ext E966).lt hs_bf0_1119)
    have ne1153 : b933 ≠ bf1_1119 := Nat.ne_of_lt (Nat.lt_of_lt_of_le (((((((((((Ex933.wr W934).wr W936).wr W938).wr W940).wr W943).ext E948).wr W951).wr W956).wr W960).wr W964).ext E966).lt hs_bf1_1119)
    have f1154 := ((((f962.other W964 ne953).ext E966).keep K1119q (ninS ne1151 nin0)).keep K1137q (ninS ne1152 (ninS ne1153 (ninS ne1151 nin0))))
    obtain ⟨cl1155, Ar1155, -, S1155, -, H1155, -⟩ := id f1154
    have in1155 := inb_of S1155 (j := (1 : Int32)) ⟨by decide, by decide⟩
    refine own_s (g' := (mkF m 140 (own_L0_3 p0_0 p0_1 p0_2 b933 b948 b966 ss0 .unset .unset) [(.int (cc1 + (1 : Int32))), (.int 1), (.ref b933)])) (X1137.iaload hx (j := (1 : Int32)) (v := (.int (cc1 + (1 : Int32)))) Ar1155.1 (State.isArrayOf_alike hZ.alike Ar1155.2.1) Ar1155.2.2 in1155 (Has.at H1155 in1155 rfl) (g := (mkF m 139 (own_L0_3 p0_0 p0_1 p0_2 b933 b948 b966 ss0 .unset .unset) [(.int 1), (.ref b933), (.int 1), (.ref b933)])) rfl rfl (hb hby at_139)) ?_
    refine own_s (g' := (mkF m 141 (own_L0_3 p0_0 p0_1 p0_2 b933 b948 b966 ss0 .unset .unset) [(.int 1), (.int (cc1 + (1 : Int32))), (.int 1), (.ref b933)])) (fun _ kz => XS.iconst X1137.here hx rfl (hb hby at_140) kz) ?_
    refine own_s (g' := (mkF m 142 (own_L0_3 p0_0 p0_1 p0_2 b933 b948 b966 ss0 .unset .unset) [(.int ((cc1 + (1 : Int32)) - (1 : Int32))), (.int 1), (.ref b933)])) (fun _ kz => XS.isub X1137.here hx rfl (hb hby at_141) rfl kz) ?_
    obtain ⟨cl1156, Ar1156, q1156, S1156, M1156, H1156, G1156⟩ := id f1154
    obtain ⟨T1156, h1156, X1156, e1156, W1156, st1156⟩ := stI X1137 hx hZ rfl Ar1156 (j := (1 : Int32)) (inb_of S1156 ⟨by decide, by decide⟩) (g := (mkF m 142 (own_L0_3 p0_0 p0_1 p0_2 b933 b948 b966 ss0 .unset .unset) [(.int ((cc1 + (1 : Int32)) - (1 : Int32))), (.int 1), (.ref b933)])) rfl rfl (hb hby at_142)
    have f1157 : Arv Z h1156 b933 k933 .int (4 : Int32) [(.int cc0), (.int ((cc1 + (1 : Int32)) - (1 : Int32))), (.int cc2), (.int cc3)] (.int 0) := Arv.set Ar1156 q1156 S1156 M1156 H1156 G1156 rfl W1156 1 rfl (Nat.le_of_ble_eq_true rfl)
    have K1156 := K1137.wr W1156 (Or.inr sz_b933)
    have N1156 := Fr.snoc X1156 N1137 g_b933
    refine own_s (g' := (mkF m 143 (own_L0_3 p0_0 p0_1 p0_2 b933 b948 b966 ss0 .unset .unset) [])) st1156 ?_
    refine own_s (g' := (mkF m 144 (own_L0_3 p0_0 p0_1 p0_2 b933 b948 b966 ss0 .unset .unset) [(.ref b933)])) (fun _ kz => XS.aloadN X1156.here hx rfl (hb hby at_143) rfl rfl kz) ?_
    refine own_s (g' := (mkF m 146 (own_L0_3 p0_0 p0_1 p0_2 b933 b948 b966 ss0 .unset .unset) [(.int 1), (.ref b933)])) (fun _ kz => XS.iload X1156.here hx rfl (hb hby at_144) rfl kz) ?_
    refine own_s (g' := (mkF m 147 (own_L0_3 p0_0 p0_1 p0_2 b933 b948 b966 ss0 .unset .unset) [(.int 1), (.int 1), (.ref b933)])) (fun _ kz => XS.iconst X1156.here hx rfl (hb hby at_146) kz) ?_
    refine own_s (g' := (mkF m 148 (own_L0_3 p0_0 p0_1 p0_2 b933 b948 b966 ss0 .unset .unset) [(.int ((1 : Int32) - (1 : Int32))), (.ref b933)])) (fun _ kz => XS.isub X1156.here hx rfl (hb hby at_147) rfl kz) ?_
    rw [show ((1 : Int32) - (1 : Int32)) = (0 : Int32) from by decide]
    refine own_s (g' := (mkF m 149 (own_L0_3 p0_0 p0_1 p0_2 b933 b948 b966 ss0 .unset .unset) [(.ref b933), (.int 0), (.ref b933)])) (fun _ kz => XS.aloadN X1156.here hx rfl (hb hby at_148) rfl rfl kz) ?_
    refine own_s (g' := (mkF m 151 (own_L0_3 p0_0 p0_1 p0_2 b933 b948 b966 ss0 .unset .unset) [(.int 1), (.ref b933), (.int 0), (.ref b933)])) (fun _ kz => XS.iload X1156.here hx rfl (hb hby at_149) rfl kz) ?_
    refine own_s (g' := (mkF m 152 (own_L0_3 p0_0 p0_1 p0_2 b933 b948 b966 ss0 .unset .unset) [(.int 1), (.int 1), (.ref b933), (.int 0), (.ref b933)])) (fun _ kz => XS.iconst X1156.here hx rfl (hb hby at_151) kz) ?_
    refine own_s (g' := (mkF m 153 (own_L0_3 p0_0 p0_1 p0_2 b933 b948 b966 ss0 .unset .unset) [(.int ((1 : Int32) - (1 : Int32))), (.ref b933), (.int 0), (.ref b933)])) (fun _ kz => XS.isub X1156.here hx rfl (hb hby at_152) rfl kz) ?_
    rw [show ((1 : Int32) - (1 : Int32)) = (0 : Int32) from by decide]
    obtain ⟨cl1158, Ar1158, -, S1158, -, H1158, -⟩ := id f1157
    have in1158 := inb_of S1158 (j := (0 : Int32)) ⟨by decide, by decide⟩
    refine own_s (g' := (mkF m 154 (own_L0_3 p0_0 p0_1 p0_2 b933 b948 b966 ss0 .unset .unset) [(.int cc0), (.int 0), (.ref b933)])) (X1156.iaload hx (j := (0 : Int32)) (v := (.int cc0)) (by rw [e1156]; exact Ar1158.1) (State.isArrayOf_alike hZ.alike Ar1158.2.1) Ar1158.2.2 in1158 (Has.at H1158 in1158 rfl) (g := (mkF m 153 (own_L0_3 p0_0 p0_1 p0_2 b933 b948 b966 ss0 .unset .unset) [(.int 0), (.ref b933), (.int 0), (.ref b933)])) rfl rfl (hb hby at_153)) ?_
    refine own_s (g' := (mkF m 155 (own_L0_3 p0_0 p0_1 p0_2 b933 b948 b966 ss0 .unset .unset) [(.int 1), (.int cc0), (.int 0), (.ref b933)])) (fun _ kz => XS.iconst X1156.here hx rfl (hb hby at_154) kz) ?_
    refine own_s (g' := (mkF m 156 (own_L0_3 p0_0 p0_1 p0_2 b933 b948 b966 ss0 .unset .unset) [(.int (cc0 + (1 : Int32))), (.int 0), (.ref b933)])) (fun _ kz => XS.iadd X1156.here hx rfl (hb hby at_155) rfl kz) ?_
    obtain ⟨cl1159, Ar1159, q1159, S1159, M1159, H1159, G1159⟩ := id f1157
    obtain ⟨T1159, h1159, X1159, e1159, W1159, st1159⟩ := stI X1156 hx hZ e1156 Ar1159 (j := (0 : Int32)) (inb_of S1159 ⟨by decide, by decide⟩) (g := (mkF m 156 (own_L0_3 p0_0 p0_1 p0_2 b933 b948 b966 ss0 .unset .unset) [(.int (cc0 + (1 : Int32))), (.int 0), (.ref b933)])) rfl rfl (hb hby at_156)
    have f1160 : Arv Z h1159 b933 k933 .int (4 : Int32) [(.int (cc0 + (1 : Int32))), (.int ((cc1 + (1 : Int32)) - (1 : Int32))), (.int cc2), (.int cc3)] (.int 0) := Arv.set Ar1159 q1159 S1159 M1159 H1159 G1159 rfl W1159 0 rfl (Nat.le_of_ble_eq_true rfl)
    have K1159 := K1156.wr W1159 (Or.inr sz_b933)
    have N1159 := Fr.snoc X1159 N1156 g_b933
    refine own_s (g' := (mkF m 157 (own_L0_3 p0_0 p0_1 p0_2 b933 b948 b966 ss0 .unset .unset) [])) st1159 ?_
    have f1161 := ((f1140.other W1156 (Ne.symm ne1152)).other W1159 (Ne.symm ne1152))
    rw [own_pm cc1] at f1161
    rw [own_pm cc1] at f1160
    refine own_s (g' := (mkF m 159 (own_L0_3 p0_0 p0_1 p0_2 b933 b948 b966 ss0 .unset .unset) [(.ref b966)])) (fun _ kz => XS.aload X1159.here hx rfl (hb hby at_157) rfl rfl kz) ?_
    have f1163 := ((f1150.other W1156 (Or.inl (Ne.symm ne1151))).other W1159 (Or.inl (Ne.symm ne1151)))
    have f1164 := ((f1142.wr W1156).wr W1159)
    obtain ⟨cq1162, kq1162, q1162a, q1162b, q1162c⟩ := isOf hZ e1159 f1164
    obtain ⟨_, _, ⟨T1162, L1162, k1162, n1162⟩, -, X1162, ⟨Lc1162, hQ1162, l1162, y1162, z1162⟩, st1162⟩ := X1159.virtualBack hx (y := (⟨"gallai/service/ResidualDegrees", "sum", "()J"⟩ : MethodName)) (z := (⟨"gallai/service/ResidualDegrees", "sum", "()J"⟩ : MethodName)) hown (mvT hZ ww55) (mvT hZ ww56) (notFace_of_selects (args := #[]) (mvT hZ ww58)) (mvT hZ ww58) (mvT hZ ww57) (by decide) (backOf (W := 0) (rm7 l Z a0 hw [] b966 (ss0 - (1 : Int64)) h1159 n0 (Nat.le_trans Z0 K1159.1) f1163) hZ ww59 ww6 (by decide) (by decide)) q1162a q1162c (g := (mkF m 159 (own_L0_3 p0_0 p0_1 p0_2 b933 b948 b966 ss0 .unset .unset) [(.ref b966)])) rfl (by rw [hml]; rfl) (Steps.refl _) (argsL := []) (rest := []) (lenOf pd___J rfl) rfl (by show 2 * 0 + _ ≤ _; exact Nat.le_of_eq rfl) (hb hby at_159) (fun _ _ => ⟨rfl, e1159, (by decide : 9 + 0 ≤ _), (by decide : 48 + 0 ≤ _)⟩)
    dsimp only [Pt.U, Pt.locs, Pt.cells, Pt.slots] at X1162 l1162 y1162 z1162 st1162 hQ1162
    subst l1162 y1162 z1162
    obtain ⟨rfl, N1162q, eh1162⟩ := hQ1162
    have N1162 := Fr.app N1159 N1162q
    refine own_trans (g' := (mkF m 162 (own_L0_3 p0_0 p0_1 p0_2 b933 b948 b966 ss0 .unset .unset) [(.long (ss0 - (1 : Int64)))])) st1162 ?_
    refine own_s (g' := (mkF m 164 (own_L0_3 p0_0 p0_1 p0_2 b933 b948 b966 ss0 .unset .unset) [(.long ss0), (.long (ss0 - (1 : Int64)))])) (fun _ kz => XS.lload X1162.here hx rfl (hb hby at_162) rfl kz) ?_
    refine own_s (g' := (mkF m 165 (own_L0_3 p0_0 p0_1 p0_2 b933 b948 b966 ss0 .unset .unset) [(.long 1), (.long ss0), (.long (ss0 - (1 : Int64)))])) (fun _ kz => XS.lconst X1162.here hx rfl (hb hby at_164) kz) ?_
    refine own_s (g' := (mkF m 166 (own_L0_3 p0_0 p0_1 p0_2 b933 b948 b966 ss0 .unset .unset) [(.long (ss0 - (1 : Int64))), (.long (ss0 - (1 : Int64)))])) (fun _ kz => XS.lsub X1162.here hx rfl (hb hby at_165) rfl kz) ?_
    refine own_s (g' := (mkF m 167 (own_L0_3 p0_0 p0_1 p0_2 b933 b948 b966 ss0 .unset .unset) [(.int (lcmpW (ss0 - (1 : Int64)) (ss0 - (1 : Int64))))])) (fun _ kz => XS.lcmp X1162.here hx rfl (hb hby at_166) rfl kz) ?_
    refine own_s (g' := (mkF m 170 (own_L0_3 p0_0 p0_1 p0_2 b933 b948 b966 ss0 .unset .unset) [])) (fun _ kz => XS.ifNo X1162.here hx rfl (hb hby at_167) rfl ((if0 _ _).trans (teq ((lw_eq (ss0 - (1 : Int64)) (ss0 - (1 : Int64))).mpr rfl)).2) kz) ?_
    refine own_s (g' := (mkF m 172 (own_L0_3 p0_0 p0_1 p0_2 b933 b948 b966 ss0 .unset .unset) [(.ref b966)])) (fun _ kz => XS.aload X1162.here hx rfl (hb hby at_170) rfl rfl kz) ?_
    have f1166 := ((f1145.other W1156 (Or.inl (Ne.symm ne1151))).other W1159 (Or.inl (Ne.symm ne1151)))
    obtain ⟨cq1165, kq1165, q1165a, q1165b, q1165c⟩ := isOf hZ eh1162 f1164
    obtain ⟨_, _, ⟨T1165, L1165, k1165, n1165⟩, -, X1165, ⟨Lc1165, hQ1165, l1165, y1165, z1165⟩, st1165⟩ := X1162.virtualBack hx (y := (⟨"gallai/service/ResidualDegrees", "largest", "()I"⟩ : MethodName)) (z := (⟨"gallai/service/ResidualDegrees", "largest", "()I"⟩ : MethodName)) hown (mvT hZ ww60) (mvT hZ ww61) (notFace_of_selects (args := #[]) (mvT hZ ww63)) (mvT hZ ww63) (mvT hZ ww62) (by decide) (backOf (W := 0) (rm8 l Z a0 hw [] b966 (3 : Int32) h1159 n0 (Nat.le_trans Z0 K1159.1) f1166) hZ ww64 ww6 (by decide) (by decide)) q1165a q1165c (g := (mkF m 172 (own_L0_3 p0_0 p0_1 p0_2 b933 b948 b966 ss0 .unset .unset) [(.ref b966)])) rfl (by rw [hml]; rfl) (Steps.refl _) (argsL := []) (rest := []) (lenOf pd___I rfl) rfl (by show 2 * 0 + _ ≤ _; exact Nat.le_of_eq rfl) (hb hby at_172) (fun _ _ => ⟨rfl, eh1162, (by decide : 9 + 0 ≤ _), (by decide : 48 + 0 ≤ _)⟩)
    dsimp only [Pt.U, Pt.locs, Pt.cells, Pt.slots] at X1165 l1165 y1165 z1165 st1165 hQ1165
    subst l1165 y1165 z1165
    obtain ⟨rfl, N1165q, eh1165⟩ := hQ1165
    have N1165 := Fr.app N1162 N1165q
    refine own_trans (g' := (mkF m 175 (own_L0_3 p0_0 p0_1 p0_2 b933 b948 b966 ss0 .unset .unset) [(.int 3)])) st1165 ?_
    refine own_s (g' := (mkF m 176 (own_L0_3 p0_0 p0_1 p0_2 b933 b948 b966 ss0 .unset .unset) [(.ref b933), (.int 3)])) (fun _ kz => XS.aloadN X1165.here hx rfl (hb hby at_175) rfl rfl kz) ?_
    obtain ⟨_, _, ⟨T1167, L1167, k1167, n1167⟩, -, X1167, ⟨Lc1167, hQ1167, l1167, y1167, z1167⟩, st1167⟩ := Jvm.LawKit.callS X1165 hx (y := (⟨"gallai/service/ResidualDegreesLowerPinLaw", "top", "([I)I"⟩ : MethodName)) hown (mvT hZ ww65) (mvT hZ ww66) (mvT hZ ww67) (mvT hZ ww68) (by decide) (backOf (W := 1) (rm9 l Z a0 hw [] b933 k933 (cc0 + (1 : Int32)) cc1 cc2 cc3 h1159 n0 (Nat.le_trans Z0 K1159.1) f1160) hZ ww68 ww67 (by decide) (by decide)) (g := (mkF m 176 (own_L0_3 p0_0 p0_1 p0_2 b933 b948 b966 ss0 .unset .unset) [(.ref b933), (.int 3)])) rfl (by rw [hml]; rfl) (argsL := [(.ref b933)]) (rest := [(.int 3)]) (lenOf pd___I_I rfl) rfl (by show 2 * 0 + _ ≤ _; exact Nat.le_of_eq rfl) (hb hby at_176) (fun _ _ => ⟨rfl, eh1165, (by decide : 9 + 0 ≤ _), (by decide : 48 + 0 ≤ _)⟩)
    dsimp only [Pt.U, Pt.locs, Pt.cells, Pt.slots] at X1167 l1167 y1167 z1167 st1167 hQ1167
    subst l1167 y1167 z1167
    obtain ⟨rfl, N1167q, eh1167⟩ := hQ1167
    have N1167 := Fr.app N1165 N1167q
    refine own_s (g' := (mkF m 179 (own_L0_3 p0_0 p0_1 p0_2 b933 b948 b966 ss0 .unset .unset) [(.int (r9 cc1 cc2 cc3)), (.int 3)])) st1167 ?_
    rw [show (r9 cc1 cc2 cc3) = (3 : Int32) from (if_pos ((own_triI (fun q => c969 q.symm) hb3.1) : (0 : Int32) < cc3))]
    refine own_s (g' := (mkF m 182 (own_L0_3 p0_0 p0_1 p0_2 b933 b948 b966 ss0 .unset .unset) [])) (fun _ kz => XS.icmpNo X1167.here hx rfl (hb hby at_179) rfl (teq ((by decide) : (3 : Int32) = (3 : Int32))).2 kz) ?_
    refine own_s (g' := (mkF m 183 (own_L0_3 p0_0 p0_1 p0_2 b933 b948 b966 ss0 .unset .unset) [(.int 1)])) (fun _ kz => XS.iconst X1167.here hx rfl (hb hby at_182) kz) ?_
    refine own_s (g' := (mkF m 187 (own_L0_3 p0_0 p0_1 p0_2 b933 b948 b966 ss0 .unset .unset) [(.int 1)])) (fun _ kz => XS.goto X1167.here hx rfl (pc0 := 183) (pc' := 187) rfl (hb hby at_183) (by decide) (by decide) kz) ?_
    refine own_s (g' := (mkF m 189 (own_L0_3 p0_0 p0_1 p0_2 b933 b948 b966 ss0 (.val (.int 1)) .unset) [])) (fun _ kz => XS.istore X1167.here hx rfl (hb hby at_187) rfl (l' := (own_L0_3 p0_0 p0_1 p0_2 b933 b948 b966 ss0 (.val (.int 1)) .unset)) rfl kz) ?_
    have f1168 := ((f1141.other W1156 (Ne.symm ne1153)).other W1159 (Ne.symm ne1153))
    have f1169 := ((f1143.other W1156 (Or.inl (Ne.symm ne1151))).other W1159 (Or.inl (Ne.symm ne1151)))
    have f1170 := ((f1144.other W1156 (Or.inl (Ne.symm ne1151))).other W1159 (Or.inl (Ne.symm ne1151)))
    have f1171 := ((f1146.other W1156 (Or.inl (Ne.symm ne1151))).other W1159 (Or.inl (Ne.symm ne1151)))
    have f1172 := ((f1147.other W1156 (Or.inl (Ne.symm ne1151))).other W1159 (Or.inl (Ne.symm ne1151)))
    have f1173 := ((f1148.other W1156 (Or.inl (Ne.symm ne1151))).other W1159 (Or.inl (Ne.symm ne1151)))
    have f1174 := ((f1149.other W1156 (Or.inl (Ne.symm ne1151))).other W1159 (Or.inl (Ne.symm ne1151)))
    exact own_cutA3 l Z a0 hw (.val (.int p0_0)) (.val (.int p0_1)) p0_2 b933 (.val (.int 1)) ss0 (.val (.ref b948)) b966 bf0_1119 bf1_1119 bf2_1119 bf3_1119 bf4_1119 bf5_1119 k933 (cc0 + (1 : Int32)) cc1 cc2 cc3 kf0_1119 kf1_1119 (5 : Int32) (0 : Int32) (((((0 : Int32) + cc3) + cc2) + (cc1 + (1 : Int32))) - (1 : Int32)) (((0 : Int32) + cc3) + cc2) ((0 : Int32) + cc3) (0 : Int32) (X1167.more (by decide) (by decide)) hx hZ hby hml hown hlk hret h1159 n0 eh1167 (Nat.le_trans Z0 K1159.1) N1167 f1169 f1170 f1163 f1166 f1171 f1172 f1173 f1174 f1164 f1160 f1161 f1168 g_bf0_1119 g_bf1_1119 g_b966 g_b933 ne1138 (Ne.symm ne_bf0_1119_bf1_1119) ne1139 ne1152 ne1153 ne1151 (hi968.2.2 : ¬ (cc0 + (1 : Int32)) < (0 : Int32)) (hb1.1 : ¬ cc1 < (0 : Int32)) (hb2.1 : ¬ cc2 < (0 : Int32)) (hb3.1 : ¬ cc3 < (0 : Int32)) ((own_inc20 hb0.1 hs0) : ¬ (20 : Int32) < (cc0 + (1 : Int32))) (hb1.2 : ¬ (20 : Int32) < cc1) (hb2.2 : ¬ (20 : Int32) < cc2) (hb3.2 : ¬ (20 : Int32) < cc3) c969 (by decide) (by decide) (by decide)
  ·skip
   rw [show ((1 : Int32) + ((p0_1 &&& (2147483647 : Int32)) % (3 : Int32))) = (2 : Int32) from hd1]
   refine own_s (g' := (mkF m 50 #[.val (.int p0_0), .val (.int p0_1), .val (.int p0_2), .val (.ref b933), .val (.int 2), .unset, .unset, .unset, .unset, .unset, .unset] [])) (fun _ kz => XS.istore X940.here hx rfl (hb hby at_48) rfl (l' := #[.val (.int p0_0), .val (.int p0_1), .val (.int p0_2), .val (.ref b933), .val (.int 2), .unset, .unset, .unset, .unset, .unset, .unset]) rfl kz) ?_
   refine own_s (g' := (mkF m 51 #[.val (.int p0_0), .val (.int p0_1), .val (.int p0_2), .val (.ref b933), .val (.int 2), .unset, .unset, .unset, .unset, .unset, .unset] [(.ref b933)])) (fun _ kz => XS.aloadN X940.here hx rfl (hb hby at_50) rfl rfl kz) ?_
   refine own_s (g' := (mkF m 53 #[.val (.int p0_0), .val (.int p0_1), .val (.int p0_2), .val (.ref b933), .val (.int 2), .unset, .unset, .unset, .unset, .unset, .unset] [(.int 2), (.ref b933)])) (fun _ kz => XS.iload X940.here hx rfl (hb hby at_51) rfl kz) ?_
   refine own_s (g' := (mkF m 54 #[.val (.int p0_0), .val (.int p0_1), .val (.int p0_2), .val (.ref b933), .val (.int 2), .unset, .unset, .unset, .unset, .unset, .unset] [(.ref b933), (.int 2), (.ref b933)])) (fun _ kz => XS.aloadN X940.here hx rfl (hb hby at_53) rfl rfl kz) ?_
   refine own_s (g' := (mkF m 56 #[.val (.int p0_0), .val (.int p0_1), .val (.int p0_2), .val (.ref b933), .val (.int 2), .unset, .unset, .unset, .unset, .unset, .unset] [(.int 2), (.ref b933), (.int 2), (.ref b933)])) (fun _ kz => XS.iload X940.here hx rfl (hb hby at_54) rfl kz) ?_
   obtain ⟨cl1175, Ar1175, -, S1175, -, H1175, -⟩ := id f941
   have in1175 := inb_of S1175 (j := (2 : Int32)) ⟨by decide, by decide⟩
   refine own_s (g' := (mkF m 57 #[.val (.int p0_0), .val (.int p0_1), .val (.int p0_2), .val (.ref b933), .val (.int 2), .unset, .unset, .unset, .unset, .unset, .unset] [(.int cc2), (.int 2), (.ref b933)])) (X940.iaload hx (j := (2 : Int32)) (v := (.int cc2)) (by rw [e940]; exact Ar1175.1) (State.isArrayOf_alike hZ.alike Ar1175.2.1) Ar1175.2.2 in1175 (Has.at H1175 in1175 rfl) (g := (mkF m 56 #[.val (.int p0_0), .val (.int p0_1), .val (.int p0_2), .val (.ref b933), .val (.int 2), .unset, .unset, .unset, .unset, .unset, .unset] [(.int 2), (.ref b933), (.int 2), (.ref b933)])) rfl rfl (hb hby at_56)) ?_
   refine own_s (g' := (mkF m 58 #[.val (.int p0_0), .val (.int p0_1), .val (.int p0_2), .val (.ref b933), .val (.int 2), .unset, .unset, .unset, .unset, .unset, .unset] [(.int 1), (.int cc2), (.int 2), (.ref b933)])) (fun _ kz => XS.iconst X940.here hx rfl (hb hby at_57) kz) ?_
   refine own_s (g' := (mkF m 59 #[.val (.int p0_0), .val (.int p0_1), .val (.int p0_2), .val (.ref b933), .val (.int 2), .unset, .unset, .unset, .unset, .unset, .unset] [(.int (cc2 + (1 : Int32))), (.int 2), (.ref b933)])) (fun _ kz => XS.iadd X940.here hx rfl (hb hby at_58) rfl kz) ?_
   obtain ⟨cl1176, Ar1176, q1176, S1176, M1176, H1176, G1176⟩ := id f941
   obtain ⟨T1176, h1176, X1176, e1176, W1176, st1176⟩ := stI X940 hx hZ e940 Ar1176 (j := (2 : Int32)) (inb_of S1176 ⟨by decide, by decide⟩) (g := (mkF m 59 #[.val (.int p0_0), .val (.int p0_1), .val (.int p0_2), .val (.ref b933), .val (.int 2), .unset, .unset, .unset, .unset, .unset, .unset] [(.int (cc2 + (1 : Int32))), (.int 2), (.ref b933)])) rfl rfl (hb hby at_59)
   have f1177 : Arv Z h1176 b933 k933 .int (4 : Int32) [(.int cc0), (.int cc1), (.int (cc2 + (1 : Int32))), (.int cc3)] (.int 0) := Arv.set Ar1176 q1176 S1176 M1176 H1176 G1176 rfl W1176 2 rfl (Nat.le_of_ble_eq_true rfl)
   have K1176 := K940.wr W1176 (Or.inr sz_b933)
   have N1176 := Fr.snoc X1176 N940 g_b933
   refine own_s (g' := (mkF m 60 #[.val (.int p0_0), .val (.int p0_1), .val (.int p0_2), .val (.ref b933), .val (.int 2), .unset, .unset, .unset, .unset, .unset, .unset] [])) st1176 ?_
   refine own_s (g' := (mkF m 61 #[.val (.int p0_0), .val (.int p0_1), .val (.int p0_2), .val (.ref b933), .val (.int 2), .unset, .unset, .unset, .unset, .unset, .unset] [(.ref b933)])) (fun _ kz => XS.aloadN X1176.here hx rfl (hb hby at_60) rfl rfl kz) ?_
   refine own_s (g' := (mkF m 62 #[.val (.int p0_0), .val (.int p0_1), .val (.int p0_2), .val (.ref b933), .val (.int 2), .unset, .unset, .unset, .unset, .unset, .unset] [(.int 1), (.ref b933)])) (fun _ kz => XS.iconst X1176.here hx rfl (hb hby at_61) kz) ?_
   obtain ⟨cl1178, Ar1178, -, S1178, -, H1178, -⟩ := id f1177
   have in1178 := inb_of S1178 (j := (1 : Int32)) ⟨by decide, by decide⟩
   refine own_s (g' := (mkF m 63 #[.val (.int p0_0), .val (.int p0_1), .val (.int p0_2), .val (.ref b933), .val (.int 2), .unset, .unset, .unset, .unset, .unset, .unset] [(.int cc1)])) (X1176.iaload hx (j := (1 : Int32)) (v := (.int cc1)) (by rw [e1176]; exact Ar1178.1) (State.isArrayOf_alike hZ.alike Ar1178.2.1) Ar1178.2.2 in1178 (Has.at H1178 in1178 rfl) (g := (mkF m 62 #[.val (.int p0_0), .val (.int p0_1), .val (.int p0_2), .val (.ref b933), .val (.int 2), .unset, .unset, .unset, .unset, .unset, .unset] [(.int 1), (.ref b933)])) rfl rfl (hb hby at_62)) ?_
   refine own_s (g' := (mkF m 64 #[.val (.int p0_0), .val (.int p0_1), .val (.int p0_2), .val (.ref b933), .val (.int 2), .unset, .unset, .unset, .unset, .unset, .unset] [(.long cc1.toInt64)])) (fun _ kz => XS.i2l X1176.here hx rfl (hb hby at_63) rfl kz) ?_
   refine own_s (g' := (mkF m 67 #[.val (.int p0_0), .val (.int p0_1), .val (.int p0_2), .val (.ref b933), .val (.int 2), .unset, .unset, .unset, .unset, .unset, .unset] [(.long 2), (.long cc1.toInt64)])) (X1176.ldc2Long hx hown (mvT hZ ww2) (g := (mkF m 64 #[.val (.int p0_0), .val (.int p0_1), .val (.int p0_2), .val (.ref b933), .val (.int 2), .unset, .unset, .unset, .unset, .unset, .unset] [(.long cc1.toInt64)])) rfl (hb hby at_64)) ?_
   refine own_s (g' := (mkF m 68 #[.val (.int p0_0), .val (.int p0_1), .val (.int p0_2), .val (.ref b933), .val (.int 2), .unset, .unset, .unset, .unset, .unset, .unset] [(.ref b933), (.long 2), (.long cc1.toInt64)])) (fun _ kz => XS.aloadN X1176.here hx rfl (hb hby at_67) rfl rfl kz) ?_
   refine own_s (g' := (mkF m 69 #[.val (.int p0_0), .val (.int p0_1), .val (.int p0_2), .val (.ref b933), .val (.int 2), .unset, .unset, .unset, .unset, .unset, .unset] [(.int 2), (.ref b933), (.long 2), (.long cc1.toInt64)])) (fun _ kz => XS.iconst X1176.here hx rfl (hb hby at_68) kz) ?_
   obtain ⟨cl1179, Ar1179, -, S1179, -, H1179, -⟩ := id f1177
   have in1179 := inb_of S1179 (j := (2 : Int32)) ⟨by decide, by decide⟩
   refine own_s (g' := (mkF m 70 #[.val (.int p0_0), .val (.int p0_1), .val (.int p0_2), .val (.ref b933), .val (.int 2), .unset, .unset, .unset, .unset, .unset, .unset] [(.int (cc2 + (1 : Int32))), (.long 2), (.long cc1.toInt64)])) (X1176.iaload hx (j := (2 : Int32)) (v := (.int (cc2 + (1 : Int32)))) (by rw [e1176]; exact Ar1179.1) (State.isArrayOf_alike hZ.alike Ar1179.2.1) Ar1179.2.2 in1179 (Has.at H1179 in1179 rfl) (g := (mkF m 69 #[.val (.int p0_0), .val (.int p0_1), .val (.int p0_2), .val (.ref b933), .val (.int 2), .unset, .unset, .unset, .unset, .unset, .unset] [(.int 2), (.ref b933), (.long 2), (.long cc1.toInt64)])) rfl rfl (hb hby at_69)) ?_
   refine own_s (g' := (mkF m 71 #[.val (.int p0_0), .val (.int p0_1), .val (.int p0_2), .val (.ref b933), .val (.int 2), .unset, .unset, .unset, .unset, .unset, .unset] [(.long (cc2 + (1 : Int32)).toInt64), (.long 2), (.long cc1.toInt64)])) (fun _ kz => XS.i2l X1176.here hx rfl (hb hby at_70) rfl kz) ?_
   refine own_s (g' := (mkF m 72 #[.val (.int p0_0), .val (.int p0_1), .val (.int p0_2), .val (.ref b933), .val (.int 2), .unset, .unset, .unset, .unset, .unset, .unset] [(.long ((2 : Int64) * (cc2 + (1 : Int32)).toInt64)), (.long cc1.toInt64)])) (fun _ kz => XS.lmul X1176.here hx rfl (hb hby at_71) rfl kz) ?_
   refine own_s (g' := (mkF m 73 #[.val (.int p0_0), .val (.int p0_1), .val (.int p0_2), .val (.ref b933), .val (.int 2), .unset, .unset, .unset, .unset, .unset, .unset] [(.long (cc1.toInt64 + ((2 : Int64) * (cc2 + (1 : Int32)).toInt64)))])) (fun _ kz => XS.ladd X1176.here hx rfl (hb hby at_72) rfl kz) ?_
   refine own_s (g' := (mkF m 76 #[.val (.int p0_0), .val (.int p0_1), .val (.int p0_2), .val (.ref b933), .val (.int 2), .unset, .unset, .unset, .unset, .unset, .unset] [(.long 3), (.long (cc1.toInt64 + ((2 : Int64) * (cc2 + (1 : Int32)).toInt64)))])) (X1176.ldc2Long hx hown (mvT hZ ww3) (g := (mkF m 73 #[.val (.int p0_0), .val (.int p0_1), .val (.int p0_2), .val (.ref b933), .val (.int 2), .unset, .unset, .unset, .unset, .unset, .unset] [(.long (cc1.toInt64 + ((2 : Int64) * (cc2 + (1 : Int32)).toInt64)))])) rfl (hb hby at_73)) ?_
   refine own_s (g' := (mkF m 77 #[.val (.int p0_0), .val (.int p0_1), .val (.int p0_2), .val (.ref b933), .val (.int 2), .unset, .unset, .unset, .unset, .unset, .unset] [(.ref b933), (.long 3), (.long (cc1.toInt64 + ((2 : Int64) * (cc2 + (1 : Int32)).toInt64)))])) (fun _ kz => XS.aloadN X1176.here hx rfl (hb hby at_76) rfl rfl kz) ?_
   refine own_s (g' := (mkF m 78 #[.val (.int p0_0), .val (.int p0_1), .val (.int p0_2), .val (.ref b933), .val (.int 2), .unset, .unset, .unset, .unset, .unset, .unset] [(.int 3), (.ref b933), (.long 3), (.long (cc1.toInt64 + ((2 : Int64) * (cc2 + (1 : Int32)).toInt64)))])) (fun _ kz => XS.iconst X1176.here hx rfl (hb hby at_77) kz) ?_
   obtain ⟨cl1180, Ar1180, -, S1180, -, H1180, -⟩ := id f1177
   have in1180 := inb_of S1180 (j := (3 : Int32)) ⟨by decide, by decide⟩
   refine own_s (g' := (mkF m 79 #[.val (.int p0_0), .val (.int p0_1), .val (.int p0_2), .val (.ref b933), .val (.int 2), .unset, .unset, .unset, .unset, .unset, .unset] [(.int cc3), (.long 3), (.long (cc1.toInt64 + ((2 : Int64) * (cc2 + (1 : Int32)).toInt64)))])) (X1176.iaload hx (j := (3 : Int32)) (v := (.int cc3)) (by rw [e1176]; exact Ar1180.1) (State.isArrayOf_alike hZ.alike Ar1180.2.1) Ar1180.2.2 in1180 (Has.at H1180 in1180 rfl) (g := (mkF m 78 #[.val (.int p0_0), .val (.int p0_1), .val (.int p0_2), .val (.ref b933), .val (.int 2), .unset, .unset, .unset, .unset, .unset, .unset] [(.int 3), (.ref b933), (.long 3), (.long (cc1.toInt64 + ((2 : Int64) * (cc2 + (1 : Int32)).toInt64)))])) rfl rfl (hb hby at_78)) ?_
   refine own_s (g' := (mkF m 80 #[.val (.int p0_0), .val (.int p0_1), .val (.int p0_2), .val (.ref b933), .val (.int 2), .unset, .unset, .unset, .unset, .unset, .unset] [(.long cc3.toInt64), (.long 3), (.long (cc1.toInt64 + ((2 : Int64) * (cc2 + (1 : Int32)).toInt64)))])) (fun _ kz => XS.i2l X1176.here hx rfl (hb hby at_79) rfl kz) ?_
   refine own_s (g' := (mkF m 81 #[.val (.int p0_0), .val (.int p0_1), .val (.int p0_2), .val (.ref b933), .val (.int 2), .unset, .unset, .unset, .unset, .unset, .unset] [(.long ((3 : Int64) * cc3.toInt64)), (.long (cc1.toInt64 + ((2 : Int64) * (cc2 + (1 : Int32)).toInt64)))])) (fun _ kz => XS.lmul X1176.here hx rfl (hb hby at_80) rfl kz) ?_
   refine own_s (g' := (mkF m 82 #[.val (.int p0_0), .val (.int p0_1), .val (.int p0_2), .val (.ref b933), .val (.int 2), .unset, .unset, .unset, .unset, .unset, .unset] [(.long ((cc1.toInt64 + ((2 : Int64) * (cc2 + (1 : Int32)).toInt64)) + ((3 : Int64) * cc3.toInt64)))])) (fun _ kz => XS.ladd X1176.here hx rfl (hb hby at_81) rfl kz) ?_
   obtain ⟨ss0, hss0⟩ : ∃ z, z = ((cc1.toInt64 + ((2 : Int64) * (cc2 + (1 : Int32)).toInt64)) + ((3 : Int64) * cc3.toInt64)) := ⟨_, rfl⟩
   rw [← hss0]
   refine own_s (g' := (mkF m 84 #[.val (.int p0_0), .val (.int p0_1), .val (.int p0_2), .val (.ref b933), .val (.int 2), .val (.long ss0), .second, .unset, .unset, .unset, .unset] [])) (fun _ kz => XS.lstore X1176.here hx rfl (hb hby at_82) rfl (l' := #[.val (.int p0_0), .val (.int p0_1), .val (.int p0_2), .val (.ref b933), .val (.int 2), .val (.long ss0), .second, .unset, .unset, .unset, .unset]) rfl kz) ?_
   show own_G p e below s _ _ _ T1176 (mkF m _ (own_L0_4 p0_0 p0_1 p0_2 b933 ss0 .unset .unset .unset .unset) _)
   refine own_s (g' := (mkF m 85 (own_L0_4 p0_0 p0_1 p0_2 b933 ss0 .unset .unset .unset .unset) [(.int 4)])) (fun _ kz => XS.iconst X1176.here hx rfl (hb hby at_84) kz) ?_
   obtain ⟨T1181, h1181, k1181, X1181, e1181, E1181, A1181, Ex1181, st1181⟩ := newPE (aty := .int) X1176 hx hZ ww0 e1176 (g := (mkF m 85 (own_L0_4 p0_0 p0_1 p0_2 b933 ss0 .unset .unset .unset .unset) [(.int 4)])) rfl (hb hby at_85) rfl (by decide) (cap := 4) (by decide) (by decide) (by decide) (by decide) (ad := "[I") (by decide)
   obtain ⟨b1181, ga1181⟩ : ∃ z, z = h1176.size := ⟨_, rfl⟩
   rw [← ga1181] at A1181 Ex1181 st1181
   have g_b1181 := Nat.le_trans (Nat.le_trans Z0 K1176.1) (Nat.le_of_eq ga1181.symm)
   have sz_b1181 := Nat.le_trans K1176.1 (Nat.le_of_eq ga1181.symm)
   have V1181 : Arv Z h1181 b1181 k1181 .int (4 : Int32) [(.int 0), (.int 0), (.int 0), (.int 0)] (.int 0) := (Arv.new A1181 (by decide)).pad (pad_rep [] (.int 0) 4)
   have K1181 := K1176.ext E1181
   refine own_s (g' := (mkF m 87 (own_L0_4 p0_0 p0_1 p0_2 b933 ss0 .unset .unset .unset .unset) [(.ref b1181)])) st1181 ?_
   refine own_s (g' := (mkF m 88 (own_L0_4 p0_0 p0_1 p0_2 b933 ss0 .unset .unset .unset .unset) [(.ref b1181), (.ref b1181)])) (fun _ kz => XS.dup X1181.here hx rfl (hb hby at_87) rfl rfl kz) ?_
   refine own_s (g' := (mkF m 89 (own_L0_4 p0_0 p0_1 p0_2 b933 ss0 .unset .unset .unset .unset) [(.int 0), (.ref b1181), (.ref b1181)])) (fun _ kz => XS.iconst X1181.here hx rfl (hb hby at_88) kz) ?_
   refine own_s (g' := (mkF m 90 (own_L0_4 p0_0 p0_1 p0_2 b933 ss0 .unset .unset .unset .unset) [(.ref b933), (.int 0), (.ref b1181), (.ref b1181)])) (fun _ kz => XS.aloadN X1181.here hx rfl (hb hby at_89) rfl rfl kz) ?_
   refine own_s (g' := (mkF m 91 (own_L0_4 p0_0 p0_1 p0_2 b933 ss0 .unset .unset .unset .unset) [(.int 0), (.ref b933), (.int 0), (.ref b1181), (.ref b1181)])) (fun _ kz => XS.iconst X1181.here hx rfl (hb hby at_90) kz) ?_
   have f1182 := (f1177.ext E1181)
   obtain ⟨cl1183, Ar1183, -, S1183, -, H1183, -⟩ := id f1182
   have in1183 := inb_of S1183 (j := (0 : Int32)) ⟨by decide, by decide⟩
   refine own_s (g' := (mkF m 92 (own_L0_4 p0_0 p0_1 p0_2 b933 ss0 .unset .unset .unset .unset) [(.int cc0), (.int 0), (.ref b1181), (.ref b1181)])) (X1181.iaload hx (j := (0 : Int32)) (v := (.int cc0)) (by rw [e1181]; exact Ar1183.1) (State.isArrayOf_alike hZ.alike Ar1183.2.1) Ar1183.2.2 in1183 (Has.at H1183 in1183 rfl) (g := (mkF m 91 (own_L0_4 p0_0 p0_1 p0_2 b933 ss0 .unset .unset .unset .unset) [(.int 0), (.ref b933), (.int 0), (.ref b1181), (.ref b1181)])) rfl rfl (hb hby at_91)) ?_
   obtain ⟨cl1184, Ar1184, q1184, S1184, M1184, H1184, G1184⟩ := id V1181
   obtain ⟨T1184, h1184, X1184, e1184, W1184, st1184⟩ := stI X1181 hx hZ e1181 Ar1184 (j := (0 : Int32)) (inb_of S1184 ⟨by decide, by decide⟩) (g := (mkF m 92 (own_L0_4 p0_0 p0_1 p0_2 b933 ss0 .unset .unset .unset .unset) [(.int cc0), (.int 0), (.ref b1181), (.ref b1181)])) rfl rfl (hb hby at_92)
   have f1185 : Arv Z h1184 b1181 k1181 .int (4 : Int32) [(.int cc0), (.int 0), (.int 0), (.int 0)] (.int 0) := Arv.set Ar1184 q1184 S1184 M1184 H1184 G1184 rfl W1184 0 rfl (Nat.le_of_ble_eq_true rfl)
   have K1184 := K1181.wr W1184 (Or.inr sz_b1181)
   have N1184 := Fr.snoc X1184 N1176 g_b1181
   refine own_s (g' := (mkF m 93 (own_L0_4 p0_0 p0_1 p0_2 b933 ss0 .unset .unset .unset .unset) [(.ref b1181)])) st1184 ?_
   refine own_s (g' := (mkF m 94 (own_L0_4 p0_0 p0_1 p0_2 b933 ss0 .unset .unset .unset .unset) [(.ref b1181), (.ref b1181)])) (fun _ kz => XS.dup X1184.here hx rfl (hb hby at_93) rfl rfl kz) ?_
   refine own_s (g' := (mkF m 95 (own_L0_4 p0_0 p0_1 p0_2 b933 ss0 .unset .unset .unset .unset) [(.int 1), (.ref b1181), (.ref b1181)])) (fun _ kz => XS.iconst X1184.here hx rfl (hb hby at_94) kz) ?_
   refine own_s (g' := (mkF m 96 (own_L0_4 p0_0 p0_1 p0_2 b933 ss0 .unset .unset .unset .unset) [(.ref b933), (.int 1), (.ref b1181), (.ref b1181)])) (fun _ kz => XS.aloadN X1184.here hx rfl (hb hby at_95) rfl rfl kz) ?_
   refine own_s (g' := (mkF m 97 (own_L0_4 p0_0 p0_1 p0_2 b933 ss0 .unset .unset .unset .unset) [(.int 1), (.ref b933), (.int 1), (.ref b1181), (.ref b1181)])) (fun _ kz => XS.iconst X1184.here hx rfl (hb hby at_96) kz) ?_
   have ne1186 : b933 ≠ b1181 := Nat.ne_of_lt (Nat.lt_of_lt_of_le (((((Ex933.wr W934).wr W936).wr W938).wr W940).wr W1176).lt (Nat.le_of_eq ga1181.symm))
   have f1187 := (f1182.other W1184 ne1186)
   obtain ⟨cl1188, Ar1188, -, S1188, -, H1188, -⟩ := id f1187
   have in1188 := inb_of S1188 (j := (1 : Int32)) ⟨by decide, by decide⟩
   refine own_s (g' := (mkF m 98 (own_L0_4 p0_0 p0_1 p0_2 b933 ss0 .unset .unset .unset .unset) [(.int cc1), (.int 1), (.ref b1181), (.ref b1181)])) (X1184.iaload hx (j := (1 : Int32)) (v := (.int cc1)) (by rw [e1184]; exact Ar1188.1) (State.isArrayOf_alike hZ.alike Ar1188.2.1) Ar1188.2.2 in1188 (Has.at H1188 in1188 rfl) (g := (mkF m 97 (own_L0_4 p0_0 p0_1 p0_2 b933 ss0 .unset .unset .unset .unset) [(.int 1), (.ref b933), (.int 1), (.ref b1181), (.ref b1181)])) rfl rfl (hb hby at_97)) ?_
   obtain ⟨cl1189, Ar1189, q1189, S1189, M1189, H1189, G1189⟩ := id f1185
   obtain ⟨T1189, h1189, X1189, e1189, W1189, st1189⟩ := stI X1184 hx hZ e1184 Ar1189 (j := (1 : Int32)) (inb_of S1189 ⟨by decide, by decide⟩) (g := (mkF m 98 (own_L0_4 p0_0 p0_1 p0_2 b933 ss0 .unset .unset .unset .unset) [(.int cc1), (.int 1), (.ref b1181), (.ref b1181)])) rfl rfl (hb hby at_98)
   have f1190 : Arv Z h1189 b1181 k1181 .int (4 : Int32) [(.int cc0), (.int cc1), (.int 0), (.int 0)] (.int 0) := Arv.set Ar1189 q1189 S1189 M1189 H1189 G1189 rfl W1189 1 rfl (Nat.le_of_ble_eq_true rfl)
   have K1189 := K1184.wr W1189 (Or.inr sz_b1181)
   have N1189 := Fr.snoc X1189 N1184 g_b1181
   refine own_s (g' := (mkF m 99 (own_L0_4 p0_0 p0_1 p0_2 b933 ss0 .unset .unset .unset .unset) [(.ref b1181)])) st1189 ?_
   refine own_s (g' := (mkF m 100 (own_L0_4 p0_0 p0_1 p0_2 b933 ss0 .unset .unset .unset .unset) [(.ref b1181), (.ref b1181)])) (fun _ kz => XS.dup X1189.here hx rfl (hb hby at_99) rfl rfl kz) ?_
   refine own_s (g' := (mkF m 101 (own_L0_4 p0_0 p0_1 p0_2 b933 ss0 .unset .unset .unset .unset) [(.int 2), (.ref b1181), (.ref b1181)])) (fun _ kz => XS.iconst X1189.here hx rfl (hb hby at_100) kz) ?_
   refine own_s (g' := (mkF m 102 (own_L0_4 p0_0 p0_1 p0_2 b933 ss0 .unset .unset .unset .unset) [(.ref b933), (.int 2), (.ref b1181), (.ref b1181)])) (fun _ kz => XS.aloadN X1189.here hx rfl (hb hby at_101) rfl rfl kz) ?_
   refine own_s (g' := (mkF m 103 (own_L0_4 p0_0 p0_1 p0_2 b933 ss0 .unset .unset .unset .unset) [(.int 2), (.ref b933), (.int 2), (.ref b1181), (.ref b1181)])) (fun _ kz => XS.iconst X1189.here hx rfl (hb hby at_102) kz) ?_
   have f1191 := (f1187.other W1189 ne1186)
   obtain ⟨cl1192, Ar1192, -, S1192, -, H1192, -⟩ := id f1191
   have in1192 := inb_of S1192 (j := (2 : Int32)) ⟨by decide, by decide⟩
   refine own_s (g' := (mkF m 104 (own_L0_4 p0_0 p0_1 p0_2 b933 ss0 .unset .unset .unset .unset) [(.int (cc2 + (1 : Int32))), (.int 2), (.ref b1181), (.ref b1181)])) (X1189.iaload hx (j := (2 : Int32)) (v := (.int (cc2 + (1 : Int32)))) (by rw [e1189]; exact Ar1192.1) (State.isArrayOf_alike hZ.alike Ar1192.2.1) Ar1192.2.2 in1192 (Has.at H1192 in1192 rfl) (g := (mkF m 103 (own_L0_4 p0_0 p0_1 p0_2 b933 ss0 .unset .unset .unset .unset) [(.int 2), (.ref b933), (.int 2), (.ref b1181), (.ref b1181)])) rfl rfl (hb hby at_103)) ?_
   obtain ⟨cl1193, Ar1193, q1193, S1193, M1193, H1193, G1193⟩ := id f1190
   obtain ⟨T1193, h1193, X1193, e1193, W1193, st1193⟩ := stI X1189 hx hZ e1189 Ar1193 (j := (2 : Int32)) (inb_of S1193 ⟨by decide, by decide⟩) (g := (mkF m 104 (own_L0_4 p0_0 p0_1 p0_2 b933 ss0 .unset .unset .unset .unset) [(.int (cc2 + (1 : Int32))), (.int 2), (.ref b1181), (.ref b1181)])) rfl rfl (hb hby at_104)
   have f1194 : Arv Z h1193 b1181 k1181 .int (4 : Int32) [(.int cc0), (.int cc1), (.int (cc2 + (1 : Int32))), (.int 0)] (.int 0) := Arv.set Ar1193 q1193 S1193 M1193 H1193 G1193 rfl W1193 2 rfl (Nat.le_of_ble_eq_true rfl)
   have K1193 := K1189.wr W1193 (Or.inr sz_b1181)
   have N1193 := Fr.snoc X1193 N1189 g_b1181
   refine own_s (g' := (mkF m 105 (own_L0_4 p0_0 p0_1 p0_2 b933 ss0 .unset .unset .unset .unset) [(.ref b1181)])) st1193 ?_
   refine own_s (g' := (mkF m 106 (own_L0_4 p0_0 p0_1 p0_2 b933 ss0 .unset .unset .unset .unset) [(.ref b1181), (.ref b1181)])) (fun _ kz => XS.dup X1193.here hx rfl (hb hby at_105) rfl rfl kz) ?_
   refine own_s (g' := (mkF m 107 (own_L0_4 p0_0 p0_1 p0_2 b933 ss0 .unset .unset .unset .unset) [(.int 3), (.ref b1181), (.ref b1181)])) (fun _ kz => XS.iconst X1193.here hx rfl (hb hby at_106) kz) ?_
   refine own_s (g' := (mkF m 108 (own_L0_4 p0_0 p0_1 p0_2 b933 ss0 .unset .unset .unset .unset) [(.ref b933), (.int 3), (.ref b1181), (.ref b1181)])) (fun _ kz => XS.aloadN X1193.here hx rfl (hb hby at_107) rfl rfl kz) ?_
   refine own_s (g' := (mkF m 109 (own_L0_4 p0_0 p0_1 p0_2 b933 ss0 .unset .unset .unset .unset) [(.int 3), (.ref b933), (.int 3), (.ref b1181), (.ref b1181)])) (fun _ kz => XS.iconst X1193.here hx rfl (hb hby at_108) kz) ?_
   have f1195 := (f1191.other W1193 ne1186)
   obtain ⟨cl1196, Ar1196, -, S1196, -, H1196, -⟩ := id f1195
   have in1196 := inb_of S1196 (j := (3 : Int32)) ⟨by decide, by decide⟩
   refine own_s (g' := (mkF m 110 (own_L0_4 p0_0 p0_1 p0_2 b933 ss0 .unset .unset .unset .unset) [(.int cc3), (.int 3), (.ref b1181), (.ref b1181)])) (X1193.iaload hx (j := (3 : Int32)) (v := (.int cc3)) (by rw [e1193]; exact Ar1196.1) (State.isArrayOf_alike hZ.alike Ar1196.2.1) Ar1196.2.2 in1196 (Has.at H1196 in1196 rfl) (g := (mkF m 109 (own_L0_4 p0_0 p0_1 p0_2 b933 ss0 .unset .unset .unset .unset) [(.int 3), (.ref b933), (.int 3), (.ref b1181), (.ref b1181)])) rfl rfl (hb hby at_109)) ?_
   obtain ⟨cl1197, Ar1197, q1197, S1197, M1197, H1197, G1197⟩ := id f1194
   obtain ⟨T1197, h1197, X1197, e1197, W1197, st1197⟩ := stI X1193 hx hZ e1193 Ar1197 (j := (3 : Int32)) (inb_of S1197 ⟨by decide, by decide⟩) (g := (mkF m 110 (own_L0_4 p0_0 p0_1 p0_2 b933 ss0 .unset .unset .unset .unset) [(.int cc3), (.int 3), (.ref b1181), (.ref b1181)])) rfl rfl (hb hby at_110)
   have f1198 : Arv Z h1197 b1181 k1181 .int (4 : Int32) [(.int cc0), (.int cc1), (.int (cc2 + (1 : Int32))), (.int cc3)] (.int 0) := Arv.set Ar1197 q1197 S1197 M1197 H1197 G1197 rfl W1197 3 rfl (Nat.le_of_ble_eq_true rfl)
   have K1197 := K1193.wr W1197 (Or.inr sz_b1181)
   have N1197 := Fr.snoc X1197 N1193 g_b1181
   refine own_s (g' := (mkF m 111 (own_L0_4 p0_0 p0_1 p0_2 b933 ss0 .unset .unset .unset .unset) [(.ref b1181)])) st1197 ?_
   refine own_s (g' := (mkF m 113 (own_L0_4 p0_0 p0_1 p0_2 b933 ss0 (.val (.ref b1181)) .unset .unset .unset) [])) (fun _ kz => XS.astore X1197.here hx rfl (hb hby at_111) rfl rfl (l' := (own_L0_4 p0_0 p0_1 p0_2 b933 ss0 (.val (.ref b1181)) .unset .unset .unset)) rfl kz) ?_
   obtain ⟨T1199, h1199, X1199, e1199, E1199, A1199, D1199, -, st1199⟩ := newO X1197 hx hZ hown ww4 ww5 ww6 e1197 (g := (mkF m 113 (own_L0_4 p0_0 p0_1 p0_2 b933 ss0 (.val (.ref b1181)) .unset .unset .unset) [])) rfl (hb hby at_113) (by decide) (by decide)
   obtain ⟨b1199, ga1199⟩ : ∃ z, z = h1197.size := ⟨_, rfl⟩
   rw [← ga1199] at A1199 D1199 st1199
   have g_b1199 := Nat.le_trans (Nat.le_trans Z0 K1197.1) (Nat.le_of_eq ga1199.symm)
   have sz_b1199 := Nat.le_trans K1197.1 (Nat.le_of_eq ga1199.symm)
   have f1199_countOf : Fld Z h1199 b1199 "gallai/service/ResidualDegrees" "countOf" "[I" .null := D1199 (Or.inr ww23) (ty := (.array .int)) (by decide +kernel)
   have f1199_largest : Fld Z h1199 b1199 "gallai/service/ResidualDegrees" "largest" "I" (.int 0) := D1199 (Or.inl ww29) (ty := .int) (by decide +kernel)
   have f1199_atLeast : Fld Z h1199 b1199 "gallai/service/ResidualDegrees" "atLeast" "[I" .null := D1199 (Or.inr ww31) (ty := (.array .int)) (by decide +kernel)
   have f1199_sum : Fld Z h1199 b1199 "gallai/service/ResidualDegrees" "sum" "J" (.long 0) := D1199 (Or.inl ww33) (ty := .long) (by decide +kernel)
   have f1199_partnersOf : Fld Z h1199 b1199 "gallai/service/ResidualDegrees" "partnersOf" "[I" .null := D1199 (Or.inr ww35) (ty := (.array .int)) (by decide +kernel)
   have f1199_saved : Fld Z h1199 b1199 "gallai/service/ResidualDegrees" "saved" "[I" .null := D1199 (Or.inr ww37) (ty := (.array .int)) (by decide +kernel)
   have f1199_slack : Fld Z h1199 b1199 "gallai/service/ResidualDegrees" "slack" "[J" .null := D1199 (Or.inr ww47) (ty := (.array .long)) (by decide +kernel)
   have f1199_nextTight : Fld Z h1199 b1199 "gallai/service/ResidualDegrees" "nextTight" "[I" .null := D1199 (Or.inr ww49) (ty := (.array .int)) (by decide +kernel)
   have K1199 := K1197.ext E1199
   refine own_s (g' := (mkF m 116 (own_L0_4 p0_0 p0_1 p0_2 b933 ss0 (.val (.ref b1181)) .unset .unset .unset) [(.ref b1199)])) st1199 ?_
   refine own_s (g' := (mkF m 117 (own_L0_4 p0_0 p0_1 p0_2 b933 ss0 (.val (.ref b1181)) .unset .unset .unset) [(.ref b1199), (.ref b1199)])) (fun _ kz => XS.dup X1199.here hx rfl (hb hby at_116) rfl rfl kz) ?_
   refine own_s (g' := (mkF m 119 (own_L0_4 p0_0 p0_1 p0_2 b933 ss0 (.val (.ref b1181)) .unset .unset .unset) [(.ref b1181), (.ref b1199), (.ref b1199)])) (fun _ kz => XS.aload X1199.here hx rfl (hb hby at_117) rfl rfl kz) ?_
   refine own_s (g' := (mkF m 121 (own_L0_4 p0_0 p0_1 p0_2 b933 ss0 (.val (.ref b1181)) .unset .unset .unset) [(.long ss0), (.ref b1181), (.ref b1199), (.ref b1199)])) (fun _ kz => XS.lload X1199.here hx rfl (hb hby at_119) rfl kz) ?_
   have hi1200 := own_inc (c := cc2) hb2.1 hb2.2
   have hi1201 := own_inc (c := cc1) hb1.1 hb1.2
   by_cases c1202 : cc3 = (0 : Int32)
   ·skip
    have f1204 := (f1198.ext E1199)
    have f1205 := (((((Ex1181.wr W1184).wr W1189).wr W1193).wr W1197).ext E1199)
    obtain ⟨_, _, ⟨T1203, L1203, k1203, n1203⟩, -, X1203, ⟨Lc1203, hQ1203, l1203, y1203, z1203⟩, st1203⟩ := X1199.specialBack hx (y := (⟨"gallai/service/ResidualDegrees", "<init>", "([IJ)V"⟩ : MethodName)) rfl hown (mvT hZ ww7) (mvT hZ ww8) (mvT hZ ww9) (by decide) (backOf (W := 1) (rm1L2 l Z a0 hw [] b1199 b1181 ss0 (0 : Int32) (0 : Int64) k1181 cc0 cc1 (cc2 + (1 : Int32)) cc3 h1199 n0 (Nat.le_trans Z0 K1199.1) f1199_countOf f1199_largest f1199_atLeast f1199_sum f1199_partnersOf f1199_saved f1199_slack f1199_nextTight f1205 A1199 f1204 g_b1199 c1202 (hi1200.1 : ¬ (cc2 + (1 : Int32)) = (0 : Int32))) hZ ww9 ww6 (by decide) (by decide)) (g := (mkF m 121 (own_L0_4 p0_0 p0_1 p0_2 b933 ss0 (.val (.ref b1181)) .unset .unset .unset) [(.long ss0), (.ref b1181), (.ref b1199), (.ref b1199)])) rfl (by rw [hml]; rfl) (Steps.refl _) (a := b1199) (argsL := [(.ref b1181), (.long ss0)]) (rest := [(.ref b1199)]) (lenOf pd___IJ_V rfl) rfl (by show 2 * 0 + _ ≤ _; exact Nat.le_of_eq rfl) (hb hby at_121) (fun _ _ => ⟨rfl, e1199, (by decide : 3 + 6 ≤ _), (by decide : 22 + 21 ≤ _)⟩)
    dsimp only [Pt.U, Pt.locs, Pt.cells, Pt.slots] at X1203 l1203 y1203 z1203 st1203 hQ1203
    subst l1203 y1203 z1203
    obtain ⟨bf0_1203, bf1_1203, bf2_1203, bf3_1203, bf4_1203, bf5_1203, kf0_1203, kf1_1203, kf2_1203, kf3_1203, kf4_1203, kf5_1203, hs_bf0_1203, hs_bf1_1203, hs_bf2_1203, hs_bf3_1203, hs_bf4_1203, hs_bf5_1203, ne_bf0_1203_bf1_1203, ne_bf0_1203_bf2_1203, ne_bf0_1203_bf3_1203, ne_bf0_1203_bf4_1203, ne_bf0_1203_bf5_1203, ne_bf1_1203_bf2_1203, ne_bf1_1203_bf3_1203, ne_bf1_1203_bf4_1203, ne_bf1_1203_bf5_1203, ne_bf2_1203_bf3_1203, ne_bf2_1203_bf4_1203, ne_bf2_1203_bf5_1203, ne_bf3_1203_bf4_1203, ne_bf3_1203_bf5_1203, ne_bf4_1203_bf5_1203, rfl, N1203q, K1203q, f1206, f1207, f1208, f1209, f1210, f1211, f1212, f1213, f1214, f1215, f1216, f1217, f1218, f1219, f1220⟩ := hQ1203
    have g_bf0_1203 := Nat.le_trans (Nat.le_trans Z0 K1199.1) hs_bf0_1203
    have sz_bf0_1203 := Nat.le_trans K1199.1 hs_bf0_1203
    have g_bf1_1203 := Nat.le_trans (Nat.le_trans Z0 K1199.1) hs_bf1_1203
    have sz_bf1_1203 := Nat.le_trans K1199.1 hs_bf1_1203
    have g_bf2_1203 := Nat.le_trans (Nat.le_trans Z0 K1199.1) hs_bf2_1203
    have sz_bf2_1203 := Nat.le_trans K1199.1 hs_bf2_1203
    have g_bf3_1203 := Nat.le_trans (Nat.le_trans Z0 K1199.1) hs_bf3_1203
    have sz_bf3_1203 := Nat.le_trans K1199.1 hs_bf3_1203
    have g_bf4_1203 := Nat.le_trans (Nat.le_trans Z0 K1199.1) hs_bf4_1203
    have sz_bf4_1203 := Nat.le_trans K1199.1 hs_bf4_1203
    have g_bf5_1203 := Nat.le_trans (Nat.le_trans Z0 K1199.1) hs_bf5_1203
    have sz_bf5_1203 := Nat.le_trans K1199.1 hs_bf5_1203
    have K1203 := K1199.trans K1203q (allS (Or.inr sz_b1199) all0)
    have N1203 := Fr.app N1197 N1203q
    refine own_trans (g' := (mkF m 124 (own_L0_4 p0_0 p0_1 p0_2 b933 ss0 (.val (.ref b1181)) .unset .unset .unset) [(.ref b1199)])) st1203 ?_
    refine own_s (g' := (mkF m 126 (own_L0_4 p0_0 p0_1 p0_2 b933 ss0 (.val (.ref b1181)) (.val (.ref b1199)) .unset .unset) [])) (fun _ kz => XS.astore X1203.here hx rfl (hb hby at_124) rfl rfl (l' := (own_L0_4 p0_0 p0_1 p0_2 b933 ss0 (.val (.ref b1181)) (.val (.ref b1199)) .unset .unset)) rfl kz) ?_
    show own_G p e below s _ _ _ T1203 (mkF m _ (own_L0_5 p0_0 p0_1 p0_2 b933 b1181 b1199 ss0 .unset .unset) _)
    refine own_s (g' := (mkF m 128 (own_L0_5 p0_0 p0_1 p0_2 b933 b1181 b1199 ss0 .unset .unset) [(.ref b1199)])) (fun _ kz => XS.aload X1203.here hx rfl (hb hby at_126) rfl rfl kz) ?_
    refine own_s (g' := (mkF m 130 (own_L0_5 p0_0 p0_1 p0_2 b933 b1181 b1199 ss0 .unset .unset) [(.int 2), (.ref b1199)])) (fun _ kz => XS.iload X1203.here hx rfl (hb hby at_128) rfl kz) ?_
    have f1221 : Arv Z T1203.heap bf1_1203 kf1_1203 .int (4 : Int32) [(.int 0), (.int (((0 : Int32) + (cc2 + (1 : Int32))) + cc1)), (.int ((0 : Int32) + (cc2 + (1 : Int32)))), (.int 0), (.int 0)] (.int 0) := f1207.pad (pad_rep [(.int 0), (.int (((0 : Int32) + (cc2 + (1 : Int32))) + cc1)), (.int ((0 : Int32) + (cc2 + (1 : Int32)))), (.int 0)] (.int 0) 1)
    by_cases c1222 : cc2 = (0 : Int32)
    ·skip
     have ne1224 : b1199 ≠ bf0_1203 := Nat.ne_of_lt (Nat.lt_of_lt_of_le A1199.lt hs_bf0_1203)
     have ne1225 : b1199 ≠ bf1_1203 := Nat.ne_of_lt (Nat.lt_of_lt_of_le A1199.lt hs_bf1_1203)
     obtain ⟨cq1223, kq1223, q1223a, q1223b, q1223c⟩ := isOf hZ rfl f1212
     obtain ⟨_, _, ⟨T1223, L1223, k1223, n1223⟩, -, X1223, ⟨Lc1223, hQ1223, l1223, y1223, z1223⟩, st1223⟩ := X1203.virtualBack hx (y := (⟨"gallai/service/ResidualDegrees", "lower", "(I)V"⟩ : MethodName)) (z := (⟨"gallai/service/ResidualDegrees", "lower", "(I)V"⟩ : MethodName)) hown (mvT hZ ww50) (mvT hZ ww51) (notFace_of_selects (args := #[]) (mvT hZ ww53)) (mvT hZ ww53) (mvT hZ ww52) (by decide) (backOf (W := 0) (rm6L2d2 l Z a0 hw [] b1199 bf0_1203 bf1_1203 ss0 bf2_1203 bf3_1203 bf4_1203 bf5_1203 kf0_1203 cc0 cc1 (cc2 + (1 : Int32)) cc3 kf1_1203 (4 : Int32) (0 : Int32) (((0 : Int32) + (cc2 + (1 : Int32))) + cc1) ((0 : Int32) + (cc2 + (1 : Int32))) (0 : Int32) (0 : Int32) T1203.heap n0 (Nat.le_trans Z0 K1203.1) f1213 f1215 f1216 f1214 f1217 f1218 f1219 f1220 f1212 f1206 f1221 g_bf0_1203 g_bf1_1203 g_b1199 ne1224 (Ne.symm ne_bf0_1203_bf1_1203) ne1225 (hi1201.1 : ¬ (cc1 + (1 : Int32)) = (0 : Int32)) (by decide)) hZ ww54 ww6 (by decide) (by decide)) q1223a q1223c (g := (mkF m 130 (own_L0_5 p0_0 p0_1 p0_2 b933 b1181 b1199 ss0 .unset .unset) [(.int 2), (.ref b1199)])) rfl (by rw [hml]; rfl) (Steps.refl _) (argsL := [(.int 2)]) (rest := []) (lenOf pd__I_V rfl) rfl (by show 2 * 0 + _ ≤ _; exact Nat.le_of_eq rfl) (hb hby at_130) (fun _ _ => ⟨rfl, rfl, (by decide : 9 + 0 ≤ _), (by decide : 43 + 0 ≤ _)⟩)
     dsimp only [Pt.U, Pt.locs, Pt.cells, Pt.slots] at X1223 l1223 y1223 z1223 st1223 hQ1223
     subst l1223 y1223 z1223
     obtain ⟨rfl, N1223q, K1223q, f1226, f1227, f1228, f1229, f1230, f1231, f1232, f1233, f1234, f1235, f1236⟩ := hQ1223
     have f1237 : Fld Z T1223.heap b1199 "gallai/service/ResidualDegrees" "largest" "I" (.int 1) := (show (w6L2d2_largest (cc2 + (1 : Int32))) = (1 : Int32) from (if_pos (((own_pm cc2).trans c1222) : ((cc2 + (1 : Int32)) - (1 : Int32)) = (0 : Int32)))) ▸ f1236
     have K1223 := K1203.trans K1223q (allS (Or.inr sz_bf0_1203) (allS (Or.inr sz_bf1_1203) (allS (Or.inr sz_b1199) all0)))
     have N1223 := Fr.app N1203 N1223q
     refine own_trans (g' := (mkF m 133 (own_L0_5 p0_0 p0_1 p0_2 b933 b1181 b1199 ss0 .unset .unset) [])) st1223 ?_
     refine own_s (g' := (mkF m 134 (own_L0_5 p0_0 p0_1 p0_2 b933 b1181 b1199 ss0 .unset .unset) [(.ref b933)])) (fun _ kz => XS.aloadN X1223.here hx rfl (hb hby at_133) rfl rfl kz) ?_
     refine own_s (g' := (mkF m 136 (own_L0_5 p0_0 p0_1 p0_2 b933 b1181 b1199 ss0 .unset .unset) [(.int 2), (.ref b933)])) (fun _ kz => XS.iload X1223.here hx rfl (hb hby at_134) rfl kz) ?_
     refine own_s (g' := (mkF m 137 (own_L0_5 p0_0 p0_1 p0_2 b933 b1181 b1199 ss0 .unset .unset) [(.ref b933), (.int 2), (.ref b933)])) (fun _ kz => XS.aloadN X1223.here hx rfl (hb hby at_136) rfl rfl kz) ?_
     refine own_s (g' := (mkF m 139 (own_L0_5 p0_0 p0_1 p0_2 b933 b1181 b1199 ss0 .unset .unset) [(.int 2), (.ref b933), (.int 2), (.ref b933)])) (fun _ kz => XS.iload X1223.here hx rfl (hb hby at_137) rfl kz) ?_
     have ne1238 : b933 ≠ b1199 := Nat.ne_of_lt (Nat.lt_of_lt_of_le ((((((((((Ex933.wr W934).wr W936).wr W938).wr W940).wr W1176).ext E1181).wr W1184).wr W1189).wr W1193).wr W1197).lt (Nat.le_of_eq ga1199.symm))
     have ne1239 : b933 ≠ bf0_1203 := Nat.ne_of_lt (Nat.lt_of_lt_of_le (((((((((((Ex933.wr W934).wr W936).wr W938).wr W940).wr W1176).ext E1181).wr W1184).wr W1189).wr W1193).wr W1197).ext E1199).lt hs_bf0_1203)
     have ne1240 : b933 ≠ bf1_1203 := Nat.ne_of_lt (Nat.lt_of_lt_of_le (((((((((((Ex933.wr W934).wr W936).wr W938).wr W940).wr W1176).ext E1181).wr W1184).wr W1189).wr W1193).wr W1197).ext E1199).lt hs_bf1_1203)
     have f1241 := ((((f1195.other W1197 ne1186).ext E1199).keep K1203q (ninS ne1238 nin0)).keep K1223q (ninS ne1239 (ninS ne1240 (ninS ne1238 nin0))))
     obtain ⟨cl1242, Ar1242, -, S1242, -, H1242, -⟩ := id f1241
     have in1242 := inb_of S1242 (j := (2 : Int32)) ⟨by decide, by decide⟩
     refine own_s (g' := (mkF m 140 (own_L0_5 p0_0 p0_1 p0_2 b933 b1181 b1199 ss0 .unset .unset) [(.int (cc2 + (1 : Int32))), (.int 2), (.ref b933)])) (X1223.iaload hx (j := (2 : Int32)) (v := (.int (cc2 + (1 : Int32)))) Ar1242.1 (State.isArrayOf_alike hZ.alike Ar1242.2.1) Ar1242.2.2 in1242 (Has.at H1242 in1242 rfl) (g := (mkF m 139 (own_L0_5 p0_0 p0_1 p0_2 b933 b1181 b1199 ss0 .unset .unset) [(.int 2), (.ref b933), (.int 2), (.ref b933)])) rfl rfl (hb hby at_139)) ?_
     refine own_s (g' := (mkF m 141 (own_L0_5 p0_0 p0_1 p0_2 b933 b1181 b1199 ss0 .unset .unset) [(.int 1), (.int (cc2 + (1 : Int32))), (.int 2), (.ref b933)])) (fun _ kz => XS.iconst X1223.here hx rfl (hb hby at_140) kz) ?_
     refine own_s (g' := (mkF m 142 (own_L0_5 p0_0 p0_1 p0_2 b933 b1181 b1199 ss0 .unset .unset) [(.int ((cc2 + (1 : Int32)) - (1 : Int32))), (.int 2), (.ref b933)])) (fun _ kz => XS.isub X1223.here hx rfl (hb hby at_141) rfl kz) ?_
     obtain ⟨cl1243, Ar1243, q1243, S1243, M1243, H1243, G1243⟩ := id f1241
     obtain ⟨T1243, h1243, X1243, e1243, W1243, st1243⟩ := stI X1223 hx hZ rfl Ar1243 (j := (2 : Int32)) (inb_of S1243 ⟨by decide, by decide⟩) (g := (mkF m 142 (own_L0_5 p0_0 p0_1 p0_2 b933 b1181 b1199 ss0 .unset .unset) [(.int ((cc2 + (1 : Int32)) - (1 : Int32))), (.int 2), (.ref b933)])) rfl rfl (hb hby at_142)
     have f1244 : Arv Z h1243 b933 k933 .int (4 : Int32) [(.int cc0), (.int cc1), (.int ((cc2 + (1 : Int32)) - (1 : Int32))), (.int cc3)] (.int 0) := Arv.set Ar1243 q1243 S1243 M1243 H1243 G1243 rfl W1243 2 rfl (Nat.le_of_ble_eq_true rfl)
     have K1243 := K1223.wr W1243 (Or.inr sz_b933)
     have N1243 := Fr.snoc X1243 N1223 g_b933
     refine own_s (g' := (mkF m 143 (own_L0_5 p0_0 p0_1 p0_2 b933 b1181 b1199 ss0 .unset .unset) [])) st1243 ?_
     refine own_s (g' := (mkF m 144 (own_L0_5 p0_0 p0_1 p0_2 b933 b1181 b1199 ss0 .unset .unset) [(.ref b933)])) (fun _ kz => XS.aloadN X1243.here hx rfl (hb hby at_143) rfl rfl kz) ?_
     refine own_s (g' := (mkF m 146 (own_L0_5 p0_0 p0_1 p0_2 b933 b1181 b1199 ss0 .unset .unset) [(.int 2), (.ref b933)])) (fun _ kz => XS.iload X1243.here hx rfl (hb hby at_144) rfl kz) ?_
     refine own_s (g' := (mkF m 147 (own_L0_5 p0_0 p0_1 p0_2 b933 b1181 b1199 ss0 .unset .unset) [(.int 1), (.int 2), (.ref b933)])) (fun _ kz => XS.iconst X1243.here hx rfl (hb hby at_146) kz) ?_
     refine own_s (g' := (mkF m 148 (own_L0_5 p0_0 p0_1 p0_2 b933 b1181 b1199 ss0 .unset .unset) [(.int ((2 : Int32) - (1 : Int32))), (.ref b933)])) (fun _ kz => XS.isub X1243.here hx rfl (hb hby at_147) rfl kz) ?_
     rw [show ((2 : Int32) - (1 : Int32)) = (1 : Int32) from by decide]
     refine own_s (g' := (mkF m 149 (own_L0_5 p0_0 p0_1 p0_2 b933 b1181 b1199 ss0 .unset .unset) [(.ref b933), (.int 1), (.ref b933)])) (fun _ kz => XS.aloadN X1243.here hx rfl (hb hby at_148) rfl rfl kz) ?_
     refine own_s (g' := (mkF m 151 (own_L0_5 p0_0 p0_1 p0_2 b933 b1181 b1199 ss0 .unset .unset) [(.int 2), (.ref b933), (.int 1), (.ref b933)])) (fun _ kz => XS.iload X1243.here hx rfl (hb hby at_149) rfl kz) ?_
     refine own_s (g' := (mkF m 152 (own_L0_5 p0_0 p0_1 p0_2 b933 b1181 b1199 ss0 .unset .unset) [(.int 1), (.int 2), (.ref b933), (.int 1), (.ref b933)])) (fun _ kz => XS.iconst X1243.here hx rfl (hb hby at_151) kz) ?_
     refine own_s (g' := (mkF m 153 (own_L0_5 p0_0 p0_1 p0_2 b933 b1181 b1199 ss0 .unset .unset) [(.int ((2 : Int32) - (1 : Int32))), (.ref b933), (.int 1), (.ref b933)])) (fun _ kz => XS.isub X1243.here hx rfl (hb hby at_152) rfl kz) ?_
     rw [show ((2 : Int32) - (1 : Int32)) = (1 : Int32) from by decide]
     obtain ⟨cl1245, Ar1245, -, S1245, -, H1245, -⟩ := id f1244
     have in1245 := inb_of S1245 (j := (1 : Int32)) ⟨by decide, by decide⟩
     refine own_s (g' := (mkF m 154 (own_L0_5 p0_0 p0_1 p0_2 b933 b1181 b1199 ss0 .unset .unset) [(.int cc1), (.int 1), (.ref b933)])) (X1243.iaload hx (j := (1 : Int32)) (v := (.int cc1)) (by rw [e1243]; exact Ar1245.1) (State.isArrayOf_alike hZ.alike Ar1245.2.1) Ar1245.2.2 in1245 (Has.at H1245 in1245 rfl) (g := (mkF m 153 (own_L0_5 p0_0 p0_1 p0_2 b933 b1181 b1199 ss0 .unset .unset) [(.int 1), (.ref b933), (.int 1), (.ref b933)])) rfl rfl (hb hby at_153)) ?_
     refine own_s (g' := (mkF m 155 (own_L0_5 p0_0 p0_1 p0_2 b933 b1181 b1199 ss0 .unset .unset) [(.int 1), (.int cc1), (.int 1), (.ref b933)])) (fun _ kz => XS.iconst X1243.here hx rfl (hb hby at_154) kz) ?_
     refine own_s (g' := (mkF m 156 (own_L0_5 p0_0 p0_1 p0_2 b933 b1181 b1199 ss0 .unset .unset) [(.int (cc1 + (1 : Int32))), (.int 1), (.ref b933)])) (fun _ kz => XS.iadd X1243.here hx rfl (hb hby at_155) rfl kz) ?_
     obtain ⟨cl1246, Ar1246, q1246, S1246, M1246, H1246, G1246⟩ := id f1244
     obtain ⟨T1246, h1246, X1246, e1246, W1246, st1246⟩ := stI X1243 hx hZ e1243 Ar1246 (j := (1 : Int32)) (inb_of S1246 ⟨by decide, by decide⟩) (g := (mkF m 156 (own_L0_5 p0_0 p0_1 p0_2 b933 b1181 b1199 ss0 .unset .unset) [(.int (cc1 + (1 : Int32))), (.int 1), (.ref b933)])) rfl rfl (hb hby at_156)
     have f1247 : Arv Z h1246 b933 k933 .int (4 : Int32) [(.int cc0), (.int (cc1 + (1 : Int32))), (.int ((cc2 + (1 : Int32)) - (1 : Int32))), (.int cc3)] (.int 0) := Arv.set Ar1246 q1246 S1246 M1246 H1246 G1246 rfl W1246 1 rfl (Nat.le_of_ble_eq_true rfl)
     have K1246 := K1243.wr W1246 (Or.inr sz_b933)
     have N1246 := Fr.snoc X1246 N1243 g_b933
     refine own_s (g' := (mkF m 157 (own_L0_5 p0_0 p0_1 p0_2 b933 b1181 b1199 ss0 .unset .unset) [])) st1246 ?_
     have f1248 := ((f1226.other W1243 (Ne.symm ne1239)).other W1246 (Ne.symm ne1239))
     rw [own_pm cc2] at f1248
     rw [own_pm cc2] at f1247
     refine own_s (g' := (mkF m 159 (own_L0_5 p0_0 p0_1 p0_2 b933 b1181 b1199 ss0 .unset .unset) [(.ref b1199)])) (fun _ kz => XS.aload X1246.here hx rfl (hb hby at_157) rfl rfl kz) ?_
     have f1250 := ((f1235.other W1243 (Or.inl (Ne.symm ne1238))).other W1246 (Or.inl (Ne.symm ne1238)))
     have f1251 := ((f1228.wr W1243).wr W1246)
     obtain ⟨cq1249, kq1249, q1249a, q1249b, q1249c⟩ := isOf hZ e1246 f1251
     obtain ⟨_, _, ⟨T1249, L1249, k1249, n1249⟩, -, X1249, ⟨Lc1249, hQ1249, l1249, y1249, z1249⟩, st1249⟩ := X1246.virtualBack hx (y := (⟨"gallai/service/ResidualDegrees", "sum", "()J"⟩ : MethodName)) (z := (⟨"gallai/service/ResidualDegrees", "sum", "()J"⟩ : MethodName)) hown (mvT hZ ww55) (mvT hZ ww56) (notFace_of_selects (args := #[]) (mvT hZ ww58)) (mvT hZ ww58) (mvT hZ ww57) (by decide) (backOf (W := 0) (rm7 l Z a0 hw [] b1199 (ss0 - (1 : Int64)) h1246 n0 (Nat.le_trans Z0 K1246.1) f1250) hZ ww59 ww6 (by decide) (by decide)) q1249a q1249c (g := (mkF m 159 (own_L0_5 p0_0 p0_1 p0_2 b933 b1181 b1199 ss0 .unset .unset) [(.ref b1199)])) rfl (by rw [hml]; rfl) (Steps.refl _) (argsL := []) (rest := []) (lenOf pd___J rfl) rfl (by show 2 * 0 + _ ≤ _; exact Nat.le_of_eq rfl) (hb hby at_159) (fun _ _ => ⟨rfl, e1246, (by decide : 9 + 0 ≤ _), (by decide : 43 + 0 ≤ _)⟩)
     dsimp only [Pt.U, Pt.locs, Pt.cells, Pt.slots] at X1249 l1249 y1249 z1249 st1249 hQ1249
     subst l1249 y1249 z1249
     obtain ⟨rfl, N1249q, eh1249⟩ := hQ1249
     have N1249 := Fr.app N1246 N1249q
     refine own_trans (g' := (mkF m 162 (own_L0_5 p0_0 p0_1 p0_2 b933 b1181 b1199 ss0 .unset .unset) [(.long (ss0 - (1 : Int64)))])) st1249 ?_
     refine own_s (g' := (mkF m 164 (own_L0_5 p0_0 p0_1 p0_2 b933 b1181 b1199 ss0 .unset .unset) [(.long ss0), (.long (ss0 - (1 : Int64)))])) (fun _ kz => XS.lload X1249.here hx rfl (hb hby at_162) rfl kz) ?_
     refine own_s (g' := (mkF m 165 (own_L0_5 p0_0 p0_1 p0_2 b933 b1181 b1199 ss0 .unset .unset) [(.long 1), (.long ss0), (.long (ss0 - (1 : Int64)))])) (fun _ kz => XS.lconst X1249.here hx rfl (hb hby at_164) kz) ?_
     refine own_s (g' := (mkF m 166 (own_L0_5 p0_0 p0_1 p0_2 b933 b1181 b1199 ss0 .unset .unset) [(.long (ss0 - (1 : Int64))), (.long (ss0 - (1 : Int64)))])) (fun _ kz => XS.lsub X1249.here hx rfl (hb hby at_165) rfl kz) ?_
     refine own_s (g' := (mkF m 167 (own_L0_5 p0_0 p0_1 p0_2 b933 b1181 b1199 ss0 .unset .unset) [(.int (lcmpW (ss0 - (1 : Int64)) (ss0 - (1 : Int64))))])) (fun _ kz => XS.lcmp X1249.here hx rfl (hb hby at_166) rfl kz) ?_
     refine own_s (g' := (mkF m 170 (own_L0_5 p0_0 p0_1 p0_2 b933 b1181 b1199 ss0 .unset .unset) [])) (fun _ kz => XS.ifNo X1249.here hx rfl (hb hby at_167) rfl ((if0 _ _).trans (teq ((lw_eq (ss0 - (1 : Int64)) (ss0 - (1 : Int64))).mpr rfl)).2) kz) ?_
     refine own_s (g' := (mkF m 172 (own_L0_5 p0_0 p0_1 p0_2 b933 b1181 b1199 ss0 .unset .unset) [(.ref b1199)])) (fun _ kz => XS.aload X1249.here hx rfl (hb hby at_170) rfl rfl kz) ?_
     have f1253 := ((f1237.other W1243 (Or.inl (Ne.symm ne1238))).other W1246 (Or.inl (Ne.symm ne1238)))
     obtain ⟨cq1252, kq1252, q1252a, q1252b, q1252c⟩ := isOf hZ eh1249 f1251
     obtain ⟨_, _, ⟨T1252, L1252, k1252, n1252⟩, -, X1252, ⟨Lc1252, hQ1252, l1252, y1252, z1252⟩, st1252⟩ := X1249.virtualBack hx (y := (⟨"gallai/service/ResidualDegrees", "largest", "()I"⟩ : MethodName)) (z := (⟨"gallai/service/ResidualDegrees", "largest", "()I"⟩ : MethodName)) hown (mvT hZ ww60) (mvT hZ ww61) (notFace_of_selects (args := #[]) (mvT hZ ww63)) (mvT hZ ww63) (mvT hZ ww62) (by decide) (backOf (W := 0) (rm8 l Z a0 hw [] b1199 (1 : Int32) h1246 n0 (Nat.le_trans Z0 K1246.1) f1253) hZ ww64 ww6 (by decide) (by decide)) q1252a q1252c (g := (mkF m 172 (own_L0_5 p0_0 p0_1 p0_2 b933 b1181 b1199 ss0 .unset .unset) [(.ref b1199)])) rfl (by rw [hml]; rfl) (Steps.refl _) (argsL := []) (rest := []) (lenOf pd___I rfl) rfl (by show 2 * 0 + _ ≤ _; exact Nat.le_of_eq rfl) (hb hby at_172) (fun _ _ => ⟨rfl, eh1249, (by decide : 9 + 0 ≤ _), (by decide : 43 + 0 ≤ _)⟩)
     dsimp only [Pt.U, Pt.locs, Pt.cells, Pt.slots] at X1252 l1252 y1252 z1252 st1252 hQ1252
     subst l1252 y1252 z1252
     obtain ⟨rfl, N1252q, eh1252⟩ := hQ1252
     have N1252 := Fr.app N1249 N1252q
     refine own_trans (g' := (mkF m 175 (own_L0_5 p0_0 p0_1 p0_2 b933 b1181 b1199 ss0 .unset .unset) [(.int 1)])) st1252 ?_
     refine own_s (g' := (mkF m 176 (own_L0_5 p0_0 p0_1 p0_2 b933 b1181 b1199 ss0 .unset .unset) [(.ref b933), (.int 1)])) (fun _ kz => XS.aloadN X1252.here hx rfl (hb hby at_175) rfl rfl kz) ?_
     obtain ⟨_, _, ⟨T1254, L1254, k1254, n1254⟩, -, X1254, ⟨Lc1254, hQ1254, l1254, y1254, z1254⟩, st1254⟩ := Jvm.LawKit.callS X1252 hx (y := (⟨"gallai/service/ResidualDegreesLowerPinLaw", "top", "([I)I"⟩ : MethodName)) hown (mvT hZ ww65) (mvT hZ ww66) (mvT hZ ww67) (mvT hZ ww68) (by decide) (backOf (W := 1) (rm9 l Z a0 hw [] b933 k933 cc0 (cc1 + (1 : Int32)) cc2 cc3 h1246 n0 (Nat.le_trans Z0 K1246.1) f1247) hZ ww68 ww67 (by decide) (by decide)) (g := (mkF m 176 (own_L0_5 p0_0 p0_1 p0_2 b933 b1181 b1199 ss0 .unset .unset) [(.ref b933), (.int 1)])) rfl (by rw [hml]; rfl) (argsL := [(.ref b933)]) (rest := [(.int 1)]) (lenOf pd___I_I rfl) rfl (by show 2 * 0 + _ ≤ _; exact Nat.le_of_eq rfl) (hb hby at_176) (fun _ _ => ⟨rfl, eh1252, (by decide : 9 + 0 ≤ _), (by decide : 43 + 0 ≤ _)⟩)
     dsimp only [Pt.U, Pt.locs, Pt.cells, Pt.slots] at X1254 l1254 y1254 z1254 st1254 hQ1254
     subst l1254 y1254 z1254
     obtain ⟨rfl, N1254q, eh1254⟩ := hQ1254
     have N1254 := Fr.app N1252 N1254q
     refine own_s (g' := (mkF m 179 (own_L0_5 p0_0 p0_1 p0_2 b933 b1181 b1199 ss0 .unset .unset) [(.int (r9 (cc1 + (1 : Int32)) cc2 cc3)), (.int 1)])) st1254 ?_
     rw [show (r9 (cc1 + (1 : Int32)) cc2 cc3) = (1 : Int32) from ((if_neg ((own_eqltI (Eq.symm c1202)) : ¬ (0 : Int32) < cc3)).trans ((if_neg ((own_eqltI (Eq.symm c1222)) : ¬ (0 : Int32) < cc2)).trans (if_pos (hi1201.2.1 : (0 : Int32) < (cc1 + (1 : Int32))))))]
     refine own_s (g' := (mkF m 182 (own_L0_5 p0_0 p0_1 p0_2 b933 b1181 b1199 ss0 .unset .unset) [])) (fun _ kz => XS.icmpNo X1254.here hx rfl (hb hby at_179) rfl (teq ((by decide) : (1 : Int32) = (1 : Int32))).2 kz) ?_
     refine own_s (g' := (mkF m 183 (own_L0_5 p0_0 p0_1 p0_2 b933 b1181 b1199 ss0 .unset .unset) [(.int 1)])) (fun _ kz => XS.iconst X1254.here hx rfl (hb hby at_182) kz) ?_
     refine own_s (g' := (mkF m 187 (own_L0_5 p0_0 p0_1 p0_2 b933 b1181 b1199 ss0 .unset .unset) [(.int 1)])) (fun _ kz => XS.goto X1254.here hx rfl (pc0 := 183) (pc' := 187) rfl (hb hby at_183) (by decide) (by decide) kz) ?_
     refine own_s (g' := (mkF m 189 (own_L0_5 p0_0 p0_1 p0_2 b933 b1181 b1199 ss0 (.val (.int 1)) .unset) [])) (fun _ kz => XS.istore X1254.here hx rfl (hb hby at_187) rfl (l' := (own_L0_5 p0_0 p0_1 p0_2 b933 b1181 b1199 ss0 (.val (.int 1)) .unset)) rfl kz) ?_
     have f1255 := ((f1227.other W1243 (Ne.symm ne1240)).other W1246 (Ne.symm ne1240))
     have f1256 := ((f1229.other W1243 (Or.inl (Ne.symm ne1238))).other W1246 (Or.inl (Ne.symm ne1238)))
     have f1257 := ((f1230.other W1243 (Or.inl (Ne.symm ne1238))).other W1246 (Or.inl (Ne.symm ne1238)))
     have f1258 := ((f1231.other W1243 (Or.inl (Ne.symm ne1238))).other W1246 (Or.inl (Ne.symm ne1238)))
     have f1259 := ((f1232.other W1243 (Or.inl (Ne.symm ne1238))).other W1246 (Or.inl (Ne.symm ne1238)))
     have f1260 := ((f1233.other W1243 (Or.inl (Ne.symm ne1238))).other W1246 (Or.inl (Ne.symm ne1238)))
     have f1261 := ((f1234.other W1243 (Or.inl (Ne.symm ne1238))).other W1246 (Or.inl (Ne.symm ne1238)))
     exact own_cutA1 l Z a0 hw (.val (.int p0_0)) (.val (.int p0_1)) p0_2 b933 (.val (.int 2)) ss0 (.val (.ref b1181)) b1199 bf0_1203 bf1_1203 bf2_1203 bf3_1203 bf4_1203 bf5_1203 k933 cc0 (cc1 + (1 : Int32)) cc2 cc3 kf0_1203 kf1_1203 (4 : Int32) (0 : Int32) (((0 : Int32) + (cc2 + (1 : Int32))) + cc1) (((0 : Int32) + (cc2 + (1 : Int32))) - (1 : Int32)) (0 : Int32) (0 : Int32) (X1254.more (by decide) (by decide)) hx hZ hby hml hown hlk hret h1246 n0 eh1254 (Nat.le_trans Z0 K1246.1) N1254 f1256 f1257 f1250 f1253 f1258 f1259 f1260 f1261 f1251 f1247 f1248 f1255 g_bf0_1203 g_bf1_1203 g_b1199 g_b933 ne1224 (Ne.symm ne_bf0_1203_bf1_1203) ne1225 ne1239 ne1240 ne1238 (hb0.1 : ¬ cc0 < (0 : Int32)) (hi1201.2.2 : ¬ (cc1 + (1 : Int32)) < (0 : Int32)) (hb2.1 : ¬ cc2 < (0 : Int32)) (hb3.1 : ¬ cc3 < (0 : Int32)) (hb0.2 : ¬ (20 : Int32) < cc0) ((own_inc20 hb1.1 hs1) : ¬ (20 : Int32) < (cc1 + (1 : Int32))) (hb2.2 : ¬ (20 : Int32) < cc2) (hb3.2 : ¬ (20 : Int32) < cc3) c1202 c1222 (hi1201.1 : ¬ (cc1 + (1 : Int32)) = (0 : Int32)) (by decide)
    ·skip
     have ne1263 : b1199 ≠ bf0_1203 := Nat.ne_of_lt (Nat.lt_of_lt_of_le A1199.lt hs_bf0_1203)
     have ne1264 : b1199 ≠ bf1_1203 := Nat.ne_of_lt (Nat.lt_of_lt_of_le A1199.lt hs_bf1_1203)
     obtain ⟨cq1262, kq1262, q1262a, q1262b, q1262c⟩ := isOf hZ rfl f1212
     obtain ⟨_, _, ⟨T1262, L1262, k1262, n1262⟩, -, X1262, ⟨Lc1262, hQ1262, l1262, y1262, z1262⟩, st1262⟩ := X1203.virtualBack hx (y := (⟨"gallai/service/ResidualDegrees", "lower", "(I)V"⟩ : MethodName)) (z := (⟨"gallai/service/ResidualDegrees", "lower", "(I)V"⟩ : MethodName)) hown (mvT hZ ww50) (mvT hZ ww51) (notFace_of_selects (args := #[]) (mvT hZ ww53)) (mvT hZ ww53) (mvT hZ ww52) (by decide) (backOf (W := 0) (rm6L2d2 l Z a0 hw [] b1199 bf0_1203 bf1_1203 ss0 bf2_1203 bf3_1203 bf4_1203 bf5_1203 kf0_1203 cc0 cc1 (cc2 + (1 : Int32)) cc3 kf1_1203 (4 : Int32) (0 : Int32) (((0 : Int32) + (cc2 + (1 : Int32))) + cc1) ((0 : Int32) + (cc2 + (1 : Int32))) (0 : Int32) (0 : Int32) T1203.heap n0 (Nat.le_trans Z0 K1203.1) f1213 f1215 f1216 f1214 f1217 f1218 f1219 f1220 f1212 f1206 f1221 g_bf0_1203 g_bf1_1203 g_b1199 ne1263 (Ne.symm ne_bf0_1203_bf1_1203) ne1264 (hi1201.1 : ¬ (cc1 + (1 : Int32)) = (0 : Int32)) (by decide)) hZ ww54 ww6 (by decide) (by decide)) q1262a q1262c (g := (mkF m 130 (own_L0_5 p0_0 p0_1 p0_2 b933 b1181 b1199 ss0 .unset .unset) [(.int 2), (.ref b1199)])) rfl (by rw [hml]; rfl) (Steps.refl _) (argsL := [(.int 2)]) (rest := []) (lenOf pd__I_V rfl) rfl (by show 2 * 0 + _ ≤ _; exact Nat.le_of_eq rfl) (hb hby at_130) (fun _ _ => ⟨rfl, rfl, (by decide : 9 + 0 ≤ _), (by decide : 43 + 0 ≤ _)⟩)
     dsimp only [Pt.U, Pt.locs, Pt.cells, Pt.slots] at X1262 l1262 y1262 z1262 st1262 hQ1262
     subst l1262 y1262 z1262
     obtain ⟨rfl, N1262q, K1262q, f1265, f1266, f1267, f1268, f1269, f1270, f1271, f1272, f1273, f1274, f1275⟩ := hQ1262
     have f1276 : Fld Z T1262.heap b1199 "gallai/service/ResidualDegrees" "largest" "I" (.int 2) := (show (w6L2d2_largest (cc2 + (1 : Int32))) = (2 : Int32) from (if_neg ((fun q => c1222 ((own_pm cc2).symm.trans q)) : ¬ ((cc2 + (1 : Int32)) - (1 : Int32)) = (0 : Int32)))) ▸ f1275
     have K1262 := K1203.trans K1262q (allS (Or.inr sz_bf0_1203) (allS (Or.inr sz_bf1_1203) (allS (Or.inr sz_b1199) all0)))
     have N1262 := Fr.app N1203 N1262q
     refine own_trans (g' := (mkF m 133 (own_L0_5 p0_0 p0_1 p0_2 b933 b1181 b1199 ss0 .unset .unset) [])) st1262 ?_
     refine own_s (g' := (mkF m 134 (own_L0_5 p0_0 p0_1 p0_2 b933 b1181 b1199 ss0 .unset .unset) [(.ref b933)])) (fun _ kz => XS.aloadN X1262.here hx rfl (hb hby at_133) rfl rfl kz) ?_
     refine own_s (g' := (mkF m 136 (own_L0_5 p0_0 p0_1 p0_2 b933 b1181 b1199 ss0 .unset .unset) [(.int 2), (.ref b933)])) (fun _ kz => XS.iload X1262.here hx rfl (hb hby at_134) rfl kz) ?_
     refine own_s (g' := (mkF m 137 (own_L0_5 p0_0 p0_1 p0_2 b933 b1181 b1199 ss0 .unset .unset) [(.ref b933), (.int 2), (.ref b933)])) (fun _ kz => XS.aloadN X1262.here hx rfl (hb hby at_136) rfl rfl kz) ?_
     refine own_s (g' := (mkF m 139 (own_L0_5 p0_0 p0_1 p0_2 b933 b1181 b1199 ss0 .unset .unset) [(.int 2), (.ref b933), (.int 2), (.ref b933)])) (fun _ kz => XS.iload X1262.here hx rfl (hb hby at_137) rfl kz) ?_
     have ne1277 : b933 ≠ b1199 := Nat.ne_of_lt (Nat.lt_of_lt_of_le ((((((((((Ex933.wr W934).wr W936).wr W938).wr W940).wr W1176).ext E1181).wr W1184).wr W1189).wr W1193).wr W1197).lt (Nat.le_of_eq ga1199.symm))
     have ne1278 : b933 ≠ bf0_1203 := Nat.ne_of_lt (Nat.lt_of_lt_of_le (((((((((((Ex933.wr W934).wr W936).wr W938).wr W940).wr W1176).ext E1181).wr W1184).wr W1189).wr W1193).wr W1197).ext E1199).lt hs_bf0_1203)
     have ne1279 : b933 ≠ bf1_1203 := Nat.ne_of_lt (Nat.lt_of_lt_of_le (((((((((((Ex933.wr W934).wr W936).wr W938).wr W940).wr W1176).ext E1181).wr W1184).wr W1189).wr W1193).wr W1197).ext E1199).lt hs_bf1_1203)
     have f1280 := ((((f1195.other W1197 ne1186).ext E1199).keep K1203q (ninS ne1277 nin0)).keep K1262q (ninS ne1278 (ninS ne1279 (ninS ne1277 nin0))))
     obtain ⟨cl1281, Ar1281, -, S1281, -, H1281, -⟩ := id f1280
     have in1281 := inb_of S1281 (j := (2 : Int32)) ⟨by decide, by decide⟩
     refine own_s (g' := (mkF m 140 (own_L0_5 p0_0 p0_1 p0_2 b933 b1181 b1199 ss0 .unset .unset) [(.int (cc2 + (1 : Int32))), (.int 2), (.ref b933)])) (X1262.iaload hx (j := (2 : Int32)) (v := (.int (cc2 + (1 : Int32)))) Ar1281.1 (State.isArrayOf_alike hZ.alike Ar1281.2.1) Ar1281.2.2 in1281 (Has.at H1281 in1281 rfl) (g := (mkF m 139 (own_L0_5 p0_0 p0_1 p0_2 b933 b1181 b1199 ss0 .unset .unset) [(.int 2), (.ref b933), (.int 2), (.ref b933)])) rfl rfl (hb hby at_139)) ?_
     refine own_s (g' := (mkF m 141 (own_L0_5 p0_0 p0_1 p0_2 b933 b1181 b1199 ss0 .unset .unset) [(.int 1), (.int (cc2 + (1 : Int32))), (.int 2), (.ref b933)])) (fun _ kz => XS.iconst X1262.here hx rfl (hb hby at_140) kz) ?_
     refine own_s (g' := (mkF m 142 (own_L0_5 p0_0 p0_1 p0_2 b933 b1181 b1199 ss0 .unset .unset) [(.int ((cc2 + (1 : Int32)) - (1 : Int32))), (.int 2), (.ref b933)])) (fun _ kz => XS.isub X1262.here hx rfl (hb hby at_141) rfl kz) ?_
     obtain ⟨cl1282, Ar1282, q1282, S1282, M1282, H1282, G1282⟩ := id f1280
     obtain ⟨T1282, h1282, X1282, e1282, W1282, st1282⟩ := stI X1262 hx hZ rfl Ar1282 (j := (2 : Int32)) (inb_of S1282 ⟨by decide, by decide⟩) (g := (mkF m 142 (own_L0_5 p0_0 p0_1 p0_2 b933 b1181 b1199 ss0 .unset .unset) [(.int ((cc2 + (1 : Int32)) - (1 : Int32))), (.int 2), (.ref b933)])) rfl rfl (hb hby at_142)
     have f1283 : Arv Z h1282 b933 k933 .int (4 : Int32) [(.int cc0), (.int cc1), (.int ((cc2 + (1 : Int32)) - (1 : Int32))), (.int cc3)] (.int 0) := Arv.set Ar1282 q1282 S1282 M1282 H1282 G1282 rfl W1282 2 rfl (Nat.le_of_ble_eq_true rfl)
     have K1282 := K1262.wr W1282 (Or.inr sz_b933)
     have N1282 := Fr.snoc X1282 N1262 g_b933
     refine own_s (g' := (mkF m 143 (own_L0_5 p0_0 p0_1 p0_2 b933 b1181 b1199 ss0 .unset .unset) [])) st1282 ?_
     refine own_s (g' := (mkF m 144 (own_L0_5 p0_0 p0_1 p0_2 b933 b1181 b1199 ss0 .unset .unset) [(.ref b933)])) (fun _ kz => XS.aloadN X1282.here hx rfl (hb hby at_143) rfl rfl kz) ?_
     refine own_s (g' := (mkF m 146 (own_L0_5 p0_0 p0_1 p0_2 b933 b1181 b1199 ss0 .unset .unset) [(.int 2), (.ref b933)])) (fun _ kz => XS.iload X1282.here hx rfl (hb hby at_144) rfl kz) ?_
     refine own_s (g' := (mkF m 147 (own_L0_5 p0_0 p0_1 p0_2 b933 b1181 b1199 ss0 .unset .unset) [(.int 1), (.int 2), (.ref b933)])) (fun _ kz => XS.iconst X1282.here hx rfl (hb hby at_146) kz) ?_
     refine own_s (g' := (mkF m 148 (own_L0_5 p0_0 p0_1 p0_2 b933 b1181 b1199 ss0 .unset .unset) [(.int ((2 : Int32) - (1 : Int32))), (.ref b933)])) (fun _ kz => XS.isub X1282.here hx rfl (hb hby at_147) rfl kz) ?_
     rw [show ((2 : Int32) - (1 : Int32)) = (1 : Int32) from by decide]
     refine own_s (g' := (mkF m 149 (own_L0_5 p0_0 p0_1 p0_2 b933 b1181 b1199 ss0 .unset .unset) [(.ref b933), (.int 1), (.ref b933)])) (fun _ kz => XS.aloadN X1282.here hx rfl (hb hby at_148) rfl rfl kz) ?_
     refine own_s (g' := (mkF m 151 (own_L0_5 p0_0 p0_1 p0_2 b933 b1181 b1199 ss0 .unset .unset) [(.int 2), (.ref b933), (.int 1), (.ref b933)])) (fun _ kz => XS.iload X1282.here hx rfl (hb hby at_149) rfl kz) ?_
     refine own_s (g' := (mkF m 152 (own_L0_5 p0_0 p0_1 p0_2 b933 b1181 b1199 ss0 .unset .unset) [(.int 1), (.int 2), (.ref b933), (.int 1), (.ref b933)])) (fun _ kz => XS.iconst X1282.here hx rfl (hb hby at_151) kz) ?_
     refine own_s (g' := (mkF m 153 (own_L0_5 p0_0 p0_1 p0_2 b933 b1181 b1199 ss0 .unset .unset) [(.int ((2 : Int32) - (1 : Int32))), (.ref b933), (.int 1), (.ref b933)])) (fun _ kz => XS.isub X1282.here hx rfl (hb hby at_152) rfl kz) ?_
     rw [show ((2 : Int32) - (1 : Int32)) = (1 : Int32) from by decide]
     obtain ⟨cl1284, Ar1284, -, S1284, -, H1284, -⟩ := id f1283
     have in1284 := inb_of S1284 (j := (1 : Int32)) ⟨by decide, by decide⟩
     refine own_s (g' := (mkF m 154 (own_L0_5 p0_0 p0_1 p0_2 b933 b1181 b1199 ss0 .unset .unset) [(.int cc1), (.int 1), (.ref b933)])) (X1282.iaload hx (j := (1 : Int32)) (v := (.int cc1)) (by rw [e1282]; exact Ar1284.1) (State.isArrayOf_alike hZ.alike Ar1284.2.1) Ar1284.2.2 in1284 (Has.at H1284 in1284 rfl) (g := (mkF m 153 (own_L0_5 p0_0 p0_1 p0_2 b933 b1181 b1199 ss0 .unset .unset) [(.int 1), (.ref b933), (.int 1), (.ref b933)])) rfl rfl (hb hby at_153)) ?_
     refine own_s (g' := (mkF m 155 (own_L0_5 p0_0 p0_1 p0_2 b933 b1181 b1199 ss0 .unset .unset) [(.int 1), (.int cc1), (.int 1), (.ref b933)])) (fun _ kz => XS.iconst X1282.here hx rfl (hb hby at_154) kz) ?_
     refine own_s (g' := (mkF m 156 (own_L0_5 p0_0 p0_1 p0_2 b933 b1181 b1199 ss0 .unset .unset) [(.int (cc1 + (1 : Int32))), (.int 1), (.ref b933)])) (fun _ kz => XS.iadd X1282.here hx rfl (hb hby at_155) rfl kz) ?_
     obtain ⟨cl1285, Ar1285, q1285, S1285, M1285, H1285, G1285⟩ := id f1283
     obtain ⟨T1285, h1285, X1285, e1285, W1285, st1285⟩ := stI X1282 hx hZ e1282 Ar1285 (j := (1 : Int32)) (inb_of S1285 ⟨by decide, by decide⟩) (g := (mkF m 156 (own_L0_5 p0_0 p0_1 p0_2 b933 b1181 b1199 ss0 .unset .unset) [(.int (cc1 + (1 : Int32))), (.int 1), (.ref b933)])) rfl rfl (hb hby at_156)
     have f1286 : Arv Z h1285 b933 k933 .int (4 : Int32) [(.int cc0), (.int (cc1 + (1 : Int32))), (.int ((cc2 + (1 : Int32)) - (1 : Int32))), (.int cc3)] (.int 0) := Arv.set Ar1285 q1285 S1285 M1285 H1285 G1285 rfl W1285 1 rfl (Nat.le_of_ble_eq_true rfl)
     have K1285 := K1282.wr W1285 (Or.inr sz_b933)
     have N1285 := Fr.snoc X1285 N1282 g_b933
     refine own_s (g' := (mkF m 157 (own_L0_5 p0_0 p0_1 p0_2 b933 b1181 b1199 ss0 .unset .unset) [])) st1285 ?_
     have f1287 := ((f1265.other W1282 (Ne.symm ne1278)).other W1285 (Ne.symm ne1278))
     rw [own_pm cc2] at f1287
     rw [own_pm cc2] at f1286
     refine own_s (g' := (mkF m 159 (own_L0_5 p0_0 p0_1 p0_2 b933 b1181 b1199 ss0 .unset .unset) [(.ref b1199)])) (fun _ kz => XS.aload X1285.here hx rfl (hb hby at_157) rfl rfl kz) ?_
     have f1289 := ((f1274.other W1282 (Or.inl (Ne.symm ne1277))).other W1285 (Or.inl (Ne.symm ne1277)))
     have f1290 := ((f1267.wr W1282).wr W1285)
     obtain ⟨cq1288, kq1288, q1288a, q1288b, q1288c⟩ := isOf hZ e1285 f1290
     obtain ⟨_, _, ⟨T1288, L1288, k1288, n1288⟩, -, X1288, ⟨Lc1288, hQ1288, l1288, y1288, z1288⟩, st1288⟩ := X1285.virtualBack hx (y := (⟨"gallai/service/ResidualDegrees", "sum", "()J"⟩ : MethodName)) (z := (⟨"gallai/service/ResidualDegrees", "sum", "()J"⟩ : MethodName)) hown (mvT hZ ww55) (mvT hZ ww56) (notFace_of_selects (args := #[]) (mvT hZ ww58)) (mvT hZ ww58) (mvT hZ ww57) (by decide) (backOf (W := 0) (rm7 l Z a0 hw [] b1199 (ss0 - (1 : Int64)) h1285 n0 (Nat.le_trans Z0 K1285.1) f1289) hZ ww59 ww6 (by decide) (by decide)) q1288a q1288c (g := (mkF m 159 (own_L0_5 p0_0 p0_1 p0_2 b933 b1181 b1199 ss0 .unset .unset) [(.ref b1199)])) rfl (by rw [hml]; rfl) (Steps.refl _) (argsL := []) (rest := []) (lenOf pd___J rfl) rfl (by show 2 * 0 + _ ≤ _; exact Nat.le_of_eq rfl) (hb hby at_159) (fun _ _ => ⟨rfl, e1285, (by decide : 9 + 0 ≤ _), (by decide : 43 + 0 ≤ _)⟩)
     dsimp only [Pt.U, Pt.locs, Pt.cells, Pt.slots] at X1288 l1288 y1288 z1288 st1288 hQ1288
     subst l1288 y1288 z1288
     obtain ⟨rfl, N1288q, eh1288⟩ := hQ1288
     have N1288 := Fr.app N1285 N1288q
     refine own_trans (g' := (mkF m 162 (own_L0_5 p0_0 p0_1 p0_2 b933 b1181 b1199 ss0 .unset .unset) [(.long (ss0 - (1 : Int64)))])) st1288 ?_
     refine own_s (g' := (mkF m 164 (own_L0_5 p0_0 p0_1 p0_2 b933 b1181 b1199 ss0 .unset .unset) [(.long ss0), (.long (ss0 - (1 : Int64)))])) (fun _ kz => XS.lload X1288.here hx rfl (hb hby at_162) rfl kz) ?_
     refine own_s (g' := (mkF m 165 (own_L0_5 p0_0 p0_1 p0_2 b933 b1181 b1199 ss0 .unset .unset) [(.long 1), (.long ss0), (.long (ss0 - (1 : Int64)))])) (fun _ kz => XS.lconst X1288.here hx rfl (hb hby at_164) kz) ?_
     refine own_s (g' := (mkF m 166 (own_L0_5 p0_0 p0_1 p0_2 b933 b1181 b1199 ss0 .unset .unset) [(.long (ss0 - (1 : Int64))), (.long (ss0 - (1 : Int64)))])) (fun _ kz => XS.lsub X1288.here hx rfl (hb hby at_165) rfl kz) ?_
     refine own_s (g' := (mkF m 167 (own_L0_5 p0_0 p0_1 p0_2 b933 b1181 b1199 ss0 .unset .unset) [(.int (lcmpW (ss0 - (1 : Int64)) (ss0 - (1 : Int64))))])) (fun _ kz => XS.lcmp X1288.here hx rfl (hb hby at_166) rfl kz) ?_
     refine own_s (g' := (mkF m 170 (own_L0_5 p0_0 p0_1 p0_2 b933 b1181 b1199 ss0 .unset .unset) [])) (fun _ kz => XS.ifNo X1288.here hx rfl (hb hby at_167) rfl ((if0 _ _).trans (teq ((lw_eq (ss0 - (1 : Int64)) (ss0 - (1 : Int64))).mpr rfl)).2) kz) ?_
     refine own_s (g' := (mkF m 172 (own_L0_5 p0_0 p0_1 p0_2 b933 b1181 b1199 ss0 .unset .unset) [(.ref b1199)])) (fun _ kz => XS.aload X1288.here hx rfl (hb hby at_170) rfl rfl kz) ?_
     have f1292 := ((f1276.other W1282 (Or.inl (Ne.symm ne1277))).other W1285 (Or.inl (Ne.symm ne1277)))
     obtain ⟨cq1291, kq1291, q1291a, q1291b, q1291c⟩ := isOf hZ eh1288 f1290
     obtain ⟨_, _, ⟨T1291, L1291, k1291, n1291⟩, -, X1291, ⟨Lc1291, hQ1291, l1291, y1291, z1291⟩, st1291⟩ := X1288.virtualBack hx (y := (⟨"gallai/service/ResidualDegrees", "largest", "()I"⟩ : MethodName)) (z := (⟨"gallai/service/ResidualDegrees", "largest", "()I"⟩ : MethodName)) hown (mvT hZ ww60) (mvT hZ ww61) (notFace_of_selects (args := #[]) (mvT hZ ww63)) (mvT hZ ww63) (mvT hZ ww62) (by decide) (backOf (W := 0) (rm8 l Z a0 hw [] b1199 (2 : Int32) h1285 n0 (Nat.le_trans Z0 K1285.1) f1292) hZ ww64 ww6 (by decide) (by decide)) q1291a q1291c (g := (mkF m 172 (own_L0_5 p0_0 p0_1 p0_2 b933 b1181 b1199 ss0 .unset .unset) [(.ref b1199)])) rfl (by rw [hml]; rfl) (Steps.refl _) (argsL := []) (rest := []) (lenOf pd___I rfl) rfl (by show 2 * 0 + _ ≤ _; exact Nat.le_of_eq rfl) (hb hby at_172) (fun _ _ => ⟨rfl, eh1288, (by decide : 9 + 0 ≤ _), (by decide : 43 + 0 ≤ _)⟩)
     dsimp only [Pt.U, Pt.locs, Pt.cells, Pt.slots] at X1291 l1291 y1291 z1291 st1291 hQ1291
     subst l1291 y1291 z1291
     obtain ⟨rfl, N1291q, eh1291⟩ := hQ1291
     have N1291 := Fr.app N1288 N1291q
     refine own_trans (g' := (mkF m 175 (own_L0_5 p0_0 p0_1 p0_2 b933 b1181 b1199 ss0 .unset .unset) [(.int 2)])) st1291 ?_
     refine own_s (g' := (mkF m 176 (own_L0_5 p0_0 p0_1 p0_2 b933 b1181 b1199 ss0 .unset .unset) [(.ref b933), (.int 2)])) (fun _ kz => XS.aloadN X1291.here hx rfl (hb hby at_175) rfl rfl kz) ?_
     obtain ⟨_, _, ⟨T1293, L1293, k1293, n1293⟩, -, X1293, ⟨Lc1293, hQ1293, l1293, y1293, z1293⟩, st1293⟩ := Jvm.LawKit.callS X1291 hx (y := (⟨"gallai/service/ResidualDegreesLowerPinLaw", "top", "([I)I"⟩ : MethodName)) hown (mvT hZ ww65) (mvT hZ ww66) (mvT hZ ww67) (mvT hZ ww68) (by decide) (backOf (W := 1) (rm9 l Z a0 hw [] b933 k933 cc0 (cc1 + (1 : Int32)) cc2 cc3 h1285 n0 (Nat.le_trans Z0 K1285.1) f1286) hZ ww68 ww67 (by decide) (by decide)) (g := (mkF m 176 (own_L0_5 p0_0 p0_1 p0_2 b933 b1181 b1199 ss0 .unset .unset) [(.ref b933), (.int 2)])) rfl (by rw [hml]; rfl) (argsL := [(.ref b933)]) (rest := [(.int 2)]) (lenOf pd___I_I rfl) rfl (by show 2 * 0 + _ ≤ _; exact Nat.le_of_eq rfl) (hb hby at_176) (fun _ _ => ⟨rfl, eh1291, (by decide : 9 + 0 ≤ _), (by decide : 43 + 0 ≤ _)⟩)
     dsimp only [Pt.U, Pt.locs, Pt.cells, Pt.slots] at X1293 l1293 y1293 z1293 st1293 hQ1293
     subst l1293 y1293 z1293
     obtain ⟨rfl, N1293q, eh1293⟩ := hQ1293
     have N1293 := Fr.app N1291 N1293q
     refine own_s (g' := (mkF m 179 (own_L0_5 p0_0 p0_1 p0_2 b933 b1181 b1199 ss0 .unset .unset) [(.int (r9 (cc1 + (1 : Int32)) cc2 cc3)), (.int 2)])) st1293 ?_
     rw [show (r9 (cc1 + (1 : Int32)) cc2 cc3) = (2 : Int32) from ((if_neg ((own_eqltI (Eq.symm c1202)) : ¬ (0 : Int32) < cc3)).trans (if_pos ((own_triI (fun q => c1222 q.symm) hb2.1) : (0 : Int32) < cc2)))]
     refine own_s (g' := (mkF m 182 (own_L0_5 p0_0 p0_1 p0_2 b933 b1181 b1199 ss0 .unset .unset) [])) (fun _ kz => XS.icmpNo X1293.here hx rfl (hb hby at_179) rfl (teq ((by decide) : (2 : Int32) = (2 : Int32))).2 kz) ?_
     refine own_s (g' := (mkF m 183 (own_L0_5 p0_0 p0_1 p0_2 b933 b1181 b1199 ss0 .unset .unset) [(.int 1)])) (fun _ kz => XS.iconst X1293.here hx rfl (hb hby at_182) kz) ?_
     refine own_s (g' := (mkF m 187 (own_L0_5 p0_0 p0_1 p0_2 b933 b1181 b1199 ss0 .unset .unset) [(.int 1)])) (fun _ kz => XS.goto X1293.here hx rfl (pc0 := 183) (pc' := 187) rfl (hb hby at_183) (by decide) (by decide) kz) ?_
     refine own_s (g' := (mkF m 189 (own_L0_5 p0_0 p0_1 p0_2 b933 b1181 b1199 ss0 (.val (.int 1)) .unset) [])) (fun _ kz => XS.istore X1293.here hx rfl (hb hby at_187) rfl (l' := (own_L0_5 p0_0 p0_1 p0_2 b933 b1181 b1199 ss0 (.val (.int 1)) .unset)) rfl kz) ?_
     have f1294 := ((f1266.other W1282 (Ne.symm ne1279)).other W1285 (Ne.symm ne1279))
     have f1295 := ((f1268.other W1282 (Or.inl (Ne.symm ne1277))).other W1285 (Or.inl (Ne.symm ne1277)))
     have f1296 := ((f1269.other W1282 (Or.inl (Ne.symm ne1277))).other W1285 (Or.inl (Ne.symm ne1277)))
     have f1297 := ((f1270.other W1282 (Or.inl (Ne.symm ne1277))).other W1285 (Or.inl (Ne.symm ne1277)))
     have f1298 := ((f1271.other W1282 (Or.inl (Ne.symm ne1277))).other W1285 (Or.inl (Ne.symm ne1277)))
     have f1299 := ((f1272.other W1282 (Or.inl (Ne.symm ne1277))).other W1285 (Or.inl (Ne.symm ne1277)))
     have f1300 := ((f1273.other W1282 (Or.inl (Ne.symm ne1277))).other W1285 (Or.inl (Ne.symm ne1277)))
     exact own_cutA2 l Z a0 hw (.val (.int p0_0)) (.val (.int p0_1)) p0_2 b933 (.val (.int 2)) ss0 (.val (.ref b1181)) b1199 bf0_1203 bf1_1203 bf2_1203 bf3_1203 bf4_1203 bf5_1203 k933 cc0 (cc1 + (1 : Int32)) cc2 cc3 kf0_1203 kf1_1203 (4 : Int32) (0 : Int32) (((0 : Int32) + (cc2 + (1 : Int32))) + cc1) (((0 : Int32) + (cc2 + (1 : Int32))) - (1 : Int32)) (0 : Int32) (0 : Int32) (X1293.more (by decide) (by decide)) hx hZ hby hml hown hlk hret h1285 n0 eh1293 (Nat.le_trans Z0 K1285.1) N1293 f1295 f1296 f1289 f1292 f1297 f1298 f1299 f1300 f1290 f1286 f1287 f1294 g_bf0_1203 g_bf1_1203 g_b1199 g_b933 ne1263 (Ne.symm ne_bf0_1203_bf1_1203) ne1264 ne1278 ne1279 ne1277 (hb0.1 : ¬ cc0 < (0 : Int32)) (hi1201.2.2 : ¬ (cc1 + (1 : Int32)) < (0 : Int32)) (hb2.1 : ¬ cc2 < (0 : Int32)) (hb3.1 : ¬ cc3 < (0 : Int32)) (hb0.2 : ¬ (20 : Int32) < cc0) ((own_inc20 hb1.1 hs1) : ¬ (20 : Int32) < (cc1 + (1 : Int32))) (hb2.2 : ¬ (20 : Int32) < cc2) (hb3.2 : ¬ (20 : Int32) < cc3) c1202 c1222 (by decide) (by decide)
   ·skip
    have f1302 := (f1198.ext E1199)
    have f1303 := (((((Ex1181.wr W1184).wr W1189).wr W1193).wr W1197).ext E1199)
    obtain ⟨_, _, ⟨T1301, L1301, k1301, n1301⟩, -, X1301, ⟨Lc1301, hQ1301, l1301, y1301, z1301⟩, st1301⟩ := X1199.specialBack hx (y := (⟨"gallai/service/ResidualDegrees", "<init>", "([IJ)V"⟩ : MethodName)) rfl hown (mvT hZ ww7) (mvT hZ ww8) (mvT hZ ww9) (by decide) (backOf (W := 1) (rm1L3 l Z a0 hw [] b1199 b1181 ss0 (0 : Int32) (0 : Int64) k1181 cc0 cc1 (cc2 + (1 : Int32)) cc3 h1199 n0 (Nat.le_trans Z0 K1199.1) f1199_countOf f1199_largest f1199_atLeast f1199_sum f1199_partnersOf f1199_saved f1199_slack f1199_nextTight f1303 A1199 f1302 g_b1199 c1202) hZ ww9 ww6 (by decide) (by decide)) (g := (mkF m 121 (own_L0_4 p0_0 p0_1 p0_2 b933 ss0 (.val (.ref b1181)) .unset .unset .unset) [(.long ss0), (.ref b1181), (.ref b1199), (.ref b1199)])) rfl (by rw [hml]; rfl) (Steps.refl _) (a := b1199) (argsL := [(.ref b1181), (.long ss0)]) (rest := [(.ref b1199)]) (lenOf pd___IJ_V rfl) rfl (by show 2 * 0 + _ ≤ _; exact Nat.le_of_eq rfl) (hb hby at_121) (fun _ _ => ⟨rfl, e1199, (by decide : 3 + 6 ≤ _), (by decide : 22 + 26 ≤ _)⟩)
    dsimp only [Pt.U, Pt.locs, Pt.cells, Pt.slots] at X1301 l1301 y1301 z1301 st1301 hQ1301
    subst l1301 y1301 z1301
    obtain ⟨bf0_1301, bf1_1301, bf2_1301, bf3_1301, bf4_1301, bf5_1301, kf0_1301, kf1_1301, kf2_1301, kf3_1301, kf4_1301, kf5_1301, hs_bf0_1301, hs_bf1_1301, hs_bf2_1301, hs_bf3_1301, hs_bf4_1301, hs_bf5_1301, ne_bf0_1301_bf1_1301, ne_bf0_1301_bf2_1301, ne_bf0_1301_bf3_1301, ne_bf0_1301_bf4_1301, ne_bf0_1301_bf5_1301, ne_bf1_1301_bf2_1301, ne_bf1_1301_bf3_1301, ne_bf1_1301_bf4_1301, ne_bf1_1301_bf5_1301, ne_bf2_1301_bf3_1301, ne_bf2_1301_bf4_1301, ne_bf2_1301_bf5_1301, ne_bf3_1301_bf4_1301, ne_bf3_1301_bf5_1301, ne_bf4_1301_bf5_1301, rfl, N1301q, K1301q, f1304, f1305, f1306, f1307, f1308, f1309, f1310, f1311, f1312, f1313, f1314, f1315, f1316, f1317, f1318⟩ := hQ1301
    have g_bf0_1301 := Nat.le_trans (Nat.le_trans Z0 K1199.1) hs_bf0_1301
    have sz_bf0_1301 := Nat.le_trans K1199.1 hs_bf0_1301
    have g_bf1_1301 := Nat.le_trans (Nat.le_trans Z0 K1199.1) hs_bf1_1301
    have sz_bf1_1301 := Nat.le_trans K1199.1 hs_bf1_1301
    have g_bf2_1301 := Nat.le_trans (Nat.le_trans Z0 K1199.1) hs_bf2_1301
    have sz_bf2_1301 := Nat.le_trans K1199.1 hs_bf2_1301
    have g_bf3_1301 := Nat.le_trans (Nat.le_trans Z0 K1199.1) hs_bf3_1301
    have sz_bf3_1301 := Nat.le_trans K1199.1 hs_bf3_1301
    have g_bf4_1301 := Nat.le_trans (Nat.le_trans Z0 K1199.1) hs_bf4_1301
    have sz_bf4_1301 := Nat.le_trans K1199.1 hs_bf4_1301
    have g_bf5_1301 := Nat.le_trans (Nat.le_trans Z0 K1199.1) hs_bf5_1301
    have sz_bf5_1301 := Nat.le_trans K1199.1 hs_bf5_1301
    have K1301 := K1199.trans K1301q (allS (Or.inr sz_b1199) all0)
    have N1301 := Fr.app N1197 N1301q
    refine own_trans (g' := (mkF m 124 (own_L0_4 p0_0 p0_1 p0_2 b933 ss0 (.val (.ref b1181)) .unset .unset .unset) [(.ref b1199)])) st1301 ?_
    refine own_s (g' := (mkF m 126 (own_L0_4 p0_0 p0_1 p0_2 b933 ss0 (.val (.ref b1181)) (.val (.ref b1199)) .unset .unset) [])) (fun _ kz => XS.astore X1301.here hx rfl (hb hby at_124) rfl rfl (l' := (own_L0_4 p0_0 p0_1 p0_2 b933 ss0 (.val (.ref b1181)) (.val (.ref b1199)) .unset .unset)) rfl kz) ?_
    show own_G p e below s _ _ _ T1301 (mkF m _ (own_L0_6 p0_0 p0_1 p0_2 b933 b1181 b1199 ss0 .unset .unset) _)
    refine own_s (g' := (mkF m 128 (own_L0_6 p0_0 p0_1 p0_2 b933 b1181 b1199 ss0 .unset .unset) [(.ref b1199)])) (fun _ kz => XS.aload X1301.here hx rfl (hb hby at_126) rfl rfl kz) ?_
    refine own_s (g' := (mkF m 130 (own_L0_6 p0_0 p0_1 p0_2 b933 b1181 b1199 ss0 .unset .unset) [(.int 2), (.ref b1199)])) (fun _ kz => XS.iload X1301.here hx rfl (hb hby at_128) rfl kz) ?_
    have ne1320 : b1199 ≠ bf0_1301 := Nat.ne_of_lt (Nat.lt_of_lt_of_le A1199.lt hs_bf0_1301)
    have ne1321 : b1199 ≠ bf1_1301 := Nat.ne_of_lt (Nat.lt_of_lt_of_le A1199.lt hs_bf1_1301)
    obtain ⟨cq1319, kq1319, q1319a, q1319b, q1319c⟩ := isOf hZ rfl f1310
    obtain ⟨_, _, ⟨T1319, L1319, k1319, n1319⟩, -, X1319, ⟨Lc1319, hQ1319, l1319, y1319, z1319⟩, st1319⟩ := X1301.virtualBack hx (y := (⟨"gallai/service/ResidualDegrees", "lower", "(I)V"⟩ : MethodName)) (z := (⟨"gallai/service/ResidualDegrees", "lower", "(I)V"⟩ : MethodName)) hown (mvT hZ ww50) (mvT hZ ww51) (notFace_of_selects (args := #[]) (mvT hZ ww53)) (mvT hZ ww53) (mvT hZ ww52) (by decide) (backOf (W := 0) (rm6L3d2 l Z a0 hw [] b1199 bf0_1301 bf1_1301 ss0 bf2_1301 bf3_1301 bf4_1301 bf5_1301 kf0_1301 cc0 cc1 (cc2 + (1 : Int32)) cc3 kf1_1301 (5 : Int32) (0 : Int32) ((((0 : Int32) + cc3) + (cc2 + (1 : Int32))) + cc1) (((0 : Int32) + cc3) + (cc2 + (1 : Int32))) ((0 : Int32) + cc3) (0 : Int32) T1301.heap n0 (Nat.le_trans Z0 K1301.1) f1311 f1313 f1314 f1312 f1315 f1316 f1317 f1318 f1310 f1304 f1305 g_bf0_1301 g_bf1_1301 g_b1199 ne1320 (Ne.symm ne_bf0_1301_bf1_1301) ne1321 c1202 (by decide)) hZ ww54 ww6 (by decide) (by decide)) q1319a q1319c (g := (mkF m 130 (own_L0_6 p0_0 p0_1 p0_2 b933 b1181 b1199 ss0 .unset .unset) [(.int 2), (.ref b1199)])) rfl (by rw [hml]; rfl) (Steps.refl _) (argsL := [(.int 2)]) (rest := []) (lenOf pd__I_V rfl) rfl (by show 2 * 0 + _ ≤ _; exact Nat.le_of_eq rfl) (hb hby at_130) (fun _ _ => ⟨rfl, rfl, (by decide : 9 + 0 ≤ _), (by decide : 48 + 0 ≤ _)⟩)
    dsimp only [Pt.U, Pt.locs, Pt.cells, Pt.slots] at X1319 l1319 y1319 z1319 st1319 hQ1319
    subst l1319 y1319 z1319
    obtain ⟨rfl, N1319q, K1319q, f1322, f1323, f1324, f1325, f1326, f1327, f1328, f1329, f1330, f1331, f1332⟩ := hQ1319
    have K1319 := K1301.trans K1319q (allS (Or.inr sz_bf0_1301) (allS (Or.inr sz_bf1_1301) (allS (Or.inr sz_b1199) all0)))
    have N1319 := Fr.app N1301 N1319q
    refine own_trans (g' := (mkF m 133 (own_L0_6 p0_0 p0_1 p0_2 b933 b1181 b1199 ss0 .unset .unset) [])) st1319 ?_
    refine own_s (g' := (mkF m 134 (own_L0_6 p0_0 p0_1 p0_2 b933 b1181 b1199 ss0 .unset .unset) [(.ref b933)])) (fun _ kz => XS.aloadN X1319.here hx rfl (hb hby at_133) rfl rfl kz) ?_
    refine own_s (g' := (mkF m 136 (own_L0_6 p0_0 p0_1 p0_2 b933 b1181 b1199 ss0 .unset .unset) [(.int 2), (.ref b933)])) (fun _ kz => XS.iload X1319.here hx rfl (hb hby at_134) rfl kz) ?_
    refine own_s (g' := (mkF m 137 (own_L0_6 p0_0 p0_1 p0_2 b933 b1181 b1199 ss0 .unset .unset) [(.ref b933), (.int 2), (.ref b933)])) (fun _ kz => XS.aloadN X1319.here hx rfl (hb hby at_136) rfl rfl kz) ?_
    refine own_s (g' := (mkF m 139 (own_L0_6 p0_0 p0_1 p0_2 b933 b1181 b1199 ss0 .unset .unset) [(.int 2), (.ref b933), (.int 2), (.ref b933)])) (fun _ kz => XS.iload X1319.here hx rfl (hb hby at_137) rfl kz) ?_
    have ne1333 : b933 ≠ b1199 := Nat.ne_of_lt (Nat.lt_of_lt_of_le ((((((((((Ex933.wr W934).wr W936).wr W938).wr W940).wr W1176).ext E1181).wr W1184).wr W1189).wr W1193).wr W1197).lt (Nat.le_of_eq ga1199.symm))
    have ne1334 : b933 ≠ bf0_1301 := Nat.ne_of_lt (Nat.lt_of_lt_of_le (((((((((((Ex933.wr W934).wr W936).wr W938).wr W940).wr W1176).ext E1181).wr W1184).wr W1189).wr W1193).wr W1197).ext E1199).lt hs_bf0_1301)
    have ne1335 : b933 ≠ bf1_1301 := Nat.ne_of_lt (Nat.lt_of_lt_of_le (((((((((((Ex933.wr W934).wr W936).wr W938).wr W940).wr W1176).ext E1181).wr W1184).wr W1189).wr W1193).wr W1197).ext E1199).lt hs_bf1_1301)
    have f1336 := ((((f1195.other W1197 ne1186).ext E1199).keep K1301q (ninS ne1333 nin0)).keep K1319q (ninS ne1334 (ninS ne1335 (ninS ne1333 nin0))))
    obtain ⟨cl1337, Ar1337, -, S1337, -, H1337, -⟩ := id f1336
    have in1337 := inb_of S1337 (j := (2 : Int32)) ⟨by decide, by decide⟩
    refine own_s (g' := (mkF m 140 (own_L0_6 p0_0 p0_1 p0_2 b933 b1181 b1199 ss0 .unset .unset) [(.int (cc2 + (1 : Int32))), (.int 2), (.ref b933)])) (X1319.iaload hx (j := (2 : Int32)) (v := (.int (cc2 + (1 : Int32)))) Ar1337.1 (State.isArrayOf_alike hZ.alike Ar1337.2.1) Ar1337.2.2 in1337 (Has.at H1337 in1337 rfl) (g := (mkF m 139 (own_L0_6 p0_0 p0_1 p0_2 b933 b1181 b1199 ss0 .unset .unset) [(.int 2), (.ref b933), (.int 2), (.ref b933)])) rfl rfl (hb hby at_139)) ?_
    refine own_s (g' := (mkF m 141 (own_L0_6 p0_0 p0_1 p0_2 b933 b1181 b1199 ss0 .unset .unset) [(.int 1), (.int (cc2 + (1 : Int32))), (.int 2), (.ref b933)])) (fun _ kz => XS.iconst X1319.here hx rfl (hb hby at_140) kz) ?_
    refine own_s (g' := (mkF m 142 (own_L0_6 p0_0 p0_1 p0_2 b933 b1181 b1199 ss0 .unset .unset) [(.int ((cc2 + (1 : Int32)) - (1 : Int32))), (.int 2), (.ref b933)])) (fun _ kz => XS.isub X1319.here hx rfl (hb hby at_141) rfl kz) ?_
    obtain ⟨cl1338, Ar1338, q1338, S1338, M1338, H1338, G1338⟩ := id f1336
    obtain ⟨T1338, h1338, X1338, e1338, W1338, st1338⟩ := stI X1319 hx hZ rfl Ar1338 (j := (2 : Int32)) (inb_of S1338 ⟨by decide, by decide⟩) (g := (mkF m 142 (own_L0_6 p0_0 p0_1 p0_2 b933 b1181 b1199 ss0 .unset .unset) [(.int ((cc2 + (1 : Int32)) - (1 : Int32))), (.int 2), (.ref b933)])) rfl rfl (hb hby at_142)
    have f1339 : Arv Z h1338 b933 k933 .int (4 : Int32) [(.int cc0), (.int cc1), (.int ((cc2 + (1 : Int32)) - (1 : Int32))), (.int cc3)] (.int 0) := Arv.set Ar1338 q1338 S1338 M1338 H1338 G1338 rfl W1338 2 rfl (Nat.le_of_ble_eq_true rfl)
    have K1338 := K1319.wr W1338 (Or.inr sz_b933)
    have N1338 := Fr.snoc X1338 N1319 g_b933
    refine own_s (g' := (mkF m 143 (own_L0_6 p0_0 p0_1 p0_2 b933 b1181 b1199 ss0 .unset .unset) [])) st1338 ?_
    refine own_s (g' := (mkF m 144 (own_L0_6 p0_0 p0_1 p0_2 b933 b1181 b1199 ss0 .unset .unset) [(.ref b933)])) (fun _ kz => XS.aloadN X1338.here hx rfl (hb hby at_143) rfl rfl kz) ?_
    refine own_s (g' := (mkF m 146 (own_L0_6 p0_0 p0_1 p0_2 b933 b1181 b1199 ss0 .unset .unset) [(.int 2), (.ref b933)])) (fun _ kz => XS.iload X1338.here hx rfl (hb hby at_144) rfl kz) ?_
    refine own_s (g' := (mkF m 147 (own_L0_6 p0_0 p0_1 p0_2 b933 b1181 b1199 ss0 .unset .unset) [(.int 1), (.int 2), (.ref b933)])) (fun _ kz => XS.iconst X1338.here hx rfl (hb hby at_146) kz) ?_
    refine own_s (g' := (mkF m 148 (own_L0_6 p0_0 p0_1 p0_2 b933 b1181 b1199 ss0 .unset .unset) [(.int ((2 : Int32) - (1 : Int32))), (.ref b933)])) (fun _ kz => XS.isub X1338.here hx rfl (hb hby at_147) rfl kz) ?_
    rw [show ((2 : Int32) - (1 : Int32)) = (1 : Int32) from by decide]
    refine own_s (g' := (mkF m 149 (own_L0_6 p0_0 p0_1 p0_2 b933 b1181 b1199 ss0 .unset .unset) [(.ref b933), (.int 1), (.ref b933)])) (fun _ kz => XS.aloadN X1338.here hx rfl (hb hby at_148) rfl rfl kz) ?_
    refine own_s (g' := (mkF m 151 (own_L0_6 p0_0 p0_1 p0_2 b933 b1181 b1199 ss0 .unset .unset) [(.int 2), (.ref b933), (.int 1), (.ref b933)])) (fun _ kz => XS.iload X1338.here hx rfl (hb hby at_149) rfl kz) ?_
    refine own_s (g' := (mkF m 152 (own_L0_6 p0_0 p0_1 p0_2 b933 b1181 b1199 ss0 .unset .unset) [(.int 1), (.int 2), (.ref b933), (.int 1), (.ref b933)])) (fun _ kz => XS.iconst X1338.here hx rfl (hb hby at_151) kz) ?_
    refine own_s (g' := (mkF m 153 (own_L0_6 p0_0 p0_1 p0_2 b933 b1181 b1199 ss0 .unset .unset) [(.int ((2 : Int32) - (1 : Int32))), (.ref b933), (.int 1), (.ref b933)])) (fun _ kz => XS.isub X1338.here hx rfl (hb hby at_152) rfl kz) ?_
    rw [show ((2 : Int32) - (1 : Int32)) = (1 : Int32) from by decide]
    obtain ⟨cl1340, Ar1340, -, S1340, -, H1340, -⟩ := id f1339
    have in1340 := inb_of S1340 (j := (1 : Int32)) ⟨by decide, by decide⟩
    refine own_s (g' := (mkF m 154 (own_L0_6 p0_0 p0_1 p0_2 b933 b1181 b1199 ss0 .unset .unset) [(.int cc1), (.int 1), (.ref b933)])) (X1338.iaload hx (j := (1 : Int32)) (v := (.int cc1)) (by rw [e1338]; exact Ar1340.1) (State.isArrayOf_alike hZ.alike Ar1340.2.1) Ar1340.2.2 in1340 (Has.at H1340 in1340 rfl) (g := (mkF m 153 (own_L0_6 p0_0 p0_1 p0_2 b933 b1181 b1199 ss0 .unset .unset) [(.int 1), (.ref b933), (.int 1), (.ref b933)])) rfl rfl (hb hby at_153)) ?_
    refine own_s (g' := (mkF m 155 (own_L0_6 p0_0 p0_1 p0_2 b933 b1181 b1199 ss0 .unset .unset) [(.int 1), (.int cc1), (.int 1), (.ref b933)])) (fun _ kz => XS.iconst X1338.here hx rfl (hb hby at_154) kz) ?_
    refine own_s (g' := (mkF m 156 (own_L0_6 p0_0 p0_1 p0_2 b933 b1181 b1199 ss0 .unset .unset) [(.int (cc1 + (1 : Int32))), (.int 1), (.ref b933)])) (fun _ kz => XS.iadd X1338.here hx rfl (hb hby at_155) rfl kz) ?_
    obtain ⟨cl1341, Ar1341, q1341, S1341, M1341, H1341, G1341⟩ := id f1339
    obtain ⟨T1341, h1341, X1341, e1341, W1341, st1341⟩ := stI X1338 hx hZ e1338 Ar1341 (j := (1 : Int32)) (inb_of S1341 ⟨by decide, by decide⟩) (g := (mkF m 156 (own_L0_6 p0_0 p0_1 p0_2 b933 b1181 b1199 ss0 .unset .unset) [(.int (cc1 + (1 : Int32))), (.int 1), (.ref b933)])) rfl rfl (hb hby at_156)
    have f1342 : Arv Z h1341 b933 k933 .int (4 : Int32) [(.int cc0), (.int (cc1 + (1 : Int32))), (.int ((cc2 + (1 : Int32)) - (1 : Int32))), (.int cc3)] (.int 0) := Arv.set Ar1341 q1341 S1341 M1341 H1341 G1341 rfl W1341 1 rfl (Nat.le_of_ble_eq_true rfl)
    have K1341 := K1338.wr W1341 (Or.inr sz_b933)
    have N1341 := Fr.snoc X1341 N1338 g_b933
    refine own_s (g' := (mkF m 157 (own_L0_6 p0_0 p0_1 p0_2 b933 b1181 b1199 ss0 .unset .unset) [])) st1341 ?_
    have f1343 := ((f1322.other W1338 (Ne.symm ne1334)).other W1341 (Ne.symm ne1334))
    rw [own_pm cc2] at f1343
    rw [own_pm cc2] at f1342
    refine own_s (g' := (mkF m 159 (own_L0_6 p0_0 p0_1 p0_2 b933 b1181 b1199 ss0 .unset .unset) [(.ref b1199)])) (fun _ kz => XS.aload X1341.here hx rfl (hb hby at_157) rfl rfl kz) ?_
    have f1345 := ((f1332.other W1338 (Or.inl (Ne.symm ne1333))).other W1341 (Or.inl (Ne.symm ne1333)))
    have f1346 := ((f1324.wr W1338).wr W1341)
    obtain ⟨cq1344, kq1344, q1344a, q1344b, q1344c⟩ := isOf hZ e1341 f1346
    obtain ⟨_, _, ⟨T1344, L1344, k1344, n1344⟩, -, X1344, ⟨Lc1344, hQ1344, l1344, y1344, z1344⟩, st1344⟩ := X1341.virtualBack hx (y := (⟨"gallai/service/ResidualDegrees", "sum", "()J"⟩ : MethodName)) (z := (⟨"gallai/service/ResidualDegrees", "sum", "()J"⟩ : MethodName)) hown (mvT hZ ww55) (mvT hZ ww56) (notFace_of_selects (args := #[]) (mvT hZ ww58)) (mvT hZ ww58) (mvT hZ ww57) (by decide) (backOf (W := 0) (rm7 l Z a0 hw [] b1199 (ss0 - (1 : Int64)) h1341 n0 (Nat.le_trans Z0 K1341.1) f1345) hZ ww59 ww6 (by decide) (by decide)) q1344a q1344c (g := (mkF m 159 (own_L0_6 p0_0 p0_1 p0_2 b933 b1181 b1199 ss0 .unset .unset) [(.ref b1199)])) rfl (by rw [hml]; rfl) (Steps.refl _) (argsL := []) (rest := []) (lenOf pd___J rfl) rfl (by show 2 * 0 + _ ≤ _; exact Nat.le_of_eq rfl) (hb hby at_159) (fun _ _ => ⟨rfl, e1341, (by decide : 9 + 0 ≤ _), (by decide : 48 + 0 ≤ _)⟩)
    dsimp only [Pt.U, Pt.locs, Pt.cells, Pt.slots] at X1344 l1344 y1344 z1344 st1344 hQ1344
    subst l1344 y1344 z1344
    obtain ⟨rfl, N1344q, eh1344⟩ := hQ1344
    have N1344 := Fr.app N1341 N1344q
    refine own_trans (g' := (mkF m 162 (own_L0_6 p0_0 p0_1 p0_2 b933 b1181 b1199 ss0 .unset .unset) [(.long (ss0 - (1 : Int64)))])) st1344 ?_
    refine own_s (g' := (mkF m 164 (own_L0_6 p0_0 p0_1 p0_2 b933 b1181 b1199 ss0 .unset .unset) [(.long ss0), (.long (ss0 - (1 : Int64)))])) (fun _ kz => XS.lload X1344.here hx rfl (hb hby at_162) rfl kz) ?_
    refine own_s (g' := (mkF m 165 (own_L0_6 p0_0 p0_1 p0_2 b933 b1181 b1199 ss0 .unset .unset) [(.long 1), (.long ss0), (.long (ss0 - (1 : Int64)))])) (fun _ kz => XS.lconst X1344.here hx rfl (hb hby at_164) kz) ?_
    refine own_s (g' := (mkF m 166 (own_L0_6 p0_0 p0_1 p0_2 b933 b1181 b1199 ss0 .unset .unset) [(.long (ss0 - (1 : Int64))), (.long (ss0 - (1 : Int64)))])) (fun _ kz => XS.lsub X1344.here hx rfl (hb hby at_165) rfl kz) ?_
    refine own_s (g' := (mkF m 167 (own_L0_6 p0_0 p0_1 p0_2 b933 b1181 b1199 ss0 .unset .unset) [(.int (lcmpW (ss0 - (1 : Int64)) (ss0 - (1 : Int64))))])) (fun _ kz => XS.lcmp X1344.here hx rfl (hb hby at_166) rfl kz) ?_
    refine own_s (g' := (mkF m 170 (own_L0_6 p0_0 p0_1 p0_2 b933 b1181 b1199 ss0 .unset .unset) [])) (fun _ kz => XS.ifNo X1344.here hx rfl (hb hby at_167) rfl ((if0 _ _).trans (teq ((lw_eq (ss0 - (1 : Int64)) (ss0 - (1 : Int64))).mpr rfl)).2) kz) ?_
    refine own_s (g' := (mkF m 172 (own_L0_6 p0_0 p0_1 p0_2 b933 b1181 b1199 ss0 .unset .unset) [(.ref b1199)])) (fun _ kz => XS.aload X1344.here hx rfl (hb hby at_170) rfl rfl kz) ?_
    have f1348 := ((f1327.other W1338 (Or.inl (Ne.symm ne1333))).other W1341 (Or.inl (Ne.symm ne1333)))
    obtain ⟨cq1347, kq1347, q1347a, q1347b, q1347c⟩ := isOf hZ eh1344 f1346
    obtain ⟨_, _, ⟨T1347, L1347, k1347, n1347⟩, -, X1347, ⟨Lc1347, hQ1347, l1347, y1347, z1347⟩, st1347⟩ := X1344.virtualBack hx (y := (⟨"gallai/service/ResidualDegrees", "largest", "()I"⟩ : MethodName)) (z := (⟨"gallai/service/ResidualDegrees", "largest", "()I"⟩ : MethodName)) hown (mvT hZ ww60) (mvT hZ ww61) (notFace_of_selects (args := #[]) (mvT hZ ww63)) (mvT hZ ww63) (mvT hZ ww62) (by decide) (backOf (W := 0) (rm8 l Z a0 hw [] b1199 (3 : Int32) h1341 n0 (Nat.le_trans Z0 K1341.1) f1348) hZ ww64 ww6 (by decide) (by decide)) q1347a q1347c (g := (mkF m 172 (own_L0_6 p0_0 p0_1 p0_2 b933 b1181 b1199 ss0 .unset .unset) [(.ref b1199)])) rfl (by rw [hml]; rfl) (Steps.refl _) (argsL := []) (rest := []) (lenOf pd___I rfl) rfl (by show 2 * 0 + _ ≤ _; exact Nat.le_of_eq rfl) (hb hby at_172) (fun _ _ => ⟨rfl, eh1344, (by decide : 9 + 0 ≤ _), (by decide : 48 + 0 ≤ _)⟩)
    dsimp only [Pt.U, Pt.locs, Pt.cells, Pt.slots] at X1347 l1347 y1347 z1347 st1347 hQ1347
    subst l1347 y1347 z1347
    obtain ⟨rfl, N1347q, eh1347⟩ := hQ1347
    have N1347 := Fr.app N1344 N1347q
    refine own_trans (g' := (mkF m 175 (own_L0_6 p0_0 p0_1 p0_2 b933 b1181 b1199 ss0 .unset .unset) [(.int 3)])) st1347 ?_
    refine own_s (g' := (mkF m 176 (own_L0_6 p0_0 p0_1 p0_2 b933 b1181 b1199 ss0 .unset .unset) [(.ref b933), (.int 3)])) (fun _ kz => XS.aloadN X1347.here hx rfl (hb hby at_175) rfl rfl kz) ?_
    obtain ⟨_, _, ⟨T1349, L1349, k1349, n1349⟩, -, X1349, ⟨Lc1349, hQ1349, l1349, y1349, z1349⟩, st1349⟩ := Jvm.LawKit.callS X1347 hx (y := (⟨"gallai/service/ResidualDegreesLowerPinLaw", "top", "([I)I"⟩ : MethodName)) hown (mvT hZ ww65) (mvT hZ ww66) (mvT hZ ww67) (mvT hZ ww68) (by decide) (backOf (W := 1) (rm9 l Z a0 hw [] b933 k933 cc0 (cc1 + (1 : Int32)) cc2 cc3 h1341 n0 (Nat.le_trans Z0 K1341.1) f1342) hZ ww68 ww67 (by decide) (by decide)) (g := (mkF m 176 (own_L0_6 p0_0 p0_1 p0_2 b933 b1181 b1199 ss0 .unset .unset) [(.ref b933), (.int 3)])) rfl (by rw [hml]; rfl) (argsL := [(.ref b933)]) (rest := [(.int 3)]) (lenOf pd___I_I rfl) rfl (by show 2 * 0 + _ ≤ _; exact Nat.le_of_eq rfl) (hb hby at_176) (fun _ _ => ⟨rfl, eh1347, (by decide : 9 + 0 ≤ _), (by decide : 48 + 0 ≤ _)⟩)
    dsimp only [Pt.U, Pt.locs, Pt.cells, Pt.slots] at X1349 l1349 y1349 z1349 st1349 hQ1349
    subst l1349 y1349 z1349
    obtain ⟨rfl, N1349q, eh1349⟩ := hQ1349
    have N1349 := Fr.app N1347 N1349q
    refine own_s (g' := (mkF m 179 (own_L0_6 p0_0 p0_1 p0_2 b933 b1181 b1199 ss0 .unset .unset) [(.int (r9 (cc1 + (1 : Int32)) cc2 cc3)), (.int 3)])) st1349 ?_
    rw [show (r9 (cc1 + (1 : Int32)) cc2 cc3) = (3 : Int32) from (if_pos ((own_triI (fun q => c1202 q.symm) hb3.1) : (0 : Int32) < cc3))]
    refine own_s (g' := (mkF m 182 (own_L0_6 p0_0 p0_1 p0_2 b933 b1181 b1199 ss0 .unset .unset) [])) (fun _ kz => XS.icmpNo X1349.here hx rfl (hb hby at_179) rfl (teq ((by decide) : (3 : Int32) = (3 : Int32))).2 kz) ?_
    refine own_s (g' := (mkF m 183 (own_L0_6 p0_0 p0_1 p0_2 b933 b1181 b1199 ss0 .unset .unset) [(.int 1)])) (fun _ kz => XS.iconst X1349.here hx rfl (hb hby at_182) kz) ?_
    refine own_s (g' := (mkF m 187 (own_L0_6 p0_0 p0_1 p0_2 b933 b1181 b1199 ss0 .unset .unset) [(.int 1)])) (fun _ kz => XS.goto X1349.here hx rfl (pc0 := 183) (pc' := 187) rfl (hb hby at_183) (by decide) (by decide) kz) ?_
    refine own_s (g' := (mkF m 189 (own_L0_6 p0_0 p0_1 p0_2 b933 b1181 b1199 ss0 (.val (.int 1)) .unset) [])) (fun _ kz => XS.istore X1349.here hx rfl (hb hby at_187) rfl (l' := (own_L0_6 p0_0 p0_1 p0_2 b933 b1181 b1199 ss0 (.val (.int 1)) .unset)) rfl kz) ?_
    have f1350 := ((f1323.other W1338 (Ne.symm ne1335)).other W1341 (Ne.symm ne1335))
    have f1351 := ((f1325.other W1338 (Or.inl (Ne.symm ne1333))).other W1341 (Or.inl (Ne.symm ne1333)))
    have f1352 := ((f1326.other W1338 (Or.inl (Ne.symm ne1333))).other W1341 (Or.inl (Ne.symm ne1333)))
    have f1353 := ((f1328.other W1338 (Or.inl (Ne.symm ne1333))).other W1341 (Or.inl (Ne.symm ne1333)))
    have f1354 := ((f1329.other W1338 (Or.inl (Ne.symm ne1333))).other W1341 (Or.inl (Ne.symm ne1333)))
    have f1355 := ((f1330.other W1338 (Or.inl (Ne.symm ne1333))).other W1341 (Or.inl (Ne.symm ne1333)))
    have f1356 := ((f1331.other W1338 (Or.inl (Ne.symm ne1333))).other W1341 (Or.inl (Ne.symm ne1333)))
    exact own_cutA3 l Z a0 hw (.val (.int p0_0)) (.val (.int p0_1)) p0_2 b933 (.val (.int 2)) ss0 (.val (.ref b1181)) b1199 bf0_1301 bf1_1301 bf2_1301 bf3_1301 bf4_1301 bf5_1301 k933 cc0 (cc1 + (1 : Int32)) cc2 cc3 kf0_1301 kf1_1301 (5 : Int32) (0 : Int32) ((((0 : Int32) + cc3) + (cc2 + (1 : Int32))) + cc1) ((((0 : Int32) + cc3) + (cc2 + (1 : Int32))) - (1 : Int32)) ((0 : Int32) + cc3) (0 : Int32) (X1349.more (by decide) (by decide)) hx hZ hby hml hown hlk hret h1341 n0 eh1349 (Nat.le_trans Z0 K1341.1) N1349 f1351 f1352 f1345 f1348 f1353 f1354 f1355 f1356 f1346 f1342 f1343 f1350 g_bf0_1301 g_bf1_1301 g_b1199 g_b933 ne1320 (Ne.symm ne_bf0_1301_bf1_1301) ne1321 ne1334 ne1335 ne1333 (hb0.1 : ¬ cc0 < (0 : Int32)) (hi1201.2.2 : ¬ (cc1 + (1 : Int32)) < (0 : Int32)) (hb2.1 : ¬ cc2 < (0 : Int32)) (hb3.1 : ¬ cc3 < (0 : Int32)) (hb0.2 : ¬ (20 : Int32) < cc0) ((own_inc20 hb1.1 hs1) : ¬ (20 : Int32) < (cc1 + (1 : Int32))) (hb2.2 : ¬ (20 : Int32) < cc2) (hb3.2 : ¬ (20 : Int32) < cc3) c1202 (by decide) (by decide) (by decide)
  ·skip
   rw [show ((1 : Int32) + ((p0_1 &&& (2147483647 : Int32)) % (3 : Int32))) = (3 : Int32) from hd1]
   refine own_s (g' := (mkF m 50 #[.val (.int p0_0), .val (.int p0_1), .val (.int p0_2), .val (.ref b933), .val (.int 3), .unset, .unset, .unset, .unset, .unset, .unset] [])) (fun _ kz => XS.istore X940.here hx rfl (hb hby at_48) rfl (l' := #[.val (.int p0_0), .val (.int p0_1), .val (.int p0_2), .val (.ref b933), .val (.int 3), .unset, .unset, .unset, .unset, .unset, .unset]) rfl kz) ?_
   refine own_s (g' := (mkF m 51 #[.val (.int p0_0), .val (.int p0_1), .val (.int p0_2), .val (.ref b933), .val (.int 3), .unset, .unset, .unset, .unset, .unset, .unset] [(.ref b933)])) (fun _ kz => XS.aloadN X940.here hx rfl (hb hby at_50) rfl rfl kz) ?_
   refine own_s (g' := (mkF m 53 #[.val (.int p0_0), .val (.int p0_1), .val (.int p0_2), .val (.ref b933), .val (.int 3), .unset, .unset, .unset, .unset, .unset, .unset] [(.int 3), (.ref b933)])) (fun _ kz => XS.iload X940.here hx rfl (hb hby at_51) rfl kz) ?_
   refine own_s (g' := (mkF m 54 #[.val (.int p0_0), .val (.int p0_1), .val (.int p0_2), .val (.ref b933), .val (.int 3), .unset, .unset, .unset, .unset, .unset, .unset] [(.ref b933), (.int 3), (.ref b933)])) (fun _ kz => XS.aloadN X940.here hx rfl (hb hby at_53) rfl rfl kz) ?_
   refine own_s (g' := (mkF m 56 #[.val (.int p0_0), .val (.int p0_1), .val (.int p0_2), .val (.ref b933), .val (.int 3), .unset, .unset, .unset, .unset, .unset, .unset] [(.int 3), (.ref b933), (.int 3), (.ref b933)])) (fun _ kz => XS.iload X940.here hx rfl (hb hby at_54) rfl kz) ?_
   obtain ⟨cl1357, Ar1357, -, S1357, -, H1357, -⟩ := id f941
   have in1357 := inb_of S1357 (j := (3 : Int32)) ⟨by decide, by decide⟩
   refine own_s (g' := (mkF m 57 #[.val (.int p0_0), .val (.int p0_1), .val (.int p0_2), .val (.ref b933), .val (.int 3), .unset, .unset, .unset, .unset, .unset, .unset] [(.int cc3), (.int 3), (.ref b933)])) (X940.iaload hx (j := (3 : Int32)) (v := (.int cc3)) (by rw [e940]; exact Ar1357.1) (State.isArrayOf_alike hZ.alike Ar1357.2.1) Ar1357.2.2 in1357 (Has.at H1357 in1357 rfl) (g := (mkF m 56 #[.val (.int p0_0), .val (.int p0_1), .val (.int p0_2), .val (.ref b933), .val (.int 3), .unset, .unset, .unset, .unset, .unset, .unset] [(.int 3), (.ref b933), (.int 3), (.ref b933)])) rfl rfl (hb hby at_56)) ?_
   refine own_s (g' := (mkF m 58 #[.val (.int p0_0), .val (.int p0_1), .val (.int p0_2), .val (.ref b933), .val (.int 3), .unset, .unset, .unset, .unset, .unset, .unset] [(.int 1), (.int cc3), (.int 3), (.ref b933)])) (fun _ kz => XS.iconst X940.here hx rfl (hb hby at_57) kz) ?_
   refine own_s (g' := (mkF m 59 #[.val (.int p0_0), .val (.int p0_1), .val (.int p0_2), .val (.ref b933), .val (.int 3), .unset, .unset, .unset, .unset, .unset, .unset] [(.int (cc3 + (1 : Int32))), (.int 3), (.ref b933)])) (fun _ kz => XS.iadd X940.here hx rfl (hb hby at_58) rfl kz) ?_
   obtain ⟨cl1358, Ar1358, q1358, S1358, M1358, H1358, G1358⟩ := id f941
   obtain ⟨T1358, h1358, X1358, e1358, W1358, st1358⟩ := stI X940 hx hZ e940 Ar1358 (j := (3 : Int32)) (inb_of S1358 ⟨by decide, by decide⟩) (g := (mkF m 59 #[.val (.int p0_0), .val (.int p0_1), .val (.int p0_2), .val (.ref b933), .val (.int 3), .unset, .unset, .unset, .unset, .unset, .unset] [(.int (cc3 + (1 : Int32))), (.int 3), (.ref b933)])) rfl rfl (hb hby at_59)
   have f1359 : Arv Z h1358 b933 k933 .int (4 : Int32) [(.int cc0), (.int cc1), (.int cc2), (.int (cc3 + (1 : Int32)))] (.int 0) := Arv.set Ar1358 q1358 S1358 M1358 H1358 G1358 rfl W1358 3 rfl (Nat.le_of_ble_eq_true rfl)
   have K1358 := K940.wr W1358 (Or.inr sz_b933)
   have N1358 := Fr.snoc X1358 N940 g_b933
   refine own_s (g' := (mkF m 60 #[.val (.int p0_0), .val (.int p0_1), .val (.int p0_2), .val (.ref b933), .val (.int 3), .unset, .unset, .unset, .unset, .unset, .unset] [])) st1358 ?_
   refine own_s (g' := (mkF m 61 #[.val (.int p0_0), .val (.int p0_1), .val (.int p0_2), .val (.ref b933), .val (.int 3), .unset, .unset, .unset, .unset, .unset, .unset] [(.ref b933)])) (fun _ kz => XS.aloadN X1358.here hx rfl (hb hby at_60) rfl rfl kz) ?_
   refine own_s (g' := (mkF m 62 #[.val (.int p0_0), .val (.int p0_1), .val (.int p0_2), .val (.ref b933), .val (.int 3), .unset, .unset, .unset, .unset, .unset, .unset] [(.int 1), (.ref b933)])) (fun _ kz => XS.iconst X1358.here hx rfl (hb hby at_61) kz) ?_
   obtain ⟨cl1360, Ar1360, -, S1360, -, H1360, -⟩ := id f1359
   have in1360 := inb_of S1360 (j := (1 : Int32)) ⟨by decide, by decide⟩
   refine own_s (g' := (mkF m 63 #[.val (.int p0_0), .val (.int p0_1), .val (.int p0_2), .val (.ref b933), .val (.int 3), .unset, .unset, .unset, .unset, .unset, .unset] [(.int cc1)])) (X1358.iaload hx (j := (1 : Int32)) (v := (.int cc1)) (by rw [e1358]; exact Ar1360.1) (State.isArrayOf_alike hZ.alike Ar1360.2.1) Ar1360.2.2 in1360 (Has.at H1360 in1360 rfl) (g := (mkF m 62 #[.val (.int p0_0), .val (.int p0_1), .val (.int p0_2), .val (.ref b933), .val (.int 3), .unset, .unset, .unset, .unset, .unset, .unset] [(.int 1), (.ref b933)])) rfl rfl (hb hby at_62)) ?_
   refine own_s (g' := (mkF m 64 #[.val (.int p0_0), .val (.int p0_1), .val (.int p0_2), .val (.ref b933), .val (.int 3), .unset, .unset, .unset, .unset, .unset, .unset] [(.long cc1.toInt64)])) (fun _ kz => XS.i2l X1358.here hx rfl (hb hby at_63) rfl kz) ?_
   refine own_s (g' := (mkF m 67 #[.val (.int p0_0), .val (.int p0_1), .val (.int p0_2), .val (.ref b933), .val (.int 3), .unset, .unset, .unset, .unset, .unset, .unset] [(.long 2), (.long cc1.toInt64)])) (X1358.ldc2Long hx hown (mvT hZ ww2) (g := (mkF m 64 #[.val (.int p0_0), .val (.int p0_1), .val (.int p0_2), .val (.ref b933), .val (.int 3), .unset, .unset, .unset, .unset, .unset, .unset] [(.long cc1.toInt64)])) rfl (hb hby at_64)) ?_
   refine own_s (g' := (mkF m 68 #[.val (.int p0_0), .val (.int p0_1), .val (.int p0_2), .val (.ref b933), .val (.int 3), .unset, .unset, .unset, .unset, .unset, .unset] [(.ref b933), (.long 2), (.long cc1.toInt64)])) (fun _ kz => XS.aloadN X1358.here hx rfl (hb hby at_67) rfl rfl kz) ?_
   refine own_s (g' := (mkF m 69 #[.val (.int p0_0), .val (.int p0_1), .val (.int p0_2), .val (.ref b933), .val (.int 3), .unset, .unset, .unset, .unset, .unset, .unset] [(.int 2), (.ref b933), (.long 2), (.long cc1.toInt64)])) (fun _ kz => XS.iconst X1358.here hx rfl (hb hby at_68) kz) ?_
   obtain ⟨cl1361, Ar1361, -, S1361, -, H1361, -⟩ := id f1359
   have in1361 := inb_of S1361 (j := (2 : Int32)) ⟨by decide, by decide⟩
   refine own_s (g' := (mkF m 70 #[.val (.int p0_0), .val (.int p0_1), .val (.int p0_2), .val (.ref b933), .val (.int 3), .unset, .unset, .unset, .unset, .unset, .unset] [(.int cc2), (.long 2), (.long cc1.toInt64)])) (X1358.iaload hx (j := (2 : Int32)) (v := (.int cc2)) (by rw [e1358]; exact Ar1361.1) (State.isArrayOf_alike hZ.alike Ar1361.2.1) Ar1361.2.2 in1361 (Has.at H1361 in1361 rfl) (g := (mkF m 69 #[.val (.int p0_0), .val (.int p0_1), .val (.int p0_2), .val (.ref b933), .val (.int 3), .unset, .unset, .unset, .unset, .unset, .unset] [(.int 2), (.ref b933), (.long 2), (.long cc1.toInt64)])) rfl rfl (hb hby at_69)) ?_
   refine own_s (g' := (mkF m 71 #[.val (.int p0_0), .val (.int p0_1), .val (.int p0_2), .val (.ref b933), .val (.int 3), .unset, .unset, .unset, .unset, .unset, .unset] [(.long cc2.toInt64), (.long 2), (.long cc1.toInt64)])) (fun _ kz => XS.i2l X1358.here hx rfl (hb hby at_70) rfl kz) ?_
   refine own_s (g' := (mkF m 72 #[.val (.int p0_0), .val (.int p0_1), .val (.int p0_2), .val (.ref b933), .val (.int 3), .unset, .unset, .unset, .unset, .unset, .unset] [(.long ((2 : Int64) * cc2.toInt64)), (.long cc1.toInt64)])) (fun _ kz => XS.lmul X1358.here hx rfl (hb hby at_71) rfl kz) ?_
   refine own_s (g' := (mkF m 73 #[.val (.int p0_0), .val (.int p0_1), .val (.int p0_2), .val (.ref b933), .val (.int 3), .unset, .unset, .unset, .unset, .unset, .unset] [(.long (cc1.toInt64 + ((2 : Int64) * cc2.toInt64)))])) (fun _ kz => XS.ladd X1358.here hx rfl (hb hby at_72) rfl kz) ?_
   refine own_s (g' := (mkF m 76 #[.val (.int p0_0), .val (.int p0_1), .val (.int p0_2), .val (.ref b933), .val (.int 3), .unset, .unset, .unset, .unset, .unset, .unset] [(.long 3), (.long (cc1.toInt64 + ((2 : Int64) * cc2.toInt64)))])) (X1358.ldc2Long hx hown (mvT hZ ww3) (g := (mkF m 73 #[.val (.int p0_0), .val (.int p0_1), .val (.int p0_2), .val (.ref b933), .val (.int 3), .unset, .unset, .unset, .unset, .unset, .unset] [(.long (cc1.toInt64 + ((2 : Int64) * cc2.toInt64)))])) rfl (hb hby at_73)) ?_
   refine own_s (g' := (mkF m 77 #[.val (.int p0_0), .val (.int p0_1), .val (.int p0_2), .val (.ref b933), .val (.int 3), .unset, .unset, .unset, .unset, .unset, .unset] [(.ref b933), (.long 3), (.long (cc1.toInt64 + ((2 : Int64) * cc2.toInt64)))])) (fun _ kz => XS.aloadN X1358.here hx rfl (hb hby at_76) rfl rfl kz) ?_
   refine own_s (g' := (mkF m 78 #[.val (.int p0_0), .val (.int p0_1), .val (.int p0_2), .val (.ref b933), .val (.int 3), .unset, .unset, .unset, .unset, .unset, .unset] [(.int 3), (.ref b933), (.long 3), (.long (cc1.toInt64 + ((2 : Int64) * cc2.toInt64)))])) (fun _ kz => XS.iconst X1358.here hx rfl (hb hby at_77) kz) ?_
   obtain ⟨cl1362, Ar1362, -, S1362, -, H1362, -⟩ := id f1359
   have in1362 := inb_of S1362 (j := (3 : Int32)) ⟨by decide, by decide⟩
   refine own_s (g' := (mkF m 79 #[.val (.int p0_0), .val (.int p0_1), .val (.int p0_2), .val (.ref b933), .val (.int 3), .unset, .unset, .unset, .unset, .unset, .unset] [(.int (cc3 + (1 : Int32))), (.long 3), (.long (cc1.toInt64 + ((2 : Int64) * cc2.toInt64)))])) (X1358.iaload hx (j := (3 : Int32)) (v := (.int (cc3 + (1 : Int32)))) (by rw [e1358]; exact Ar1362.1) (State.isArrayOf_alike hZ.alike Ar1362.2.1) Ar1362.2.2 in1362 (Has.at H1362 in1362 rfl) (g := (mkF m 78 #[.val (.int p0_0), .val (.int p0_1), .val (.int p0_2), .val (.ref b933), .val (.int 3), .unset, .unset, .unset, .unset, .unset, .unset] [(.int 3), (.ref b933), (.long 3), (.long (cc1.toInt64 + ((2 : Int64) * cc2.toInt64)))])) rfl rfl (hb hby at_78)) ?_
   refine own_s (g' := (mkF m 80 #[.val (.int p0_0), .val (.int p0_1), .val (.int p0_2), .val (.ref b933), .val (.int 3), .unset, .unset, .unset, .unset, .unset, .unset] [(.long (cc3 + (1 : Int32)).toInt64), (.long 3), (.long (cc1.toInt64 + ((2 : Int64) * cc2.toInt64)))])) (fun _ kz => XS.i2l X1358.here hx rfl (hb hby at_79) rfl kz) ?_
   refine own_s (g' := (mkF m 81 #[.val (.int p0_0), .val (.int p0_1), .val (.int p0_2), .val (.ref b933), .val (.int 3), .unset, .unset, .unset, .unset, .unset, .unset] [(.long ((3 : Int64) * (cc3 + (1 : Int32)).toInt64)), (.long (cc1.toInt64 + ((2 : Int64) * cc2.toInt64)))])) (fun _ kz => XS.lmul X1358.here hx rfl (hb hby at_80) rfl kz) ?_
   refine own_s (g' := (mkF m 82 #[.val (.int p0_0), .val (.int p0_1), .val (.int p0_2), .val (.ref b933), .val (.int 3), .unset, .unset, .unset, .unset, .unset, .unset] [(.long ((cc1.toInt64 + ((2 : Int64) * cc2.toInt64)) + ((3 : Int64) * (cc3 + (1 : Int32)).toInt64)))])) (fun _ kz => XS.ladd X1358.here hx rfl (hb hby at_81) rfl kz) ?_
   obtain ⟨ss0, hss0⟩ : ∃ z, z = ((cc1.toInt64 + ((2 : Int64) * cc2.toInt64)) + ((3 : Int64) * (cc3 + (1 : Int32)).toInt64)) := ⟨_, rfl⟩
   rw [← hss0]
   refine own_s (g' := (mkF m 84 #[.val (.int p0_0), .val (.int p0_1), .val (.int p0_2), .val (.ref b933), .val (.int 3), .val (.long ss0), .second, .unset, .unset, .unset, .unset] [])) (fun _ kz => XS.lstore X1358.here hx rfl (hb hby at_82) rfl (l' := #[.val (.int p0_0), .val (.int p0_1), .val (.int p0_2), .val (.ref b933), .val (.int 3), .val (.long ss0), .second, .unset, .unset, .unset, .unset]) rfl kz) ?_
   show own_G p e below s _ _ _ T1358 (mkF m _ (own_L0_7 p0_0 p0_1 p0_2 b933 ss0 .unset .unset .unset .unset) _)
   refine own_s (g' := (mkF m 85 (own_L0_7 p0_0 p0_1 p0_2 b933 ss0 .unset .unset .unset .unset) [(.int 4)])) (fun _ kz => XS.iconst X1358.here hx rfl (hb hby at_84) kz) ?_
   obtain ⟨T1363, h1363, k1363, X1363, e1363, E1363, A1363, Ex1363, st1363⟩ := newPE (aty := .int) X1358 hx hZ ww0 e1358 (g := (mkF m 85 (own_L0_7 p0_0 p0_1 p0_2 b933 ss0 .unset .unset .unset .unset) [(.int 4)])) rfl (hb hby at_85) rfl (by decide) (cap := 4) (by decide) (by decide) (by decide) (by decide) (ad := "[I") (by decide)
   obtain ⟨b1363, ga1363⟩ : ∃ z, z = h1358.size := ⟨_, rfl⟩
   rw [← ga1363] at A1363 Ex1363 st1363
   have g_b1363 := Nat.le_trans (Nat.le_trans Z0 K1358.1) (Nat.le_of_eq ga1363.symm)
   have sz_b1363 := Nat.le_trans K1358.1 (Nat.le_of_eq ga1363.symm)
   have V1363 : Arv Z h1363 b1363 k1363 .int (4 : Int32) [(.int 0), (.int 0), (.int 0), (.int 0)] (.int 0) := (Arv.new A1363 (by decide)).pad (pad_rep [] (.int 0) 4)
   have K1363 := K1358.ext E1363
   refine own_s (g' := (mkF m 87 (own_L0_7 p0_0 p0_1 p0_2 b933 ss0 .unset .unset .unset .unset) [(.ref b1363)])) st1363 ?_
   refine own_s (g' := (mkF m 88 (own_L0_7 p0_0 p0_1 p0_2 b933 ss0 .unset .unset .unset .unset) [(.ref b1363), (.ref b1363)])) (fun _ kz => XS.dup X1363.here hx rfl (hb hby at_87) rfl rfl kz) ?_
   refine own_s (g' := (mkF m 89 (own_L0_7 p0_0 p0_1 p0_2 b933 ss0 .unset .unset .unset .unset) [(.int 0), (.ref b1363), (.ref b1363)])) (fun _ kz => XS.iconst X1363.here hx rfl (hb hby at_88) kz) ?_
   refine own_s (g' := (mkF m 90 (own_L0_7 p0_0 p0_1 p0_2 b933 ss0 .unset .unset .unset .unset) [(.ref b933), (.int 0), (.ref b1363), (.ref b1363)])) (fun _ kz => XS.aloadN X1363.here hx rfl (hb hby at_89) rfl rfl kz) ?_
   refine own_s (g' := (mkF m 91 (own_L0_7 p0_0 p0_1 p0_2 b933 ss0 .unset .unset .unset .unset) [(.int 0), (.ref b933), (.int 0), (.ref b1363), (.ref b1363)])) (fun _ kz => XS.iconst X1363.here hx rfl (hb hby at_90) kz) ?_
   have f1364 := (f1359.ext E1363)
   obtain ⟨cl1365, Ar1365, -, S1365, -, H1365, -⟩ := id f1364
   have in1365 := inb_of S1365 (j := (0 : Int32)) ⟨by decide, by decide⟩
   refine own_s (g' := (mkF m 92 (own_L0_7 p0_0 p0_1 p0_2 b933 ss0 .unset .unset .unset .unset) [(.int cc0), (.int 0), (.ref b1363), (.ref b1363)])) (X1363.iaload hx (j := (0 : Int32)) (v := (.int cc0)) (by rw [e1363]; exact Ar1365.1) (State.isArrayOf_alike hZ.alike Ar1365.2.1) Ar1365.2.2 in1365 (Has.at H1365 in1365 rfl) (g := (mkF m 91 (own_L0_7 p0_0 p0_1 p0_2 b933 ss0 .unset .unset .unset .unset) [(.int 0), (.ref b933), (.int 0), (.ref b1363), (.ref b1363)])) rfl rfl (hb hby at_91)) ?_
   obtain ⟨cl1366, Ar1366, q1366, S1366, M1366, H1366, G1366⟩ := id V1363
   obtain ⟨T1366, h1366, X1366, e1366, W1366, st1366⟩ := stI X1363 hx hZ e1363 Ar1366 (j := (0 : Int32)) (inb_of S1366 ⟨by decide, by decide⟩) (g := (mkF m 92 (own_L0_7 p0_0 p0_1 p0_2 b933 ss0 .unset .unset .unset .unset) [(.int cc0), (.int 0), (.ref b1363), (.ref b1363)])) rfl rfl (hb hby at_92)
   have f1367 : Arv Z h1366 b1363 k1363 .int (4 : Int32) [(.int cc0), (.int 0), (.int 0), (.int 0)] (.int 0) := Arv.set Ar1366 q1366 S1366 M1366 H1366 G1366 rfl W1366 0 rfl (Nat.le_of_ble_eq_true rfl)
   have K1366 := K1363.wr W1366 (Or.inr sz_b1363)
   have N1366 := Fr.snoc X1366 N1358 g_b1363
   refine own_s (g' := (mkF m 93 (own_L0_7 p0_0 p0_1 p0_2 b933 ss0 .unset .unset .unset .unset) [(.ref b1363)])) st1366 ?_
   refine own_s (g' := (mkF m 94 (own_L0_7 p0_0 p0_1 p0_2 b933 ss0 .unset .unset .unset .unset) [(.ref b1363), (.ref b1363)])) (fun _ kz => XS.dup X1366.here hx rfl (hb hby at_93) rfl rfl kz) ?_
   refine own_s (g' := (mkF m 95 (own_L0_7 p0_0 p0_1 p0_2 b933 ss0 .unset .unset .unset .unset) [(.int 1), (.ref b1363), (.ref b1363)])) (fun _ kz => XS.iconst X1366.here hx rfl (hb hby at_94) kz) ?_
   refine own_s (g' := (mkF m 96 (own_L0_7 p0_0 p0_1 p0_2 b933 ss0 .unset .unset .unset .unset) [(.ref b933), (.int 1), (.ref b1363), (.ref b1363)])) (fun _ kz => XS.aloadN X1366.here hx rfl (hb hby at_95) rfl rfl kz) ?_
   refine own_s (g' := (mkF m 97 (own_L0_7 p0_0 p0_1 p0_2 b933 ss0 .unset .unset .unset .unset) [(.int 1), (.ref b933), (.int 1), (.ref b1363), (.ref b1363)])) (fun _ kz => XS.iconst X1366.here hx rfl (hb hby at_96) kz) ?_
   have ne1368 : b933 ≠ b1363 := Nat.ne_of_lt (Nat.lt_of_lt_of_le (((((Ex933.wr W934).wr W936).wr W938).wr W940).wr W1358).lt (Nat.le_of_eq ga1363.symm))
   have f1369 := (f1364.other W1366 ne1368)
   obtain ⟨cl1370, Ar1370, -, S1370, -, H1370, -⟩ := id f1369
   have in1370 := inb_of S1370 (j := (1 : Int32)) ⟨by decide, by decide⟩
   refine own_s (g' := (mkF m 98 (own_L0_7 p0_0 p0_1 p0_2 b933 ss0 .unset .unset .unset .unset) [(.int cc1), (.int 1), (.ref b1363), (.ref b1363)])) (X1366.iaload hx (j := (1 : Int32)) (v := (.int cc1)) (by rw [e1366]; exact Ar1370.1) (State.isArrayOf_alike hZ.alike Ar1370.2.1) Ar1370.2.2 in1370 (Has.at H1370 in1370 rfl) (g := (mkF m 97 (own_L0_7 p0_0 p0_1 p0_2 b933 ss0 .unset .unset .unset .unset) [(.int 1), (.ref b933), (.int 1), (.ref b1363), (.ref b1363)])) rfl rfl (hb hby at_97)) ?_
   obtain ⟨cl1371, Ar1371, q1371, S1371, M1371, H1371, G1371⟩ := id f1367
   obtain ⟨T1371, h1371, X1371, e1371, W1371, st1371⟩ := stI X1366 hx hZ e1366 Ar1371 (j := (1 : Int32)) (inb_of S1371 ⟨by decide, by decide⟩) (g := (mkF m 98 (own_L0_7 p0_0 p0_1 p0_2 b933 ss0 .unset .unset .unset .unset) [(.int cc1), (.int 1), (.ref b1363), (.ref b1363)])) rfl rfl (hb hby at_98)
   have f1372 : Arv Z h1371 b1363 k1363 .int (4 : Int32) [(.int cc0), (.int cc1), (.int 0), (.int 0)] (.int 0) := Arv.set Ar1371 q1371 S1371 M1371 H1371 G1371 rfl W1371 1 rfl (Nat.le_of_ble_eq_true rfl)
   have K1371 := K1366.wr W1371 (Or.inr sz_b1363)
   have N1371 := Fr.snoc X1371 N1366 g_b1363
   refine own_s (g' := (mkF m 99 (own_L0_7 p0_0 p0_1 p0_2 b933 ss0 .unset .unset .unset .unset) [(.ref b1363)])) st1371 ?_
   refine own_s (g' := (mkF m 100 (own_L0_7 p0_0 p0_1 p0_2 b933 ss0 .unset .unset .unset .unset) [(.ref b1363), (.ref b1363)])) (fun _ kz => XS.dup X1371.here hx rfl (hb hby at_99) rfl rfl kz) ?_
   refine own_s (g' := (mkF m 101 (own_L0_7 p0_0 p0_1 p0_2 b933 ss0 .unset .unset .unset .unset) [(.int 2), (.ref b1363), (.ref b1363)])) (fun _ kz => XS.iconst X1371.here hx rfl (hb hby at_100) kz) ?_
   refine own_s (g' := (mkF m 102 (own_L0_7 p0_0 p0_1 p0_2 b933 ss0 .unset .unset .unset .unset) [(.ref b933), (.int 2), (.ref b1363), (.ref b1363)])) (fun _ kz => XS.aloadN X1371.here hx rfl (hb hby at_101) rfl rfl kz) ?_
   refine own_s (g' := (mkF m 103 (own_L0_7 p0_0 p0_1 p0_2 b933 ss0 .unset .unset .unset .unset) [(.int 2), (.ref b933), (.int 2), (.ref b1363), (.ref b1363)])) (fun _ kz => XS.iconst X1371.here hx rfl (hb hby at_102) kz) ?_
   have f1373 := (f1369.other W1371 ne1368)
   obtain ⟨cl1374, Ar1374, -, S1374, -, H1374, -⟩ := id f1373
   have in1374 := inb_of S1374 (j := (2 : Int32)) ⟨by decide, by decide⟩
   refine own_s (g' := (mkF m 104 (own_L0_7 p0_0 p0_1 p0_2 b933 ss0 .unset .unset .unset .unset) [(.int cc2), (.int 2), (.ref b1363), (.ref b1363)])) (X1371.iaload hx (j := (2 : Int32)) (v := (.int cc2)) (by rw [e1371]; exact Ar1374.1) (State.isArrayOf_alike hZ.alike Ar1374.2.1) Ar1374.2.2 in1374 (Has.at H1374 in1374 rfl) (g := (mkF m 103 (own_L0_7 p0_0 p0_1 p0_2 b933 ss0 .unset .unset .unset .unset) [(.int 2), (.ref b933), (.int 2), (.ref b1363), (.ref b1363)])) rfl rfl (hb hby at_103)) ?_
   obtain ⟨cl1375, Ar1375, q1375, S1375, M1375, H1375, G1375⟩ := id f1372
   obtain ⟨T1375, h1375, X1375, e1375, W1375, st1375⟩ := stI X1371 hx hZ e1371 Ar1375 (j := (2 : Int32)) (inb_of S1375 ⟨by decide, by decide⟩) (g := (mkF m 104 (own_L0_7 p0_0 p0_1 p0_2 b933 ss0 .unset .unset .unset .unset) [(.int cc2), (.int 2), (.ref b1363), (.ref b1363)])) rfl rfl (hb hby at_104)
   have f1376 : Arv Z h1375 b1363 k1363 .int (4 : Int32) [(.int cc0), (.int cc1), (.int cc2), (.int 0)] (.int 0) := Arv.set Ar1375 q1375 S1375 M1375 H1375 G1375 rfl W1375 2 rfl (Nat.le_of_ble_eq_true rfl)
   have K1375 := K1371.wr W1375 (Or.inr sz_b1363)
   have N1375 := Fr.snoc X1375 N1371 g_b1363
   refine own_s (g' := (mkF m 105 (own_L0_7 p0_0 p0_1 p0_2 b933 ss0 .unset .unset .unset .unset) [(.ref b1363)])) st1375 ?_
   refine own_s (g' := (mkF m 106 (own_L0_7 p0_0 p0_1 p0_2 b933 ss0 .unset .unset .unset .unset) [(.ref b1363), (.ref b1363)])) (fun _ kz => XS.dup X1375.here hx rfl (hb hby at_105) rfl rfl kz) ?_
   refine own_s (g' := (mkF m 107 (own_L0_7 p0_0 p0_1 p0_2 b933 ss0 .unset .unset .unset .unset) [(.int 3), (.ref b1363), (.ref b1363)])) (fun _ kz => XS.iconst X1375.here hx rfl (hb hby at_106) kz) ?_
   refine own_s (g' := (mkF m 108 (own_L0_7 p0_0 p0_1 p0_2 b933 ss0 .unset .unset .unset .unset) [(.ref b933), (.int 3), (.ref b1363), (.ref b1363)])) (fun _ kz => XS.aloadN X1375.here hx rfl (hb hby at_107) rfl rfl kz) ?_
   refine own_s (g' := (mkF m 109 (own_L0_7 p0_0 p0_1 p0_2 b933 ss0 .unset .unset .unset .unset) [(.int 3), (.ref b933), (.int 3), (.ref b1363), (.ref b1363)])) (fun _ kz => XS.iconst X1375.here hx rfl (hb hby at_108) kz) ?_
   have f1377 := (f1373.other W1375 ne1368)
   obtain ⟨cl1378, Ar1378, -, S1378, -, H1378, -⟩ := id f1377
   have in1378 := inb_of S1378 (j := (3 : Int32)) ⟨by decide, by decide⟩
   refine own_s (g' := (mkF m 110 (own_L0_7 p0_0 p0_1 p0_2 b933 ss0 .unset .unset .unset .unset) [(.int (cc3 + (1 : Int32))), (.int 3), (.ref b1363), (.ref b1363)])) (X1375.iaload hx (j := (3 : Int32)) (v := (.int (cc3 + (1 : Int32)))) (by rw [e1375]; exact Ar1378.1) (State.isArrayOf_alike hZ.alike Ar1378.2.1) Ar1378.2.2 in1378 (Has.at H1378 in1378 rfl) (g := (mkF m 109 (own_L0_7 p0_0 p0_1 p0_2 b933 ss0 .unset .unset .unset .unset) [(.int 3), (.ref b933), (.int 3), (.ref b1363), (.ref b1363)])) rfl rfl (hb hby at_109)) ?_
   obtain ⟨cl1379, Ar1379, q1379, S1379, M1379, H1379, G1379⟩ := id f1376
   obtain ⟨T1379, h1379, X1379, e1379, W1379, st1379⟩ := stI X1375 hx hZ e1375 Ar1379 (j := (3 : Int32)) (inb_of S1379 ⟨by decide, by decide⟩) (g := (mkF m 110 (own_L0_7 p0_0 p0_1 p0_2 b933 ss0 .unset .unset .unset .unset) [(.int (cc3 + (1 : Int32))), (.int 3), (.ref b1363), (.ref b1363)])) rfl rfl (hb hby at_110)
   have f1380 : Arv Z h1379 b1363 k1363 .int (4 : Int32) [(.int cc0), (.int cc1), (.int cc2), (.int (cc3 + (1 : Int32)))] (.int 0) := Arv.set Ar1379 q1379 S1379 M1379 H1379 G1379 rfl W1379 3 rfl (Nat.le_of_ble_eq_true rfl)
   have K1379 := K1375.wr W1379 (Or.inr sz_b1363)
   have N1379 := Fr.snoc X1379 N1375 g_b1363
   refine own_s (g' := (mkF m 111 (own_L0_7 p0_0 p0_1 p0_2 b933 ss0 .unset .unset .unset .unset) [(.ref b1363)])) st1379 ?_
   refine own_s (g' := (mkF m 113 (own_L0_7 p0_0 p0_1 p0_2 b933 ss0 (.val (.ref b1363)) .unset .unset .unset) [])) (fun _ kz => XS.astore X1379.here hx rfl (hb hby at_111) rfl rfl (l' := (own_L0_7 p0_0 p0_1 p0_2 b933 ss0 (.val (.ref b1363)) .unset .unset .unset)) rfl kz) ?_
   obtain ⟨T1381, h1381, X1381, e1381, E1381, A1381, D1381, -, st1381⟩ := newO X1379 hx hZ hown ww4 ww5 ww6 e1379 (g := (mkF m 113 (own_L0_7 p0_0 p0_1 p0_2 b933 ss0 (.val (.ref b1363)) .unset .unset .unset) [])) rfl (hb hby at_113) (by decide) (by decide)
   obtain ⟨b1381, ga1381⟩ : ∃ z, z = h1379.size := ⟨_, rfl⟩
   rw [← ga1381] at A1381 D1381 st1381
   have g_b1381 := Nat.le_trans (Nat.le_trans Z0 K1379.1) (Nat.le_of_eq ga1381.symm)
   have sz_b1381 := Nat.le_trans K1379.1 (Nat.le_of_eq ga1381.symm)
   have f1381_countOf : Fld Z h1381 b1381 "gallai/service/ResidualDegrees" "countOf" "[I" .null := D1381 (Or.inr ww23) (ty := (.array .int)) (by decide +kernel)
   have f1381_largest : Fld Z h1381 b1381 "gallai/service/ResidualDegrees" "largest" "I" (.int 0) := D1381 (Or.inl ww29) (ty := .int) (by decide +kernel)
   have f1381_atLeast : Fld Z h1381 b1381 "gallai/service/ResidualDegrees" "atLeast" "[I" .null := D1381 (Or.inr ww31) (ty := (.array .int)) (by decide +kernel)
   have f1381_sum : Fld Z h1381 b1381 "gallai/service/ResidualDegrees" "sum" "J" (.long 0) := D1381 (Or.inl ww33) (ty := .long) (by decide +kernel)
   have f1381_partnersOf : Fld Z h1381 b1381 "gallai/service/ResidualDegrees" "partnersOf" "[I" .null := D1381 (Or.inr ww35) (ty := (.array .int)) (by decide +kernel)
   have f1381_saved : Fld Z h1381 b1381 "gallai/service/ResidualDegrees" "saved" "[I" .null := D1381 (Or.inr ww37) (ty := (.array .int)) (by decide +kernel)
   have f1381_slack : Fld Z h1381 b1381 "gallai/service/ResidualDegrees" "slack" "[J" .null := D1381 (Or.inr ww47) (ty := (.array .long)) (by decide +kernel)
   have f1381_nextTight : Fld Z h1381 b1381 "gallai/service/ResidualDegrees" "nextTight" "[I" .null := D1381 (Or.inr ww49) (ty := (.array .int)) (by decide +kernel)
   have K1381 := K1379.ext E1381
   refine own_s (g' := (mkF m 116 (own_L0_7 p0_0 p0_1 p0_2 b933 ss0 (.val (.ref b1363)) .unset .unset .unset) [(.ref b1381)])) st1381 ?_
   refine own_s (g' := (mkF m 117 (own_L0_7 p0_0 p0_1 p0_2 b933 ss0 (.val (.ref b1363)) .unset .unset .unset) [(.ref b1381), (.ref b1381)])) (fun _ kz => XS.dup X1381.here hx rfl (hb hby at_116) rfl rfl kz) ?_
   refine own_s (g' := (mkF m 119 (own_L0_7 p0_0 p0_1 p0_2 b933 ss0 (.val (.ref b1363)) .unset .unset .unset) [(.ref b1363), (.ref b1381), (.ref b1381)])) (fun _ kz => XS.aload X1381.here hx rfl (hb hby at_117) rfl rfl kz) ?_
   refine own_s (g' := (mkF m 121 (own_L0_7 p0_0 p0_1 p0_2 b933 ss0 (.val (.ref b1363)) .unset .unset .unset) [(.long ss0), (.ref b1363), (.ref b1381), (.ref b1381)])) (fun _ kz => XS.lload X1381.here hx rfl (hb hby at_119) rfl kz) ?_
   have hi1382 := own_inc (c := cc3) hb3.1 hb3.2
   have hi1383 := own_inc (c := cc2) hb2.1 hb2.2
   have f1385 := (f1380.ext E1381)
   have f1386 := (((((Ex1363.wr W1366).wr W1371).wr W1375).wr W1379).ext E1381)
   obtain ⟨_, _, ⟨T1384, L1384, k1384, n1384⟩, -, X1384, ⟨Lc1384, hQ1384, l1384, y1384, z1384⟩, st1384⟩ := X1381.specialBack hx (y := (⟨"gallai/service/ResidualDegrees", "<init>", "([IJ)V"⟩ : MethodName)) rfl hown (mvT hZ ww7) (mvT hZ ww8) (mvT hZ ww9) (by decide) (backOf (W := 1) (rm1L3 l Z a0 hw [] b1381 b1363 ss0 (0 : Int32) (0 : Int64) k1363 cc0 cc1 cc2 (cc3 + (1 : Int32)) h1381 n0 (Nat.le_trans Z0 K1381.1) f1381_countOf f1381_largest f1381_atLeast f1381_sum f1381_partnersOf f1381_saved f1381_slack f1381_nextTight f1386 A1381 f1385 g_b1381 (hi1382.1 : ¬ (cc3 + (1 : Int32)) = (0 : Int32))) hZ ww9 ww6 (by decide) (by decide)) (g := (mkF m 121 (own_L0_7 p0_0 p0_1 p0_2 b933 ss0 (.val (.ref b1363)) .unset .unset .unset) [(.long ss0), (.ref b1363), (.ref b1381), (.ref b1381)])) rfl (by rw [hml]; rfl) (Steps.refl _) (a := b1381) (argsL := [(.ref b1363), (.long ss0)]) (rest := [(.ref b1381)]) (lenOf pd___IJ_V rfl) rfl (by show 2 * 0 + _ ≤ _; exact Nat.le_of_eq rfl) (hb hby at_121) (fun _ _ => ⟨rfl, e1381, (by decide : 3 + 6 ≤ _), (by decide : 22 + 26 ≤ _)⟩)
   dsimp only [Pt.U, Pt.locs, Pt.cells, Pt.slots] at X1384 l1384 y1384 z1384 st1384 hQ1384
   subst l1384 y1384 z1384
   obtain ⟨bf0_1384, bf1_1384, bf2_1384, bf3_1384, bf4_1384, bf5_1384, kf0_1384, kf1_1384, kf2_1384, kf3_1384, kf4_1384, kf5_1384, hs_bf0_1384, hs_bf1_1384, hs_bf2_1384, hs_bf3_1384, hs_bf4_1384, hs_bf5_1384, ne_bf0_1384_bf1_1384, ne_bf0_1384_bf2_1384, ne_bf0_1384_bf3_1384, ne_bf0_1384_bf4_1384, ne_bf0_1384_bf5_1384, ne_bf1_1384_bf2_1384, ne_bf1_1384_bf3_1384, ne_bf1_1384_bf4_1384, ne_bf1_1384_bf5_1384, ne_bf2_1384_bf3_1384, ne_bf2_1384_bf4_1384, ne_bf2_1384_bf5_1384, ne_bf3_1384_bf4_1384, ne_bf3_1384_bf5_1384, ne_bf4_1384_bf5_1384, rfl, N1384q, K1384q, f1387, f1388, f1389, f1390, f1391, f1392, f1393, f1394, f1395, f1396, f1397, f1398, f1399, f1400, f1401⟩ := hQ1384
   have g_bf0_1384 := Nat.le_trans (Nat.le_trans Z0 K1381.1) hs_bf0_1384
   have sz_bf0_1384 := Nat.le_trans K1381.1 hs_bf0_1384
   have g_bf1_1384 := Nat.le_trans (Nat.le_trans Z0 K1381.1) hs_bf1_1384
   have sz_bf1_1384 := Nat.le_trans K1381.1 hs_bf1_1384
   have g_bf2_1384 := Nat.le_trans (Nat.le_trans Z0 K1381.1) hs_bf2_1384
   have sz_bf2_1384 := Nat.le_trans K1381.1 hs_bf2_1384
   have g_bf3_1384 := Nat.le_trans (Nat.le_trans Z0 K1381.1) hs_bf3_1384
   have sz_bf3_1384 := Nat.le_trans K1381.1 hs_bf3_1384
   have g_bf4_1384 := Nat.le_trans (Nat.le_trans Z0 K1381.1) hs_bf4_1384
   have sz_bf4_1384 := Nat.le_trans K1381.1 hs_bf4_1384
   have g_bf5_1384 := Nat.le_trans (Nat.le_trans Z0 K1381.1) hs_bf5_1384
   have sz_bf5_1384 := Nat.le_trans K1381.1 hs_bf5_1384
   have K1384 := K1381.trans K1384q (allS (Or.inr sz_b1381) all0)
   have N1384 := Fr.app N1379 N1384q
   refine own_trans (g' := (mkF m 124 (own_L0_7 p0_0 p0_1 p0_2 b933 ss0 (.val (.ref b1363)) .unset .unset .unset) [(.ref b1381)])) st1384 ?_
   refine own_s (g' := (mkF m 126 (own_L0_7 p0_0 p0_1 p0_2 b933 ss0 (.val (.ref b1363)) (.val (.ref b1381)) .unset .unset) [])) (fun _ kz => XS.astore X1384.here hx rfl (hb hby at_124) rfl rfl (l' := (own_L0_7 p0_0 p0_1 p0_2 b933 ss0 (.val (.ref b1363)) (.val (.ref b1381)) .unset .unset)) rfl kz) ?_
   show own_G p e below s _ _ _ T1384 (mkF m _ (own_L0_8 p0_0 p0_1 p0_2 b933 b1363 b1381 ss0 .unset .unset) _)
   refine own_s (g' := (mkF m 128 (own_L0_8 p0_0 p0_1 p0_2 b933 b1363 b1381 ss0 .unset .unset) [(.ref b1381)])) (fun _ kz => XS.aload X1384.here hx rfl (hb hby at_126) rfl rfl kz) ?_
   refine own_s (g' := (mkF m 130 (own_L0_8 p0_0 p0_1 p0_2 b933 b1363 b1381 ss0 .unset .unset) [(.int 3), (.ref b1381)])) (fun _ kz => XS.iload X1384.here hx rfl (hb hby at_128) rfl kz) ?_
   by_cases c1402 : cc3 = (0 : Int32)
   ·skip
    have ne1404 : b1381 ≠ bf0_1384 := Nat.ne_of_lt (Nat.lt_of_lt_of_le A1381.lt hs_bf0_1384)
    have ne1405 : b1381 ≠ bf1_1384 := Nat.ne_of_lt (Nat.lt_of_lt_of_le A1381.lt hs_bf1_1384)
    obtain ⟨cq1403, kq1403, q1403a, q1403b, q1403c⟩ := isOf hZ rfl f1393
    obtain ⟨_, _, ⟨T1403, L1403, k1403, n1403⟩, -, X1403, ⟨Lc1403, hQ1403, l1403, y1403, z1403⟩, st1403⟩ := X1384.virtualBack hx (y := (⟨"gallai/service/ResidualDegrees", "lower", "(I)V"⟩ : MethodName)) (z := (⟨"gallai/service/ResidualDegrees", "lower", "(I)V"⟩ : MethodName)) hown (mvT hZ ww50) (mvT hZ ww51) (notFace_of_selects (args := #[]) (mvT hZ ww53)) (mvT hZ ww53) (mvT hZ ww52) (by decide) (backOf (W := 0) (rm6L3d3 l Z a0 hw [] b1381 bf0_1384 bf1_1384 ss0 bf2_1384 bf3_1384 bf4_1384 bf5_1384 kf0_1384 cc0 cc1 cc2 (cc3 + (1 : Int32)) kf1_1384 (5 : Int32) (0 : Int32) ((((0 : Int32) + (cc3 + (1 : Int32))) + cc2) + cc1) (((0 : Int32) + (cc3 + (1 : Int32))) + cc2) ((0 : Int32) + (cc3 + (1 : Int32))) (0 : Int32) T1384.heap n0 (Nat.le_trans Z0 K1384.1) f1394 f1396 f1397 f1395 f1398 f1399 f1400 f1401 f1393 f1387 f1388 g_bf0_1384 g_bf1_1384 g_b1381 ne1404 (Ne.symm ne_bf0_1384_bf1_1384) ne1405 (hi1383.1 : ¬ (cc2 + (1 : Int32)) = (0 : Int32)) (by decide)) hZ ww54 ww6 (by decide) (by decide)) q1403a q1403c (g := (mkF m 130 (own_L0_8 p0_0 p0_1 p0_2 b933 b1363 b1381 ss0 .unset .unset) [(.int 3), (.ref b1381)])) rfl (by rw [hml]; rfl) (Steps.refl _) (argsL := [(.int 3)]) (rest := []) (lenOf pd__I_V rfl) rfl (by show 2 * 0 + _ ≤ _; exact Nat.le_of_eq rfl) (hb hby at_130) (fun _ _ => ⟨rfl, rfl, (by decide : 9 + 0 ≤ _), (by decide : 48 + 0 ≤ _)⟩)
    dsimp only [Pt.U, Pt.locs, Pt.cells, Pt.slots] at X1403 l1403 y1403 z1403 st1403 hQ1403
    subst l1403 y1403 z1403
    obtain ⟨rfl, N1403q, K1403q, f1406, f1407, f1408, f1409, f1410, f1411, f1412, f1413, f1414, f1415, f1416⟩ := hQ1403
    have f1417 : Fld Z T1403.heap b1381 "gallai/service/ResidualDegrees" "largest" "I" (.int 2) := (show (w6L3d3_largest (cc3 + (1 : Int32))) = (2 : Int32) from (if_pos (((own_pm cc3).trans c1402) : ((cc3 + (1 : Int32)) - (1 : Int32)) = (0 : Int32)))) ▸ f1416
    have K1403 := K1384.trans K1403q (allS (Or.inr sz_bf0_1384) (allS (Or.inr sz_bf1_1384) (allS (Or.inr sz_b1381) all0)))
    have N1403 := Fr.app N1384 N1403q
    refine own_trans (g' := (mkF m 133 (own_L0_8 p0_0 p0_1 p0_2 b933 b1363 b1381 ss0 .unset .unset) [])) st1403 ?_
    refine own_s (g' := (mkF m 134 (own_L0_8 p0_0 p0_1 p0_2 b933 b1363 b1381 ss0 .unset .unset) [(.ref b933)])) (fun _ kz => XS.aloadN X1403.here hx rfl (hb hby at_133) rfl rfl kz) ?_
    refine own_s (g' := (mkF m 136 (own_L0_8 p0_0 p0_1 p0_2 b933 b1363 b1381 ss0 .unset .unset) [(.int 3), (.ref b933)])) (fun _ kz => XS.iload X1403.here hx rfl (hb hby at_134) rfl kz) ?_
    refine own_s (g' := (mkF m 137 (own_L0_8 p0_0 p0_1 p0_2 b933 b1363 b1381 ss0 .unset .unset) [(.ref b933), (.int 3), (.ref b933)])) (fun _ kz => XS.aloadN X1403.here hx rfl (hb hby at_136) rfl rfl kz) ?_
    refine own_s (g' := (mkF m 139 (own_L0_8 p0_0 p0_1 p0_2 b933 b1363 b1381 ss0 .unset .unset) [(.int 3), (.ref b933), (.int 3), (.ref b933)])) (fun _ kz => XS.iload X1403.here hx rfl (hb hby at_137) rfl kz) ?_
    have ne1418 : b933 ≠ b1381 := Nat.ne_of_lt (Nat.lt_of_lt_of_le ((((((((((Ex933.wr W934).wr W936).wr W938).wr W940).wr W1358).ext E1363).wr W1366).wr W1371).wr W1375).wr W1379).lt (Nat.le_of_eq ga1381.symm))
    have ne1419 : b933 ≠ bf0_1384 := Nat.ne_of_lt (Nat.lt_of_lt_of_le (((((((((((Ex933.wr W934).wr W936).wr W938).wr W940).wr W1358).ext E1363).wr W1366).wr W1371).wr W1375).wr W1379).ext E1381).lt hs_bf0_1384)
    have ne1420 : b933 ≠ bf1_1384 := Nat.ne_of_lt (Nat.lt_of_lt_of_le (((((((((((Ex933.wr W934).wr W936).wr W938).wr W940).wr W1358).ext E1363).wr W1366).wr W1371).wr W1375).wr W1379).ext E1381).lt hs_bf1_1384)
    have f1421 := ((((f1377.other W1379 ne1368).ext E1381).keep K1384q (ninS ne1418 nin0)).keep K1403q (ninS ne1419 (ninS ne1420 (ninS ne1418 nin0))))
    obtain ⟨cl1422, Ar1422, -, S1422, -, H1422, -⟩ := id f1421
    have in1422 := inb_of S1422 (j := (3 : Int32)) ⟨by decide, by decide⟩
    refine own_s (g' := (mkF m 140 (own_L0_8 p0_0 p0_1 p0_2 b933 b1363 b1381 ss0 .unset .unset) [(.int (cc3 + (1 : Int32))), (.int 3), (.ref b933)])) (X1403.iaload hx (j := (3 : Int32)) (v := (.int (cc3 + (1 : Int32)))) Ar1422.1 (State.isArrayOf_alike hZ.alike Ar1422.2.1) Ar1422.2.2 in1422 (Has.at H1422 in1422 rfl) (g := (mkF m 139 (own_L0_8 p0_0 p0_1 p0_2 b933 b1363 b1381 ss0 .unset .unset) [(.int 3), (.ref b933), (.int 3), (.ref b933)])) rfl rfl (hb hby at_139)) ?_
    refine own_s (g' := (mkF m 141 (own_L0_8 p0_0 p0_1 p0_2 b933 b1363 b1381 ss0 .unset .unset) [(.int 1), (.int (cc3 + (1 : Int32))), (.int 3), (.ref b933)])) (fun _ kz => XS.iconst X1403.here hx rfl (hb hby at_140) kz) ?_
    refine own_s (g' := (mkF m 142 (own_L0_8 p0_0 p0_1 p0_2 b933 b1363 b1381 ss0 .unset .unset) [(.int ((cc3 + (1 : Int32)) - (1 : Int32))), (.int 3), (.ref b933)])) (fun _ kz => XS.isub X1403.here hx rfl (hb hby at_141) rfl kz) ?_
    obtain ⟨cl1423, Ar1423, q1423, S1423, M1423, H1423, G1423⟩ := id f1421
    obtain ⟨T1423, h1423, X1423, e1423, W1423, st1423⟩ := stI X1403 hx hZ rfl Ar1423 (j := (3 : Int32)) (inb_of S1423 ⟨by decide, by decide⟩) (g := (mkF m 142 (own_L0_8 p0_0 p0_1 p0_2 b933 b1363 b1381 ss0 .unset .unset) [(.int ((cc3 + (1 : Int32)) - (1 : Int32))), (.int 3), (.ref b933)])) rfl rfl (hb hby at_142)
    have f1424 : Arv Z h1423 b933 k933 .int (4 : Int32) [(.int cc0), (.int cc1), (.int cc2), (.int ((cc3 + (1 : Int32)) - (1 : Int32)))] (.int 0) := Arv.set Ar1423 q1423 S1423 M1423 H1423 G1423 rfl W1423 3 rfl (Nat.le_of_ble_eq_true rfl)
    have K1423 := K1403.wr W1423 (Or.inr sz_b933)
    have N1423 := Fr.snoc X1423 N1403 g_b933
    refine own_s (g' := (mkF m 143 (own_L0_8 p0_0 p0_1 p0_2 b933 b1363 b1381 ss0 .unset .unset) [])) st1423 ?_
    refine own_s (g' := (mkF m 144 (own_L0_8 p0_0 p0_1 p0_2 b933 b1363 b1381 ss0 .unset .unset) [(.ref b933)])) (fun _ kz => XS.aloadN X1423.here hx rfl (hb hby at_143) rfl rfl kz) ?_
    refine own_s (g' := (mkF m 146 (own_L0_8 p0_0 p0_1 p0_2 b933 b1363 b1381 ss0 .unset .unset) [(.int 3), (.ref b933)])) (fun _ kz => XS.iload X1423.here hx rfl (hb hby at_144) rfl kz) ?_
    refine own_s (g' := (mkF m 147 (own_L0_8 p0_0 p0_1 p0_2 b933 b1363 b1381 ss0 .unset .unset) [(.int 1), (.int 3), (.ref b933)])) (fun _ kz => XS.iconst X1423.here hx rfl (hb hby at_146) kz) ?_
    refine own_s (g' := (mkF m 148 (own_L0_8 p0_0 p0_1 p0_2 b933 b1363 b1381 ss0 .unset .unset) [(.int ((3 : Int32) - (1 : Int32))), (.ref b933)])) (fun _ kz => XS.isub X1423.here hx rfl (hb hby at_147) rfl kz) ?_
    rw [show ((3 : Int32) - (1 : Int32)) = (2 : Int32) from by decide]
    refine own_s (g' := (mkF m 149 (own_L0_8 p0_0 p0_1 p0_2 b933 b1363 b1381 ss0 .unset .unset) [(.ref b933), (.int 2), (.ref b933)])) (fun _ kz => XS.aloadN X1423.here hx rfl (hb hby at_148) rfl rfl kz) ?_
    refine own_s (g' := (mkF m 151 (own_L0_8 p0_0 p0_1 p0_2 b933 b1363 b1381 ss0 .unset .unset) [(.int 3), (.ref b933), (.int 2), (.ref b933)])) (fun _ kz => XS.iload X1423.here hx rfl (hb hby at_149) rfl kz) ?_
    refine own_s (g' := (mkF m 152 (own_L0_8 p0_0 p0_1 p0_2 b933 b1363 b1381 ss0 .unset .unset) [(.int 1), (.int 3), (.ref b933), (.int 2), (.ref b933)])) (fun _ kz => XS.iconst X1423.here hx rfl (hb hby at_151) kz) ?_
    refine own_s (g' := (mkF m 153 (own_L0_8 p0_0 p0_1 p0_2 b933 b1363 b1381 ss0 .unset .unset) [(.int ((3 : Int32) - (1 : Int32))), (.ref b933), (.int 2), (.ref b933)])) (fun _ kz => XS.isub X1423.here hx rfl (hb hby at_152) rfl kz) ?_
    rw [show ((3 : Int32) - (1 : Int32)) = (2 : Int32) from by decide]
    obtain ⟨cl1425, Ar1425, -, S1425, -, H1425, -⟩ := id f1424
    have in1425 := inb_of S1425 (j := (2 : Int32)) ⟨by decide, by decide⟩
    refine own_s (g' := (mkF m 154 (own_L0_8 p0_0 p0_1 p0_2 b933 b1363 b1381 ss0 .unset .unset) [(.int cc2), (.int 2), (.ref b933)])) (X1423.iaload hx (j := (2 : Int32)) (v := (.int cc2)) (by rw [e1423]; exact Ar1425.1) (State.isArrayOf_alike hZ.alike Ar1425.2.1) Ar1425.2.2 in1425 (Has.at H1425 in1425 rfl) (g := (mkF m 153 (own_L0_8 p0_0 p0_1 p0_2 b933 b1363 b1381 ss0 .unset .unset) [(.int 2), (.ref b933), (.int 2), (.ref b933)])) rfl rfl (hb hby at_153)) ?_
    refine own_s (g' := (mkF m 155 (own_L0_8 p0_0 p0_1 p0_2 b933 b1363 b1381 ss0 .unset .unset) [(.int 1), (.int cc2), (.int 2), (.ref b933)])) (fun _ kz => XS.iconst X1423.here hx rfl (hb hby at_154) kz) ?_
    refine own_s (g' := (mkF m 156 (own_L0_8 p0_0 p0_1 p0_2 b933 b1363 b1381 ss0 .unset .unset) [(.int (cc2 + (1 : Int32))), (.int 2), (.ref b933)])) (fun _ kz => XS.iadd X1423.here hx rfl (hb hby at_155) rfl kz) ?_
    obtain ⟨cl1426, Ar1426, q1426, S1426, M1426, H1426, G1426⟩ := id f1424
    obtain ⟨T1426, h1426, X1426, e1426, W1426, st1426⟩ := stI X1423 hx hZ e1423 Ar1426 (j := (2 : Int32)) (inb_of S1426 ⟨by decide, by decide⟩) (g := (mkF m 156 (own_L0_8 p0_0 p0_1 p0_2 b933 b1363 b1381 ss0 .unset .unset) [(.int (cc2 + (1 : Int32))), (.int 2), (.ref b933)])) rfl rfl (hb hby at_156)
    have f1427 : Arv Z h1426 b933 k933 .int (4 : Int32) [(.int cc0), (.int cc1), (.int (cc2 + (1 : Int32))), (.int ((cc3 + (1 : Int32)) - (1 : Int32)))] (.int 0) := Arv.set Ar1426 q1426 S1426 M1426 H1426 G1426 rfl W1426 2 rfl (Nat.le_of_ble_eq_true rfl)
    have K1426 := K1423.wr W1426 (Or.inr sz_b933)
    have N1426 := Fr.snoc X1426 N1423 g_b933
    refine own_s (g' := (mkF m 157 (own_L0_8 p0_0 p0_1 p0_2 b933 b1363 b1381 ss0 .unset .unset) [])) st1426 ?_
    have f1428 := ((f1406.other W1423 (Ne.symm ne1419)).other W1426 (Ne.symm ne1419))
    rw [own_pm cc3] at f1428
    rw [own_pm cc3] at f1427
    refine own_s (g' := (mkF m 159 (own_L0_8 p0_0 p0_1 p0_2 b933 b1363 b1381 ss0 .unset .unset) [(.ref b1381)])) (fun _ kz => XS.aload X1426.here hx rfl (hb hby at_157) rfl rfl kz) ?_
    have f1430 := ((f1415.other W1423 (Or.inl (Ne.symm ne1418))).other W1426 (Or.inl (Ne.symm ne1418)))
    have f1431 := ((f1408.wr W1423).wr W1426)
    obtain ⟨cq1429, kq1429, q1429a, q1429b, q1429c⟩ := isOf hZ e1426 f1431
    obtain ⟨_, _, ⟨T1429, L1429, k1429, n1429⟩, -, X1429, ⟨Lc1429, hQ1429, l1429, y1429, z1429⟩, st1429⟩ := X1426.virtualBack hx (y := (⟨"gallai/service/ResidualDegrees", "sum", "()J"⟩ : MethodName)) (z := (⟨"gallai/service/ResidualDegrees", "sum", "()J"⟩ : MethodName)) hown (mvT hZ ww55) (mvT hZ ww56) (notFace_of_selects (args := #[]) (mvT hZ ww58)) (mvT hZ ww58) (mvT hZ ww57) (by decide) (backOf (W := 0) (rm7 l Z a0 hw [] b1381 (ss0 - (1 : Int64)) h1426 n0 (Nat.le_trans Z0 K1426.1) f1430) hZ ww59 ww6 (by decide) (by decide)) q1429a q1429c (g := (mkF m 159 (own_L0_8 p0_0 p0_1 p0_2 b933 b1363 b1381 ss0 .unset .unset) [(.ref b1381)])) rfl (by rw [hml]; rfl) (Steps.refl _) (argsL := []) (rest := []) (lenOf pd___J rfl) rfl (by show 2 * 0 + _ ≤ _; exact Nat.le_of_eq rfl) (hb hby at_159) (fun _ _ => ⟨rfl, e1426, (by decide : 9 + 0 ≤ _), (by decide : 48 + 0 ≤ _)⟩)
    dsimp only [Pt.U, Pt.locs, Pt.cells, Pt.slots] at X1429 l1429 y1429 z1429 st1429 hQ1429
    subst l1429 y1429 z1429
    obtain ⟨rfl, N1429q, eh1429⟩ := hQ1429
    have N1429 := Fr.app N1426 N1429q
    refine own_trans (g' := (mkF m 162 (own_L0_8 p0_0 p0_1 p0_2 b933 b1363 b1381 ss0 .unset .unset) [(.long (ss0 - (1 : Int64)))])) st1429 ?_
    refine own_s (g' := (mkF m 164 (own_L0_8 p0_0 p0_1 p0_2 b933 b1363 b1381 ss0 .unset .unset) [(.long ss0), (.long (ss0 - (1 : Int64)))])) (fun _ kz => XS.lload X1429.here hx rfl (hb hby at_162) rfl kz) ?_
    refine own_s (g' := (mkF m 165 (own_L0_8 p0_0 p0_1 p0_2 b933 b1363 b1381 ss0 .unset .unset) [(.long 1), (.long ss0), (.long (ss0 - (1 : Int64)))])) (fun _ kz => XS.lconst X1429.here hx rfl (hb hby at_164) kz) ?_
    refine own_s (g' := (mkF m 166 (own_L0_8 p0_0 p0_1 p0_2 b933 b1363 b1381 ss0 .unset .unset) [(.long (ss0 - (1 : Int64))), (.long (ss0 - (1 : Int64)))])) (fun _ kz => XS.lsub X1429.here hx rfl (hb hby at_165) rfl kz) ?_
    refine own_s (g' := (mkF m 167 (own_L0_8 p0_0 p0_1 p0_2 b933 b1363 b1381 ss0 .unset .unset) [(.int (lcmpW (ss0 - (1 : Int64)) (ss0 - (1 : Int64))))])) (fun _ kz => XS.lcmp X1429.here hx rfl (hb hby at_166) rfl kz) ?_
    refine own_s (g' := (mkF m 170 (own_L0_8 p0_0 p0_1 p0_2 b933 b1363 b1381 ss0 .unset .unset) [])) (fun _ kz => XS.ifNo X1429.here hx rfl (hb hby at_167) rfl ((if0 _ _).trans (teq ((lw_eq (ss0 - (1 : Int64)) (ss0 - (1 : Int64))).mpr rfl)).2) kz) ?_
    refine own_s (g' := (mkF m 172 (own_L0_8 p0_0 p0_1 p0_2 b933 b1363 b1381 ss0 .unset .unset) [(.ref b1381)])) (fun _ kz => XS.aload X1429.here hx rfl (hb hby at_170) rfl rfl kz) ?_
    have f1433 := ((f1417.other W1423 (Or.inl (Ne.symm ne1418))).other W1426 (Or.inl (Ne.symm ne1418)))
    obtain ⟨cq1432, kq1432, q1432a, q1432b, q1432c⟩ := isOf hZ eh1429 f1431
    obtain ⟨_, _, ⟨T1432, L1432, k1432, n1432⟩, -, X1432, ⟨Lc1432, hQ1432, l1432, y1432, z1432⟩, st1432⟩ := X1429.virtualBack hx (y := (⟨"gallai/service/ResidualDegrees", "largest", "()I"⟩ : MethodName)) (z := (⟨"gallai/service/ResidualDegrees", "largest", "()I"⟩ : MethodName)) hown (mvT hZ ww60) (mvT hZ ww61) (notFace_of_selects (args := #[]) (mvT hZ ww63)) (mvT hZ ww63) (mvT hZ ww62) (by decide) (backOf (W := 0) (rm8 l Z a0 hw [] b1381 (2 : Int32) h1426 n0 (Nat.le_trans Z0 K1426.1) f1433) hZ ww64 ww6 (by decide) (by decide)) q1432a q1432c (g := (mkF m 172 (own_L0_8 p0_0 p0_1 p0_2 b933 b1363 b1381 ss0 .unset .unset) [(.ref b1381)])) rfl (by rw [hml]; rfl) (Steps.refl _) (argsL := []) (rest := []) (lenOf pd___I rfl) rfl (by show 2 * 0 + _ ≤ _; exact Nat.le_of_eq rfl) (hb hby at_172) (fun _ _ => ⟨rfl, eh1429, (by decide : 9 + 0 ≤ _), (by decide : 48 + 0 ≤ _)⟩)
    dsimp only [Pt.U, Pt.locs, Pt.cells, Pt.slots] at X1432 l1432 y1432 z1432 st1432 hQ1432
    subst l1432 y1432 z1432
    obtain ⟨rfl, N1432q, eh1432⟩ := hQ1432
    have N1432 := Fr.app N1429 N1432q
    refine own_trans (g' := (mkF m 175 (own_L0_8 p0_0 p0_1 p0_2 b933 b1363 b1381 ss0 .unset .unset) [(.int 2)])) st1432 ?_
    refine own_s (g' := (mkF m 176 (own_L0_8 p0_0 p0_1 p0_2 b933 b1363 b1381 ss0 .unset .unset) [(.ref b933), (.int 2)])) (fun _ kz => XS.aloadN X1432.here hx rfl (hb hby at_175) rfl rfl kz) ?_
    obtain ⟨_, _, ⟨T1434, L1434, k1434, n1434⟩, -, X1434, ⟨Lc1434, hQ1434, l1434, y1434, z1434⟩, st1434⟩ := Jvm.LawKit.callS X1432 hx (y := (⟨"gallai/service/ResidualDegreesLowerPinLaw", "top", "([I)I"⟩ : MethodName)) hown (mvT hZ ww65) (mvT hZ ww66) (mvT hZ ww67) (mvT hZ ww68) (by decide) (backOf (W := 1) (rm9 l Z a0 hw [] b933 k933 cc0 cc1 (cc2 + (1 : Int32)) cc3 h1426 n0 (Nat.le_trans Z0 K1426.1) f1427) hZ ww68 ww67 (by decide) (by decide)) (g := (mkF m 176 (own_L0_8 p0_0 p0_1 p0_2 b933 b1363 b1381 ss0 .unset .unset) [(.ref b933), (.int 2)])) rfl (by rw [hml]; rfl) (argsL := [(.ref b933)]) (rest := [(.int 2)]) (lenOf pd___I_I rfl) rfl (by show 2 * 0 + _ ≤ _; exact Nat.le_of_eq rfl) (hb hby at_176) (fun _ _ => ⟨rfl, eh1432, (by decide : 9 + 0 ≤ _), (by decide : 48 + 0 ≤ _)⟩)
    dsimp only [Pt.U, Pt.locs, Pt.cells, Pt.slots] at X1434 l1434 y1434 z1434 st1434 hQ1434
    subst l1434 y1434 z1434
    obtain ⟨rfl, N1434q, eh1434⟩ := hQ1434
    have N1434 := Fr.app N1432 N1434q
    refine own_s (g' := (mkF m 179 (own_L0_8 p0_0 p0_1 p0_2 b933 b1363 b1381 ss0 .unset .unset) [(.int (r9 cc1 (cc2 + (1 : Int32)) cc3)), (.int 2)])) st1434 ?_
    rw [show (r9 cc1 (cc2 + (1 : Int32)) cc3) = (2 : Int32) from ((if_neg ((own_eqltI (Eq.symm c1402)) : ¬ (0 : Int32) < cc3)).trans (if_pos (hi1383.2.1 : (0 : Int32) < (cc2 + (1 : Int32)))))]
    refine own_s (g' := (mkF m 182 (own_L0_8 p0_0 p0_1 p0_2 b933 b1363 b1381 ss0 .unset .unset) [])) (fun _ kz => XS.icmpNo X1434.here hx rfl (hb hby at_179) rfl (teq ((by decide) : (2 : Int32) = (2 : Int32))).2 kz) ?_
    refine own_s (g' := (mkF m 183 (own_L0_8 p0_0 p0_1 p0_2 b933 b1363 b1381 ss0 .unset .unset) [(.int 1)])) (fun _ kz => XS.iconst X1434.here hx rfl (hb hby at_182) kz) ?_
    refine own_s (g' := (mkF m 187 (own_L0_8 p0_0 p0_1 p0_2 b933 b1363 b1381 ss0 .unset .unset) [(.int 1)])) (fun _ kz => XS.goto X1434.here hx rfl (pc0 := 183) (pc' := 187) rfl (hb hby at_183) (by decide) (by decide) kz) ?_
    refine own_s (g' := (mkF m 189 (own_L0_8 p0_0 p0_1 p0_2 b933 b1363 b1381 ss0 (.val (.int 1)) .unset) [])) (fun _ kz => XS.istore X1434.here hx rfl (hb hby at_187) rfl (l' := (own_L0_8 p0_0 p0_1 p0_2 b933 b1363 b1381 ss0 (.val (.int 1)) .unset)) rfl kz) ?_
    have f1435 := ((f1407.other W1423 (Ne.symm ne1420)).other W1426 (Ne.symm ne1420))
    have f1436 := ((f1409.other W1423 (Or.inl (Ne.symm ne1418))).other W1426 (Or.inl (Ne.symm ne1418)))
    have f1437 := ((f1410.other W1423 (Or.inl (Ne.symm ne1418))).other W1426 (Or.inl (Ne.symm ne1418)))
    have f1438 := ((f1411.other W1423 (Or.inl (Ne.symm ne1418))).other W1426 (Or.inl (Ne.symm ne1418)))
    have f1439 := ((f1412.other W1423 (Or.inl (Ne.symm ne1418))).other W1426 (Or.inl (Ne.symm ne1418)))
    have f1440 := ((f1413.other W1423 (Or.inl (Ne.symm ne1418))).other W1426 (Or.inl (Ne.symm ne1418)))
    have f1441 := ((f1414.other W1423 (Or.inl (Ne.symm ne1418))).other W1426 (Or.inl (Ne.symm ne1418)))
    exact own_cutA2 l Z a0 hw (.val (.int p0_0)) (.val (.int p0_1)) p0_2 b933 (.val (.int 3)) ss0 (.val (.ref b1363)) b1381 bf0_1384 bf1_1384 bf2_1384 bf3_1384 bf4_1384 bf5_1384 k933 cc0 cc1 (cc2 + (1 : Int32)) cc3 kf0_1384 kf1_1384 (5 : Int32) (0 : Int32) ((((0 : Int32) + (cc3 + (1 : Int32))) + cc2) + cc1) (((0 : Int32) + (cc3 + (1 : Int32))) + cc2) (((0 : Int32) + (cc3 + (1 : Int32))) - (1 : Int32)) (0 : Int32) (X1434.more (by decide) (by decide)) hx hZ hby hml hown hlk hret h1426 n0 eh1434 (Nat.le_trans Z0 K1426.1) N1434 f1436 f1437 f1430 f1433 f1438 f1439 f1440 f1441 f1431 f1427 f1428 f1435 g_bf0_1384 g_bf1_1384 g_b1381 g_b933 ne1404 (Ne.symm ne_bf0_1384_bf1_1384) ne1405 ne1419 ne1420 ne1418 (hb0.1 : ¬ cc0 < (0 : Int32)) (hb1.1 : ¬ cc1 < (0 : Int32)) (hi1383.2.2 : ¬ (cc2 + (1 : Int32)) < (0 : Int32)) (hb3.1 : ¬ cc3 < (0 : Int32)) (hb0.2 : ¬ (20 : Int32) < cc0) (hb1.2 : ¬ (20 : Int32) < cc1) ((own_inc20 hb2.1 hs2) : ¬ (20 : Int32) < (cc2 + (1 : Int32))) (hb3.2 : ¬ (20 : Int32) < cc3) c1402 (hi1383.1 : ¬ (cc2 + (1 : Int32)) = (0 : Int32)) (by decide) (by decide)
   ·skip
    have ne1443 : b1381 ≠ bf0_1384 := Nat.ne_of_lt (Nat.lt_of_lt_of_le A1381.lt hs_bf0_1384)
    have ne1444 : b1381 ≠ bf1_1384 := Nat.ne_of_lt (Nat.lt_of_lt_of_le A1381.lt hs_bf1_1384)
    obtain ⟨cq1442, kq1442, q1442a, q1442b, q1442c⟩ := isOf hZ rfl f1393
    obtain ⟨_, _, ⟨T1442, L1442, k1442, n1442⟩, -, X1442, ⟨Lc1442, hQ1442, l1442, y1442, z1442⟩, st1442⟩ := X1384.virtualBack hx (y := (⟨"gallai/service/ResidualDegrees", "lower", "(I)V"⟩ : MethodName)) (z := (⟨"gallai/service/ResidualDegrees", "lower", "(I)V"⟩ : MethodName)) hown (mvT hZ ww50) (mvT hZ ww51) (notFace_of_selects (args := #[]) (mvT hZ ww53)) (mvT hZ ww53) (mvT hZ ww52) (by decide) (backOf (W := 0) (rm6L3d3 l Z a0 hw [] b1381 bf0_1384 bf1_1384 ss0 bf2_1384 bf3_1384 bf4_1384 bf5_1384 kf0_1384 cc0 cc1 cc2 (cc3 + (1 : Int32)) kf1_1384 (5 : Int32) (0 : Int32) ((((0 : Int32) + (cc3 + (1 : Int32))) + cc2) + cc1) (((0 : Int32) + (cc3 + (1 : Int32))) + cc2) ((0 : Int32) + (cc3 + (1 : Int32))) (0 : Int32) T1384.heap n0 (Nat.le_trans Z0 K1384.1) f1394 f1396 f1397 f1395 f1398 f1399 f1400 f1401 f1393 f1387 f1388 g_bf0_1384 g_bf1_1384 g_b1381 ne1443 (Ne.symm ne_bf0_1384_bf1_1384) ne1444 (hi1383.1 : ¬ (cc2 + (1 : Int32)) = (0 : Int32)) (by decide)) hZ ww54 ww6 (by decide) (by decide)) q1442a q1442c (g := (mkF m 130 (own_L0_8 p0_0 p0_1 p0_2 b933 b1363 b1381 ss0 .unset .unset) [(.int 3), (.ref b1381)])) rfl (by rw [hml]; rfl) (Steps.refl _) (argsL := [(.int 3)]) (rest := []) (lenOf pd__I_V rfl) rfl (by show 2 * 0 + _ ≤ _; exact Nat.le_of_eq rfl) (hb hby at_130) (fun _ _ => ⟨rfl, rfl, (by decide : 9 + 0 ≤ _), (by decide : 48 + 0 ≤ _)⟩)
    dsimp only [Pt.U, Pt.locs, Pt.cells, Pt.slots] at X1442 l1442 y1442 z1442 st1442 hQ1442
    subst l1442 y1442 z1442
    obtain ⟨rfl, N1442q, K1442q, f1445, f1446, f1447, f1448, f1449, f1450, f1451, f1452, f1453, f1454, f1455⟩ := hQ1442
    have f1456 : Fld Z T1442.heap b1381 "gallai/service/ResidualDegrees" "largest" "I" (.int 3) := (show (w6L3d3_largest (cc3 + (1 : Int32))) = (3 : Int32) from (if_neg ((fun q => c1402 ((own_pm cc3).symm.trans q)) : ¬ ((cc3 + (1 : Int32)) - (1 : Int32)) = (0 : Int32)))) ▸ f1455
    have K1442 := K1384.trans K1442q (allS (Or.inr sz_bf0_1384) (allS (Or.inr sz_bf1_1384) (allS (Or.inr sz_b1381) all0)))
    have N1442 := Fr.app N1384 N1442q
    refine own_trans (g' := (mkF m 133 (own_L0_8 p0_0 p0_1 p0_2 b933 b1363 b1381 ss0 .unset .unset) [])) st1442 ?_
    refine own_s (g' := (mkF m 134 (own_L0_8 p0_0 p0_1 p0_2 b933 b1363 b1381 ss0 .unset .unset) [(.ref b933)])) (fun _ kz => XS.aloadN X1442.here hx rfl (hb hby at_133) rfl rfl kz) ?_
    refine own_s (g' := (mkF m 136 (own_L0_8 p0_0 p0_1 p0_2 b933 b1363 b1381 ss0 .unset .unset) [(.int 3), (.ref b933)])) (fun _ kz => XS.iload X1442.here hx rfl (hb hby at_134) rfl kz) ?_
    refine own_s (g' := (mkF m 137 (own_L0_8 p0_0 p0_1 p0_2 b933 b1363 b1381 ss0 .unset .unset) [(.ref b933), (.int 3), (.ref b933)])) (fun _ kz => XS.aloadN X1442.here hx rfl (hb hby at_136) rfl rfl kz) ?_
    refine own_s (g' := (mkF m 139 (own_L0_8 p0_0 p0_1 p0_2 b933 b1363 b1381 ss0 .unset .unset) [(.int 3), (.ref b933), (.int 3), (.ref b933)])) (fun _ kz => XS.iload X1442.here hx rfl (hb hby at_137) rfl kz) ?_
    have ne1457 : b933 ≠ b1381 := Nat.ne_of_lt (Nat.lt_of_lt_of_le ((((((((((Ex933.wr W934).wr W936).wr W938).wr W940).wr W1358).ext E1363).wr W1366).wr W1371).wr W1375).wr W1379).lt (Nat.le_of_eq ga1381.symm))
    have ne1458 : b933 ≠ bf0_1384 := Nat.ne_of_lt (Nat.lt_of_lt_of_le (((((((((((Ex933.wr W934).wr W936).wr W938).wr W940).wr W1358).ext E1363).wr W1366).wr W1371).wr W1375).wr W1379).ext E1381).lt hs_bf0_1384)
    have ne1459 : b933 ≠ bf1_1384 := Nat.ne_of_lt (Nat.lt_of_lt_of_le (((((((((((Ex933.wr W934).wr W936).wr W938).wr W940).wr W1358).ext E1363).wr W1366).wr W1371).wr W1375).wr W1379).ext E1381).lt hs_bf1_1384)
    have f1460 := ((((f1377.other W1379 ne1368).ext E1381).keep K1384q (ninS ne1457 nin0)).keep K1442q (ninS ne1458 (ninS ne1459 (ninS ne1457 nin0))))
    obtain ⟨cl1461, Ar1461, -, S1461, -, H1461, -⟩ := id f1460
    have in1461 := inb_of S1461 (j := (3 : Int32)) ⟨by decide, by decide⟩
    refine own_s (g' := (mkF m 140 (own_L0_8 p0_0 p0_1 p0_2 b933 b1363 b1381 ss0 .unset .unset) [(.int (cc3 + (1 : Int32))), (.int 3), (.ref b933)])) (X1442.iaload hx (j := (3 : Int32)) (v := (.int (cc3 + (1 : Int32)))) Ar1461.1 (State.isArrayOf_alike hZ.alike Ar1461.2.1) Ar1461.2.2 in1461 (Has.at H1461 in1461 rfl) (g := (mkF m 139 (own_L0_8 p0_0 p0_1 p0_2 b933 b1363 b1381 ss0 .unset .unset) [(.int 3), (.ref b933), (.int 3), (.ref b933)])) rfl rfl (hb hby at_139)) ?_
    refine own_s (g' := (mkF m 141 (own_L0_8 p0_0 p0_1 p0_2 b933 b1363 b1381 ss0 .unset .unset) [(.int 1), (.int (cc3 + (1 : Int32))), (.int 3), (.ref b933)])) (fun _ kz => XS.iconst X1442.here hx rfl (hb hby at_140) kz) ?_
    refine own_s (g' := (mkF m 142 (own_L0_8 p0_0 p0_1 p0_2 b933 b1363 b1381 ss0 .unset .unset) [(.int ((cc3 + (1 : Int32)) - (1 : Int32))), (.int 3), (.ref b933)])) (fun _ kz => XS.isub X1442.here hx rfl (hb hby at_141) rfl kz) ?_
    obtain ⟨cl1462, Ar1462, q1462, S1462, M1462, H1462, G1462⟩ := id f1460
    obtain ⟨T1462, h1462, X1462, e1462, W1462, st1462⟩ := stI X1442 hx hZ rfl Ar1462 (j := (3 : Int32)) (inb_of S1462 ⟨by decide, by decide⟩) (g := (mkF m 142 (own_L0_8 p0_0 p0_1 p0_2 b933 b1363 b1381 ss0 .unset .unset) [(.int ((cc3 + (1 : Int32)) - (1 : Int32))), (.int 3), (.ref b933)])) rfl rfl (hb hby at_142)
    have f1463 : Arv Z h1462 b933 k933 .int (4 : Int32) [(.int cc0), (.int cc1), (.int cc2), (.int ((cc3 + (1 : Int32)) - (1 : Int32)))] (.int 0) := Arv.set Ar1462 q1462 S1462 M1462 H1462 G1462 rfl W1462 3 rfl (Nat.le_of_ble_eq_true rfl)
    have K1462 := K1442.wr W1462 (Or.inr sz_b933)
    have N1462 := Fr.snoc X1462 N1442 g_b933
    refine own_s (g' := (mkF m 143 (own_L0_8 p0_0 p0_1 p0_2 b933 b1363 b1381 ss0 .unset .unset) [])) st1462 ?_
    refine own_s (g' := (mkF m 144 (own_L0_8 p0_0 p0_1 p0_2 b933 b1363 b1381 ss0 .unset .unset) [(.ref b933)])) (fun _ kz => XS.aloadN X1462.here hx rfl (hb hby at_143) rfl rfl kz) ?_
    refine own_s (g' := (mkF m 146 (own_L0_8 p0_0 p0_1 p0_2 b933 b1363 b1381 ss0 .unset .unset) [(.int 3), (.ref b933)])) (fun _ kz => XS.iload X1462.here hx rfl (hb hby at_144) rfl kz) ?_
    refine own_s (g' := (mkF m 147 (own_L0_8 p0_0 p0_1 p0_2 b933 b1363 b1381 ss0 .unset .unset) [(.int 1), (.int 3), (.ref b933)])) (fun _ kz => XS.iconst X1462.here hx rfl (hb hby at_146) kz) ?_
    refine own_s (g' := (mkF m 148 (own_L0_8 p0_0 p0_1 p0_2 b933 b1363 b1381 ss0 .unset .unset) [(.int ((3 : Int32) - (1 : Int32))), (.ref b933)])) (fun _ kz => XS.isub X1462.here hx rfl (hb hby at_147) rfl kz) ?_
    rw [show ((3 : Int32) - (1 : Int32)) = (2 : Int32) from by decide]
    refine own_s (g' := (mkF m 149 (own_L0_8 p0_0 p0_1 p0_2 b933 b1363 b1381 ss0 .unset .unset) [(.ref b933), (.int 2), (.ref b933)])) (fun _ kz => XS.aloadN X1462.here hx rfl (hb hby at_148) rfl rfl kz) ?_
    refine own_s (g' := (mkF m 151 (own_L0_8 p0_0 p0_1 p0_2 b933 b1363 b1381 ss0 .unset .unset) [(.int 3), (.ref b933), (.int 2), (.ref b933)])) (fun _ kz => XS.iload X1462.here hx rfl (hb hby at_149) rfl kz) ?_
    refine own_s (g' := (mkF m 152 (own_L0_8 p0_0 p0_1 p0_2 b933 b1363 b1381 ss0 .unset .unset) [(.int 1), (.int 3), (.ref b933), (.int 2), (.ref b933)])) (fun _ kz => XS.iconst X1462.here hx rfl (hb hby at_151) kz) ?_
    refine own_s (g' := (mkF m 153 (own_L0_8 p0_0 p0_1 p0_2 b933 b1363 b1381 ss0 .unset .unset) [(.int ((3 : Int32) - (1 : Int32))), (.ref b933), (.int 2), (.ref b933)])) (fun _ kz => XS.isub X1462.here hx rfl (hb hby at_152) rfl kz) ?_
    rw [show ((3 : Int32) - (1 : Int32)) = (2 : Int32) from by decide]
    obtain ⟨cl1464, Ar1464, -, S1464, -, H1464, -⟩ := id f1463
    have in1464 := inb_of S1464 (j := (2 : Int32)) ⟨by decide, by decide⟩
    refine own_s (g' := (mkF m 154 (own_L0_8 p0_0 p0_1 p0_2 b933 b1363 b1381 ss0 .unset .unset) [(.int cc2), (.int 2), (.ref b933)])) (X1462.iaload hx (j := (2 : Int32)) (v := (.int cc2)) (by rw [e1462]; exact Ar1464.1) (State.isArrayOf_alike hZ.alike Ar1464.2.1) Ar1464.2.2 in1464 (Has.at H1464 in1464 rfl) (g := (mkF m 153 (own_L0_8 p0_0 p0_1 p0_2 b933 b1363 b1381 ss0 .unset .unset) [(.int 2), (.ref b933), (.int 2), (.ref b933)])) rfl rfl (hb hby at_153)) ?_
    refine own_s (g' := (mkF m 155 (own_L0_8 p0_0 p0_1 p0_2 b933 b1363 b1381 ss0 .unset .unset) [(.int 1), (.int cc2), (.int 2), (.ref b933)])) (fun _ kz => XS.iconst X1462.here hx rfl (hb hby at_154) kz) ?_
    refine own_s (g' := (mkF m 156 (own_L0_8 p0_0 p0_1 p0_2 b933 b1363 b1381 ss0 .unset .unset) [(.int (cc2 + (1 : Int32))), (.int 2), (.ref b933)])) (fun _ kz => XS.iadd X1462.here hx rfl (hb hby at_155) rfl kz) ?_
    obtain ⟨cl1465, Ar1465, q1465, S1465, M1465, H1465, G1465⟩ := id f1463
    obtain ⟨T1465, h1465, X1465, e1465, W1465, st1465⟩ := stI X1462 hx hZ e1462 Ar1465 (j := (2 : Int32)) (inb_of S1465 ⟨by decide, by decide⟩) (g := (mkF m 156 (own_L0_8 p0_0 p0_1 p0_2 b933 b1363 b1381 ss0 .unset .unset) [(.int (cc2 + (1 : Int32))), (.int 2), (.ref b933)])) rfl rfl (hb hby at_156)
    have f1466 : Arv Z h1465 b933 k933 .int (4 : Int32) [(.int cc0), (.int cc1), (.int (cc2 + (1 : Int32))), (.int ((cc3 + (1 : Int32)) - (1 : Int32)))] (.int 0) := Arv.set Ar1465 q1465 S1465 M1465 H1465 G1465 rfl W1465 2 rfl (Nat.le_of_ble_eq_true rfl)
    have K1465 := K1462.wr W1465 (Or.inr sz_b933)
    have N1465 := Fr.snoc X1465 N1462 g_b933
    refine own_s (g' := (mkF m 157 (own_L0_8 p0_0 p0_1 p0_2 b933 b1363 b1381 ss0 .unset .unset) [])) st1465 ?_
    have f1467 := ((f1445.other W1462 (Ne.symm ne1458)).other W1465 (Ne.symm ne1458))
    rw [own_pm cc3] at f1467
    rw [own_pm cc3] at f1466
    refine own_s (g' := (mkF m 159 (own_L0_8 p0_0 p0_1 p0_2 b933 b1363 b1381 ss0 .unset .unset) [(.ref b1381)])) (fun _ kz => XS.aload X1465.here hx rfl (hb hby at_157) rfl rfl kz) ?_
    have f1469 := ((f1454.other W1462 (Or.inl (Ne.symm ne1457))).other W1465 (Or.inl (Ne.symm ne1457)))
    have f1470 := ((f1447.wr W1462).wr W1465)
    obtain ⟨cq1468, kq1468, q1468a, q1468b, q1468c⟩ := isOf hZ e1465 f1470
    obtain ⟨_, _, ⟨T1468, L1468, k1468, n1468⟩, -, X1468, ⟨Lc1468, hQ1468, l1468, y1468, z1468⟩, st1468⟩ := X1465.virtualBack hx (y := (⟨"gallai/service/ResidualDegrees", "sum", "()J"⟩ : MethodName)) (z := (⟨"gallai/service/ResidualDegrees", "sum", "()J"⟩ : MethodName)) hown (mvT hZ ww55) (mvT hZ ww56) (notFace_of_selects (args := #[]) (mvT hZ ww58)) (mvT hZ ww58) (mvT hZ ww57) (by decide) (backOf (W := 0) (rm7 l Z a0 hw [] b1381 (ss0 - (1 : Int64)) h1465 n0 (Nat.le_trans Z0 K1465.1) f1469) hZ ww59 ww6 (by decide) (by decide)) q1468a q1468c (g := (mkF m 159 (own_L0_8 p0_0 p0_1 p0_2 b933 b1363 b1381 ss0 .unset .unset) [(.ref b1381)])) rfl (by rw [hml]; rfl) (Steps.refl _) (argsL := []) (rest := []) (lenOf pd___J rfl) rfl (by show 2 * 0 + _ ≤ _; exact Nat.le_of_eq rfl) (hb hby at_159) (fun _ _ => ⟨rfl, e1465, (by decide : 9 + 0 ≤ _), (by decide : 48 + 0 ≤ _)⟩)
    dsimp only [Pt.U, Pt.locs, Pt.cells, Pt.slots] at X1468 l1468 y1468 z1468 st1468 hQ1468
    subst l1468 y1468 z1468
    obtain ⟨rfl, N1468q, eh1468⟩ := hQ1468
    have N1468 := Fr.app N1465 N1468q
    refine own_trans (g' := (mkF m 162 (own_L0_8 p0_0 p0_1 p0_2 b933 b1363 b1381 ss0 .unset .unset) [(.long (ss0 - (1 : Int64)))])) st1468 ?_
    refine own_s (g' := (mkF m 164 (own_L0_8 p0_0 p0_1 p0_2 b933 b1363 b1381 ss0 .unset .unset) [(.long ss0), (.long (ss0 - (1 : Int64)))])) (fun _ kz => XS.lload X1468.here hx rfl (hb hby at_162) rfl kz) ?_
    refine own_s (g' := (mkF m 165 (own_L0_8 p0_0 p0_1 p0_2 b933 b1363 b1381 ss0 .unset .unset) [(.long 1), (.long ss0), (.long (ss0 - (1 : Int64)))])) (fun _ kz => XS.lconst X1468.here hx rfl (hb hby at_164) kz) ?_
    refine own_s (g' := (mkF m 166 (own_L0_8 p0_0 p0_1 p0_2 b933 b1363 b1381 ss0 .unset .unset) [(.long (ss0 - (1 : Int64))), (.long (ss0 - (1 : Int64)))])) (fun _ kz => XS.lsub X1468.here hx rfl (hb hby at_165) rfl kz) ?_
    refine own_s (g' := (mkF m 167 (own_L0_8 p0_0 p0_1 p0_2 b933 b1363 b1381 ss0 .unset .unset) [(.int (lcmpW (ss0 - (1 : Int64)) (ss0 - (1 : Int64))))])) (fun _ kz => XS.lcmp X1468.here hx rfl (hb hby at_166) rfl kz) ?_
    refine own_s (g' := (mkF m 170 (own_L0_8 p0_0 p0_1 p0_2 b933 b1363 b1381 ss0 .unset .unset) [])) (fun _ kz => XS.ifNo X1468.here hx rfl (hb hby at_167) rfl ((if0 _ _).trans (teq ((lw_eq (ss0 - (1 : Int64)) (ss0 - (1 : Int64))).mpr rfl)).2) kz) ?_
    refine own_s (g' := (mkF m 172 (own_L0_8 p0_0 p0_1 p0_2 b933 b1363 b1381 ss0 .unset .unset) [(.ref b1381)])) (fun _ kz => XS.aload X1468.here hx rfl (hb hby at_170) rfl rfl kz) ?_
    have f1472 := ((f1456.other W1462 (Or.inl (Ne.symm ne1457))).other W1465 (Or.inl (Ne.symm ne1457)))
    obtain ⟨cq1471, kq1471, q1471a, q1471b, q1471c⟩ := isOf hZ eh1468 f1470
    obtain ⟨_, _, ⟨T1471, L1471, k1471, n1471⟩, -, X1471, ⟨Lc1471, hQ1471, l1471, y1471, z1471⟩, st1471⟩ := X1468.virtualBack hx (y := (⟨"gallai/service/ResidualDegrees", "largest", "()I"⟩ : MethodName)) (z := (⟨"gallai/service/ResidualDegrees", "largest", "()I"⟩ : MethodName)) hown (mvT hZ ww60) (mvT hZ ww61) (notFace_of_selects (args := #[]) (mvT hZ ww63)) (mvT hZ ww63) (mvT hZ ww62) (by decide) (backOf (W := 0) (rm8 l Z a0 hw [] b1381 (3 : Int32) h1465 n0 (Nat.le_trans Z0 K1465.1) f1472) hZ ww64 ww6 (by decide) (by decide)) q1471a q1471c (g := (mkF m 172 (own_L0_8 p0_0 p0_1 p0_2 b933 b1363 b1381 ss0 .unset .unset) [(.ref b1381)])) rfl (by rw [hml]; rfl) (Steps.refl _) (argsL := []) (rest := []) (lenOf pd___I rfl) rfl (by show 2 * 0 + _ ≤ _; exact Nat.le_of_eq rfl) (hb hby at_172) (fun _ _ => ⟨rfl, eh1468, (by decide : 9 + 0 ≤ _), (by decide : 48 + 0 ≤ _)⟩)
    dsimp only [Pt.U, Pt.locs, Pt.cells, Pt.slots] at X1471 l1471 y1471 z1471 st1471 hQ1471
    subst l1471 y1471 z1471
    obtain ⟨rfl, N1471q, eh1471⟩ := hQ1471
    have N1471 := Fr.app N1468 N1471q
    refine own_trans (g' := (mkF m 175 (own_L0_8 p0_0 p0_1 p0_2 b933 b1363 b1381 ss0 .unset .unset) [(.int 3)])) st1471 ?_
    refine own_s (g' := (mkF m 176 (own_L0_8 p0_0 p0_1 p0_2 b933 b1363 b1381 ss0 .unset .unset) [(.ref b933), (.int 3)])) (fun _ kz => XS.aloadN X1471.here hx rfl (hb hby at_175) rfl rfl kz) ?_
    obtain ⟨_, _, ⟨T1473, L1473, k1473, n1473⟩, -, X1473, ⟨Lc1473, hQ1473, l1473, y1473, z1473⟩, st1473⟩ := Jvm.LawKit.callS X1471 hx (y := (⟨"gallai/service/ResidualDegreesLowerPinLaw", "top", "([I)I"⟩ : MethodName)) hown (mvT hZ ww65) (mvT hZ ww66) (mvT hZ ww67) (mvT hZ ww68) (by decide) (backOf (W := 1) (rm9 l Z a0 hw [] b933 k933 cc0 cc1 (cc2 + (1 : Int32)) cc3 h1465 n0 (Nat.le_trans Z0 K1465.1) f1466) hZ ww68 ww67 (by decide) (by decide)) (g := (mkF m 176 (own_L0_8 p0_0 p0_1 p0_2 b933 b1363 b1381 ss0 .unset .unset) [(.ref b933), (.int 3)])) rfl (by rw [hml]; rfl) (argsL := [(.ref b933)]) (rest := [(.int 3)]) (lenOf pd___I_I rfl) rfl (by show 2 * 0 + _ ≤ _; exact Nat.le_of_eq rfl) (hb hby at_176) (fun _ _ => ⟨rfl, eh1471, (by decide : 9 + 0 ≤ _), (by decide : 48 + 0 ≤ _)⟩)
    dsimp only [Pt.U, Pt.locs, Pt.cells, Pt.slots] at X1473 l1473 y1473 z1473 st1473 hQ1473
    subst l1473 y1473 z1473
    obtain ⟨rfl, N1473q, eh1473⟩ := hQ1473
    have N1473 := Fr.app N1471 N1473q
    refine own_s (g' := (mkF m 179 (own_L0_8 p0_0 p0_1 p0_2 b933 b1363 b1381 ss0 .unset .unset) [(.int (r9 cc1 (cc2 + (1 : Int32)) cc3)), (.int 3)])) st1473 ?_
    rw [show (r9 cc1 (cc2 + (1 : Int32)) cc3) = (3 : Int32) from (if_pos ((own_triI (fun q => c1402 q.symm) hb3.1) : (0 : Int32) < cc3))]
    refine own_s (g' := (mkF m 182 (own_L0_8 p0_0 p0_1 p0_2 b933 b1363 b1381 ss0 .unset .unset) [])) (fun _ kz => XS.icmpNo X1473.here hx rfl (hb hby at_179) rfl (teq ((by decide) : (3 : Int32) = (3 : Int32))).2 kz) ?_
    refine own_s (g' := (mkF m 183 (own_L0_8 p0_0 p0_1 p0_2 b933 b1363 b1381 ss0 .unset .unset) [(.int 1)])) (fun _ kz => XS.iconst X1473.here hx rfl (hb hby at_182) kz) ?_
    refine own_s (g' := (mkF m 187 (own_L0_8 p0_0 p0_1 p0_2 b933 b1363 b1381 ss0 .unset .unset) [(.int 1)])) (fun _ kz => XS.goto X1473.here hx rfl (pc0 := 183) (pc' := 187) rfl (hb hby at_183) (by decide) (by decide) kz) ?_
    refine own_s (g' := (mkF m 189 (own_L0_8 p0_0 p0_1 p0_2 b933 b1363 b1381 ss0 (.val (.int 1)) .unset) [])) (fun _ kz => XS.istore X1473.here hx rfl (hb hby at_187) rfl (l' := (own_L0_8 p0_0 p0_1 p0_2 b933 b1363 b1381 ss0 (.val (.int 1)) .unset)) rfl kz) ?_
    have f1474 := ((f1446.other W1462 (Ne.symm ne1459)).other W1465 (Ne.symm ne1459))
    have f1475 := ((f1448.other W1462 (Or.inl (Ne.symm ne1457))).other W1465 (Or.inl (Ne.symm ne1457)))
    have f1476 := ((f1449.other W1462 (Or.inl (Ne.symm ne1457))).other W1465 (Or.inl (Ne.symm ne1457)))
    have f1477 := ((f1450.other W1462 (Or.inl (Ne.symm ne1457))).other W1465 (Or.inl (Ne.symm ne1457)))
    have f1478 := ((f1451.other W1462 (Or.inl (Ne.symm ne1457))).other W1465 (Or.inl (Ne.symm ne1457)))
    have f1479 := ((f1452.other W1462 (Or.inl (Ne.symm ne1457))).other W1465 (Or.inl (Ne.symm ne1457)))
    have f1480 := ((f1453.other W1462 (Or.inl (Ne.symm ne1457))).other W1465 (Or.inl (Ne.symm ne1457)))
    exact own_cutA3 l Z a0 hw (.val (.int p0_0)) (.val (.int p0_1)) p0_2 b933 (.val (.int 3)) ss0 (.val (.ref b1363)) b1381 bf0_1384 bf1_1384 bf2_1384 bf3_1384 bf4_1384 bf5_1384 k933 cc0 cc1 (cc2 + (1 : Int32)) cc3 kf0_1384 kf1_1384 (5 : Int32) (0 : Int32) ((((0 : Int32) + (cc3 + (1 : Int32))) + cc2) + cc1) (((0 : Int32) + (cc3 + (1 : Int32))) + cc2) (((0 : Int32) + (cc3 + (1 : Int32))) - (1 : Int32)) (0 : Int32) (X1473.more (by decide) (by decide)) hx hZ hby hml hown hlk hret h1465 n0 eh1473 (Nat.le_trans Z0 K1465.1) N1473 f1475 f1476 f1469 f1472 f1477 f1478 f1479 f1480 f1470 f1466 f1467 f1474 g_bf0_1384 g_bf1_1384 g_b1381 g_b933 ne1443 (Ne.symm ne_bf0_1384_bf1_1384) ne1444 ne1458 ne1459 ne1457 (hb0.1 : ¬ cc0 < (0 : Int32)) (hb1.1 : ¬ cc1 < (0 : Int32)) (hi1383.2.2 : ¬ (cc2 + (1 : Int32)) < (0 : Int32)) (hb3.1 : ¬ cc3 < (0 : Int32)) (hb0.2 : ¬ (20 : Int32) < cc0) (hb1.2 : ¬ (20 : Int32) < cc1) ((own_inc20 hb2.1 hs2) : ¬ (20 : Int32) < (cc2 + (1 : Int32))) (hb3.2 : ¬ (20 : Int32) < cc3) c1402 (by decide) (by decide) (by decide)
set_option maxRecDepth 65536 in
set_option maxHeartbeats 40000000 in
theorem comes_1 {Post : Tables → Env → Array Value → State → Outcome → State → Prop} (hpost : ∀ tb e args s v u, (limb_1_1.after args s (.returned v) u = true ∧ limb_1_2.after args s (.returned v) u = true ∧ True) → FrameEnd s (.returned v) u (Jvm.fieldLocs frame_1_writes args s ++ Jvm.arrayLocs frame_1_arrays args s ++ Jvm.staticLocs frame_1_statics s) 32 192 → Post tb e args s (.returned v) u) :
    ArmFor flags0 classFile x code maxLocals ret World_1 tables_1 room_1 Calls_1 rest_1 Pre_1 Post := by
  intro l hfl _ _ p e ha hc hk s m args below hf hA hF happ hP
  obtain ⟨hcalls, hrest, hpre⟩ := hP
  obtain ⟨-, -, -, hnamed, -, -, -, hat⟩ := (Spec.applies_iff hf).mp happ
  obtain ⟨hg, hn⟩ := and_e (Cond.before_iff.mp (show (Jvm.Cond.and given_1 narrow_1).before args s = true from hpre))
  obtain ⟨gc, hg⟩ := and_e hg
  obtain ⟨gi0, hg⟩ := and_e hg
  obtain ⟨gi1, hg⟩ := and_e hg
  obtain ⟨w0, w1, w2, rfl⟩ : ∃ w0 w1 w2 : Value, args = #[w0, w1, w2] := by
    have hs : args.size = 3 := by simpa [Cond.value, given_1] using gc
    obtain ⟨L⟩ := args
    match L, hs with
    | [w0, w1, w2], _ => exact ⟨w0, w1, w2, rfl⟩
  have hw := fun d (hd : d ∈ tables_1) => atoms_spec (ws := Jvm.Cond.code x code maxLocals ret :: tables_1) hat d (List.mem_cons_of_mem _ hd)
  obtain ⟨i0, ei0⟩ := is_v gi0
  obtain rfl : w0 = (.int i0) := Option.some.inj ei0
  obtain ⟨i1, ei1⟩ := is_v gi1
  obtain rfl : w1 = (.int i1) := Option.some.inj ei1
  obtain ⟨i2, ei2⟩ := is_v hg
  obtain rfl : w2 = (.int i2) := Option.some.inj ei2
  obtain ⟨n, o, h1, h2, h3, _, L, rfl, ⟨rfl, N⟩, hq⟩ := rm0 l s _ hw tables_1 i0 i1 i2 s.heap s.heap.size (Nat.le_refl _)  p e ha hc hk s m _ below hf ((Spec.applies_iff_loose hf).mp happ).1 ⟨rfl, State.Warmed39.refl s, rfl⟩ trivial
  refine ⟨n, _, h1, h2, h3, hpost _ _ _ _ _ _ ⟨Cond.after_iff.mpr rfl, Cond.after_iff.mpr (eq_i res_at (Term.int_eval (1)) rfl), trivial⟩ ⟨hq.1, hq.2.1, (hq.2.2.sift fun y hy => Or.inr (N y hy)).mono (by decide) (by decide)⟩⟩
theorem main_1_1 : Claimed_1_1 := comes_1 fun _ _ _ _ _ _ h hF => ⟨h.1, hF⟩
theorem main_1_2 : Claimed_1_2 := comes_1 fun _ _ _ _ _ _ h hF => ⟨h.2.1, hF⟩
end Jvm.Pilot.@@N@@
namespace Jvm.Pilot.@@N@@
open Jvm Jvm.ClassFile Sem Op Lib Jvm.Free Jvm.Stand Jvm.Pilot.@@N@@.Jvm.D
/-! MADE BY PROGRAM (witnessworld.py) out of the Statement's table words and the real class files: 13 classes; the members and pool entries that the words name. The judged class is class 1, her method 2. -/
namespace start1
open Jvm.ClassFile
def u (s : String) : CpInfo := .utf8 (stringToUtf16 s)
/-- a pool by its gaps: so many unusable entries, then the entry; so many at the end -/
def gap : Nat → List CpInfo → List CpInfo
  | 0, r => r
  | n + 1, r => .unusable :: gap n r
def poolList (es : List (Nat × CpInfo)) (last : Nat) : List CpInfo := es.foldr (fun e r => gap e.1 (e.2 :: r)) (gap last [])
def pool (es : List (Nat × CpInfo)) (last : Nat) : Array CpInfo := ⟨poolList es last⟩
def fileOf (pool : Array CpInfo) (this : Nat) (attrs : Array Attribute := #[]) (ms : Array MethodInfo := #[]) (fl : Nat := 33) (sup : Nat := 0) (ifs : Array Nat := #[]) (fds : Array FieldInfo := #[]) : ClassFile where
  minorVersion := 0
  majorVersion := 65
  constantPool := pool
  accessFlags := fl
  thisClass := this
  superClass := sup
  interfaces := ifs
  fields := fds
  methods := ms
  attributes := attrs
def plain (name : String) (sup : Option ClassId) : Class where
  name := name
  kind := .ordinary
  loader := none
  accessFlags := 33
  super := sup
  interfaces := #[]
  cf := none
  fields := #[]
  methods := #[]
  instanceTypes := #[]
  staticTypes := #[]
  resolved := #[]
  callSites := []
  init := .initialized
  statics := none
  mirror := none

def pool0 : Array CpInfo := pool [(5, u "<init>"), (0, u "()V"), (1, .class_ 10), (1, u "java/lang/Object"), (85, u "clone"), (0, u "()Ljava/lang/Object;")] 26

def k0c0 : Code := { maxStack := 0, maxLocals := 1, code := object_method_1_code, exceptionTable := #[], attributes := #[] }
def k0m0 : Method := { name := "<init>", desc := "()V", sig := { parameters := [], returnType := none }, accessFlags := 1, code := some k0c0 }
def k0m1 : Method := { name := "clone", desc := "()Ljava/lang/Object;", sig := { parameters := [], returnType := some (.object "java/lang/Object") }, accessFlags := 260, code := none }
/-- java/lang/Object -/
def k0 : Class := { plain "java/lang/Object" none with
  accessFlags := 33
  interfaces := #[]
  cf := some (fileOf pool0 8 #[] #[{ accessFlags := 1, nameIndex := 5, descriptorIndex := 6, attributes := #[] }, { accessFlags := 260, nameIndex := 96, descriptorIndex := 97, attributes := #[] }] 33 0 #[] #[])
  fields := #[]
  methods := #[k0m0, k0m1]
  instanceTypes := #[]
  staticTypes := #[]
  resolved := Array.replicate 124 none
  statics := none }

def pool1 : Array CpInfo := pool [(2, .class_ 4), (1, u "java/lang/Object"), (0, u "<init>"), (0, u "()V"), (0, .integer 2147483647), (0, .long 2), (1, .long 3), (1, .class_ 13), (0, u "gallai/service/ResidualDegrees"), (0, .methodref 12 15), (0, .nameAndType 5 16), (0, u "([IJ)V"), (0, .methodref 12 18), (0, .nameAndType 19 20), (0, u "lower"), (0, u "(I)V"), (0, .methodref 12 22), (0, .nameAndType 23 24), (0, u "sum"), (0, u "()J"), (0, .methodref 12 26), (0, .nameAndType 27 28), (0, u "largest"), (0, u "()I"), (0, .methodref 30 31), (0, .class_ 32), (0, .nameAndType 33 34), (0, u "gallai/service/ResidualDegreesLowerPinLaw"), (0, u "top"), (0, u "([I)I"), (3, u "law"), (0, u "(III)Z")] 4

def k1m0 : Method := { name := "<init>", desc := "()V", sig := { parameters := [], returnType := none }, accessFlags := 2, code := none }
def k1c1 : Code := { maxStack := 2, maxLocals := 1, code := method_2_code, exceptionTable := #[], attributes := #[] }
def k1m1 : Method := { name := "top", desc := "([I)I", sig := { parameters := [(.array .int)], returnType := some .int }, accessFlags := 10, code := some k1c1 }
def k1c2 : Code := { maxStack := 6, maxLocals := 11, code := code, exceptionTable := #[], attributes := #[] }
def k1m2 : Method := { name := "law", desc := "(III)Z", sig := { parameters := [.int, .int, .int], returnType := some .boolean }, accessFlags := 9, code := some k1c2 }
/-- gallai/service/ResidualDegreesLowerPinLaw -/
def k1 : Class := { plain "gallai/service/ResidualDegreesLowerPinLaw" (some 0) with
  accessFlags := 49
  interfaces := #[]
  cf := some (fileOf pool1 30 #[] #[{ accessFlags := 2, nameIndex := 5, descriptorIndex := 6, attributes := #[] }, { accessFlags := 10, nameIndex := 33, descriptorIndex := 34, attributes := #[] }, { accessFlags := 9, nameIndex := 38, descriptorIndex := 39, attributes := #[] }] 49 2 #[] #[])
  fields := #[]
  methods := #[k1m0, k1m1, k1m2]
  instanceTypes := #[]
  staticTypes := #[]
  resolved := Array.replicate 44 none
  statics := none }

def pool2 : Array CpInfo := pool [(1, .methodref 2 3), (0, .class_ 4), (0, .nameAndType 5 6), (0, u "java/lang/Object"), (0, u "<init>"), (0, u "()V"), (0, .methodref 8 9), (0, .class_ 10), (0, .nameAndType 11 12), (0, u "[I"), (0, u "clone"), (0, u "()Ljava/lang/Object;"), (0, .fieldref 14 15), (0, .class_ 16), (0, .nameAndType 17 10), (0, u "gallai/service/ResidualDegrees"), (0, u "countOf"), (0, .methodref 19 20), (0, .class_ 21), (0, .nameAndType 22 23), (0, u "java/lang/Math"), (0, u "max"), (0, u "(II)I"), (0, .fieldref 14 25), (0, .nameAndType 26 27), (0, u "largest"), (0, u "I"), (0, .fieldref 14 29), (0, .nameAndType 30 10), (0, u "atLeast"), (0, .fieldref 14 32), (0, .nameAndType 33 34), (0, u "sum"), (0, u "J"), (0, .fieldref 14 36), (0, .nameAndType 37 10), (0, u "partnersOf"), (0, .fieldref 14 39), (0, .nameAndType 40 10), (0, u "saved"), (0, .methodref 42 43), (0, .class_ 44), (0, .nameAndType 45 23), (0, u "gallai/service/Graphicality"), (0, u "slackLength"), (0, .fieldref 14 47), (0, .nameAndType 48 49), (0, u "slack"), (0, u "[J"), (0, .fieldref 14 51), (0, .nameAndType 52 10), (0, u "nextTight"), (2, u "a"), (8, u "t"), (5, u "completable"), (0, u "Z"), (2, u "laidOffAtT"), (6, u "last"), (2, u "firstNegative"), (2, u "([IJ)V"), (4, u "()I"), (0, u "()J"), (0, u "lower"), (0, u "(I)V")] 7

def k2c0 : Code := { maxStack := 5, maxLocals := 5, code := prog_45_method_1_code, exceptionTable := #[], attributes := #[] }
def k2m0 : Method := { name := "<init>", desc := "([IJ)V", sig := { parameters := [(.array .int), .long], returnType := none }, accessFlags := 0, code := some k2c0 }
def k2c1 : Code := { maxStack := 1, maxLocals := 1, code := prog_45_method_3_code, exceptionTable := #[], attributes := #[] }
def k2m1 : Method := { name := "largest", desc := "()I", sig := { parameters := [], returnType := some .int }, accessFlags := 0, code := some k2c1 }
def k2c2 : Code := { maxStack := 2, maxLocals := 1, code := prog_45_method_4_code, exceptionTable := #[], attributes := #[] }
def k2m2 : Method := { name := "sum", desc := "()J", sig := { parameters := [], returnType := some .long }, accessFlags := 0, code := some k2c2 }
def k2c3 : Code := { maxStack := 5, maxLocals := 2, code := prog_45_method_5_code, exceptionTable := #[], attributes := #[] }
def k2m3 : Method := { name := "lower", desc := "(I)V", sig := { parameters := [.int], returnType := none }, accessFlags := 0, code := some k2c3 }
/-- gallai/service/ResidualDegrees -/
def k2 : Class := { plain "gallai/service/ResidualDegrees" (some 0) with
  accessFlags := 48
  interfaces := #[]
  cf := some (fileOf pool2 14 #[] #[{ accessFlags := 0, nameIndex := 5, descriptorIndex := 87, attributes := #[] }, { accessFlags := 0, nameIndex := 26, descriptorIndex := 92, attributes := #[] }, { accessFlags := 0, nameIndex := 33, descriptorIndex := 93, attributes := #[] }, { accessFlags := 0, nameIndex := 94, descriptorIndex := 95, attributes := #[] }] 48 2 #[] #[{ accessFlags := 18, nameIndex := 17, descriptorIndex := 10, attributes := #[] }, { accessFlags := 18, nameIndex := 30, descriptorIndex := 10, attributes := #[] }, { accessFlags := 2, nameIndex := 26, descriptorIndex := 27, attributes := #[] }, { accessFlags := 2, nameIndex := 33, descriptorIndex := 34, attributes := #[] }, { accessFlags := 18, nameIndex := 37, descriptorIndex := 10, attributes := #[] }, { accessFlags := 18, nameIndex := 40, descriptorIndex := 10, attributes := #[] }, { accessFlags := 18, nameIndex := 48, descriptorIndex := 49, attributes := #[] }, { accessFlags := 18, nameIndex := 52, descriptorIndex := 10, attributes := #[] }, { accessFlags := 2, nameIndex := 81, descriptorIndex := 27, attributes := #[] }, { accessFlags := 2, nameIndex := 55, descriptorIndex := 27, attributes := #[] }, { accessFlags := 2, nameIndex := 64, descriptorIndex := 27, attributes := #[] }, { accessFlags := 2, nameIndex := 74, descriptorIndex := 27, attributes := #[] }, { accessFlags := 2, nameIndex := 84, descriptorIndex := 27, attributes := #[] }, { accessFlags := 2, nameIndex := 70, descriptorIndex := 71, attributes := #[] }])
  fields := #[{ name := "countOf", type := (.array .int), accessFlags := 18, slot := 0, constantValue := 0 }, { name := "atLeast", type := (.array .int), accessFlags := 18, slot := 1, constantValue := 0 }, { name := "largest", type := .int, accessFlags := 2, slot := 2, constantValue := 0 }, { name := "sum", type := .long, accessFlags := 2, slot := 3, constantValue := 0 }, { name := "partnersOf", type := (.array .int), accessFlags := 18, slot := 4, constantValue := 0 }, { name := "saved", type := (.array .int), accessFlags := 18, slot := 5, constantValue := 0 }, { name := "slack", type := (.array .long), accessFlags := 18, slot := 6, constantValue := 0 }, { name := "nextTight", type := (.array .int), accessFlags := 18, slot := 7, constantValue := 0 }, { name := "last", type := .int, accessFlags := 2, slot := 8, constantValue := 0 }, { name := "a", type := .int, accessFlags := 2, slot := 9, constantValue := 0 }, { name := "t", type := .int, accessFlags := 2, slot := 10, constantValue := 0 }, { name := "laidOffAtT", type := .int, accessFlags := 2, slot := 11, constantValue := 0 }, { name := "firstNegative", type := .int, accessFlags := 2, slot := 12, constantValue := 0 }, { name := "completable", type := .boolean, accessFlags := 2, slot := 13, constantValue := 0 }]
  methods := #[k2m0, k2m1, k2m2, k2m3]
  instanceTypes := #[(.array .int), (.array .int), .int, .long, (.array .int), (.array .int), (.array .long), (.array .int), .int, .int, .int, .int, .int, .boolean]
  staticTypes := #[]
  resolved := Array.replicate 103 none
  statics := none }

def pool3 : Array CpInfo := pool [(1, .class_ 2), (0, u "java/lang/Cloneable"), (0, .class_ 4), (0, u "java/lang/Object")] 2

/-- java/lang/Cloneable -/
def k3 : Class := { plain "java/lang/Cloneable" (some 0) with
  accessFlags := 1537
  interfaces := #[]
  cf := some (fileOf pool3 1 #[] #[] 1537 3 #[] #[])
  fields := #[]
  methods := #[]
  instanceTypes := #[]
  staticTypes := #[]
  resolved := Array.replicate 7 none
  statics := none }

def pool4 : Array CpInfo := pool [(1, .class_ 2), (0, u "java/lang/Math"), (1, .class_ 6), (1, u "java/lang/Object"), (0, u "<init>"), (0, u "()V"), (89, .class_ 100), (1, u "java/lang/Math$RandomNumberGeneratorHolder"), (71, u "negativeZeroFloatBits"), (0, u "J"), (2, u "negativeZeroDoubleBits"), (21, u "max"), (2, u "min"), (43, u "$assertionsDisabled"), (0, u "Z"), (88, u "(II)I"), (2, u "twoToTheDoubleScaleDown"), (0, u "D"), (4, u "twoToTheDoubleScaleUp"), (9, u "E"), (3, u "PI"), (2, u "TAU"), (2, u "DEGREES_TO_RADIANS"), (0, u "RADIANS_TO_DEGREES")] 94

def k4m0 : Method := { name := "<init>", desc := "()V", sig := { parameters := [], returnType := none }, accessFlags := 2, code := none }
def k4c1 : Code := { maxStack := 2, maxLocals := 2, code := jdk_29_method_65_code, exceptionTable := #[], attributes := #[] }
def k4m1 : Method := { name := "max", desc := "(II)I", sig := { parameters := [.int, .int], returnType := some .int }, accessFlags := 9, code := some k4c1 }
def k4c2 : Code := { maxStack := 2, maxLocals := 2, code := jdk_29_method_69_code, exceptionTable := #[], attributes := #[] }
def k4m2 : Method := { name := "min", desc := "(II)I", sig := { parameters := [.int, .int], returnType := some .int }, accessFlags := 9, code := some k4c2 }
/-- java/lang/Math -/
def k4 : Class := { plain "java/lang/Math" (some 0) with
  accessFlags := 49
  interfaces := #[]
  cf := some (fileOf pool4 1 #[.nestMembers #[98]] #[{ accessFlags := 2, nameIndex := 7, descriptorIndex := 8, attributes := #[] }, { accessFlags := 9, nameIndex := 198, descriptorIndex := 335, attributes := #[] }, { accessFlags := 9, nameIndex := 201, descriptorIndex := 335, attributes := #[] }] 49 4 #[] #[{ accessFlags := 25, nameIndex := 354, descriptorIndex := 339, attributes := #[] }, { accessFlags := 25, nameIndex := 358, descriptorIndex := 339, attributes := #[] }, { accessFlags := 25, nameIndex := 361, descriptorIndex := 339, attributes := #[] }, { accessFlags := 26, nameIndex := 364, descriptorIndex := 339, attributes := #[] }, { accessFlags := 26, nameIndex := 365, descriptorIndex := 339, attributes := #[] }, { accessFlags := 26, nameIndex := 172, descriptorIndex := 173, attributes := #[] }, { accessFlags := 26, nameIndex := 176, descriptorIndex := 173, attributes := #[] }, { accessFlags := 8, nameIndex := 344, descriptorIndex := 339, attributes := #[] }, { accessFlags := 8, nameIndex := 338, descriptorIndex := 339, attributes := #[] }, { accessFlags := 4120, nameIndex := 245, descriptorIndex := 246, attributes := #[] }])
  fields := #[{ name := "E", type := .double, accessFlags := 25, slot := 0, constantValue := 0 }, { name := "PI", type := .double, accessFlags := 25, slot := 1, constantValue := 0 }, { name := "TAU", type := .double, accessFlags := 25, slot := 2, constantValue := 0 }, { name := "DEGREES_TO_RADIANS", type := .double, accessFlags := 26, slot := 3, constantValue := 0 }, { name := "RADIANS_TO_DEGREES", type := .double, accessFlags := 26, slot := 4, constantValue := 0 }, { name := "negativeZeroFloatBits", type := .long, accessFlags := 26, slot := 5, constantValue := 0 }, { name := "negativeZeroDoubleBits", type := .long, accessFlags := 26, slot := 6, constantValue := 0 }, { name := "twoToTheDoubleScaleUp", type := .double, accessFlags := 8, slot := 7, constantValue := 0 }, { name := "twoToTheDoubleScaleDown", type := .double, accessFlags := 8, slot := 8, constantValue := 0 }, { name := "$assertionsDisabled", type := .boolean, accessFlags := 4120, slot := 9, constantValue := 0 }]
  methods := #[k4m0, k4m1, k4m2]
  instanceTypes := #[]
  staticTypes := #[.double, .double, .double, .double, .double, .long, .long, .double, .double, .boolean]
  resolved := Array.replicate 460 none
  statics := none }

def pool5 : Array CpInfo := pool [(2, .class_ 4), (1, u "java/lang/Object"), (0, u "<init>"), (0, u "()V"), (8, .class_ 16), (0, u "gallai/service/Graphicality$OddDegreeSum"), (11, .class_ 29), (0, u "gallai/service/Graphicality$ErdosGallaiFails"), (4, .class_ 36), (1, u "java/lang/Math"), (1, u "(II)I"), (1, .class_ 42), (1, u "gallai/service/Graphicality"), (0, u "slackLength"), (4, .class_ 49), (0, u "gallai/service/Graphicality$Graphical"), (6, .class_ 58), (1, u "gallai/service/Graphicality$Verdict"), (24, .methodref 34 84), (0, .nameAndType 85 38), (0, u "min")] 33

def k5m0 : Method := { name := "<init>", desc := "()V", sig := { parameters := [], returnType := none }, accessFlags := 2, code := none }
def k5c1 : Code := { maxStack := 2, maxLocals := 2, code := prog_35_method_4_code, exceptionTable := #[], attributes := #[] }
def k5m1 : Method := { name := "slackLength", desc := "(II)I", sig := { parameters := [.int, .int], returnType := some .int }, accessFlags := 8, code := some k5c1 }
/-- gallai/service/Graphicality -/
def k5 : Class := { plain "gallai/service/Graphicality" (some 0) with
  accessFlags := 49
  interfaces := #[]
  cf := some (fileOf pool5 40 #[.nestMembers #[28, 15, 48, 56]] #[{ accessFlags := 2, nameIndex := 5, descriptorIndex := 6, attributes := #[] }, { accessFlags := 8, nameIndex := 43, descriptorIndex := 38, attributes := #[] }] 49 2 #[] #[])
  fields := #[]
  methods := #[k5m0, k5m1]
  instanceTypes := #[]
  staticTypes := #[]
  resolved := Array.replicate 119 none
  statics := none }

def pool6 : Array CpInfo := pool [(1, u "java/io/Serializable"), (0, .class_ 1), (0, u "java/lang/Object"), (0, .class_ 3)] 3

/-- java/io/Serializable -/
def k6 : Class := { plain "java/io/Serializable" (some 0) with
  accessFlags := 1537
  interfaces := #[]
  cf := some (fileOf pool6 2 #[] #[] 1537 4 #[] #[])
  fields := #[]
  methods := #[]
  instanceTypes := #[]
  staticTypes := #[]
  resolved := Array.replicate 8 none
  statics := none }

/-- the primitive byte -/
def k7 : Class := { plain "byte" none with kind := .primitive 'B', accessFlags := 0x411 }
/-- [B -/
def k8 : Class := { plain "[B" (some 0) with kind := .array 7 .byte, interfaces := #[3, 6], accessFlags := 1041 }

/-- the primitive int -/
def k9 : Class := { plain "int" none with kind := .primitive 'I', accessFlags := 0x411 }
/-- [I -/
def k10 : Class := { plain "[I" (some 0) with kind := .array 9 .int, interfaces := #[3, 6], accessFlags := 1041 }

/-- the primitive long -/
def k11 : Class := { plain "long" none with kind := .primitive 'J', accessFlags := 0x411 }
/-- [J -/
def k12 : Class := { plain "[J" (some 0) with kind := .array 11 .long, interfaces := #[3, 6], accessFlags := 1041 }

def heap : Heap := #[]
def classes : Array Class := #[k0, k1, k2, k3, k4, k5, k6, k7, k8, k9, k10, k11, k12]
def interned : List (Array UInt16 × Addr) := []
def slotsUsed : Nat := 0
def theMethod : MethodId := ⟨1, 2⟩
def args0 : Array Value := #[.int 5, .int 5, .int 5]
def aboutOver (below : List Frame) : State where
  vm := { classes := classes, interned := interned.toArray }
  heap := heap
  slotsUsed := slotsUsed
  threads := #[{ frames := .invoking theMethod args0 :: below }]
def below0 : List Frame := [.native { method := ⟨0, 0⟩, args := #[] }]
def about1 : State := aboutOver below0
def p0 : Program := .bare "" "" ""
def e0 : Env := launch0.env 0 0 0
theorem w_frames : about1.frames = Frame.invoking theMethod args0 :: below0 := rfl
set_option maxRecDepth 65536 in
theorem w_args : argsFit about1.vm theMethod args0 = true := by decide +kernel
set_option maxRecDepth 65536 in
theorem w_heap : heapFits about1 = true := by decide +kernel
set_option maxRecDepth 65536 in
theorem w_runnable : about1.curStatus? = some .runnable := by decide +kernel
set_option maxRecDepth 65536 in
theorem w_alone : about1.alone = true := by decide +kernel
set_option maxRecDepth 65536 in
theorem w_named : about1.methodNamed? x = some theMethod := by decide +kernel
set_option maxRecDepth 65536 in
theorem w_hears : about1.hears theMethod below0 = true := by decide +kernel
set_option maxRecDepth 65536 in
theorem w_ripe : about1.ripe theMethod args0 below0 = true := by decide +kernel
theorem w_running : about1.status = .running := rfl
set_option maxRecDepth 65536 in
theorem w_room : about1.hasRoom e0.platform room_1 = true :=
  launch0.hasRoom_least _ room_1 (by decide +kernel) (by decide +kernel) (by decide +kernel) (by decide +kernel) (by decide +kernel) (by decide +kernel)
theorem allAtoms_all (ts : List Jvm.Cond) (a : Array Jvm.Value) (st : Jvm.State) : (allAtoms ts).before a st = ts.all (fun c => c.before a st) := by
  induction ts with
  | nil => rfl
  | cons c t ih =>
    show (Jvm.Cond.and c (allAtoms t)).before a st = _
    rw [Jvm.Cond.before_and, ih, List.all_cons]
def words1 : List Jvm.Cond := Jvm.Cond.code x code maxLocals ret :: tables_1
/-- a 'code' word, met by the world's own term for the bytes: nothing is compared byte by byte -/
theorem code_word {y : MethodName} {bytes : ByteArray} {mx : Nat} {rt : Option FieldType} {a : Array Value} {s : State} {m : MethodId} {meth : Method} {c : Code} (h1 : s.methodNamed? y = some m) (h2 : s.vm.method? m = some meth) (h3 : meth.code = some c) (h4 : c.code = bytes)
    (h5 : (c.maxLocals == mx && c.exceptionTable.isEmpty && decide (c.maxStack ≤ mostOperands) && decide (meth.sig.returnType = rt) && !meth.locks && decide (parseMethodDescriptor y.desc = some meth.sig)) = true) : (Jvm.Cond.code y bytes mx rt).before a s = true := by
  simp only [Bool.and_eq_true, beq_iff_eq, Bool.not_eq_true', decide_eq_true_eq] at h5
  obtain ⟨⟨⟨⟨⟨g1, g2⟩, g3⟩, g4⟩, g5⟩, g6⟩ := h5
  simp [Cond.before, Cond.holds, Cond.value, h1, h2, h3, h4, g1, g2, g3, g4, g5, g6]
def isCode : Jvm.Cond → Bool
  | .code _ _ _ _ => true
  | _ => false
theorem all_split {L : List Jvm.Cond} {P : Jvm.Cond → Bool} (h1 : L.all (fun c => isCode c || P c) = true) (h2 : ∀ c ∈ L.filter isCode, P c = true) : L.all P = true := by
  refine List.all_eq_true.mpr fun c hc => ?_
  have h := List.all_eq_true.mp h1 c hc
  rcases Bool.eq_false_or_eq_true (isCode c) with hi | hi
  · exact h2 c (List.mem_filter.mpr ⟨hc, hi⟩)
  · simpa [hi] using h
set_option maxRecDepth 65536 in
theorem w_c0 : (Jvm.Cond.code x code maxLocals ret).before args0 about1 = true := code_word (m := ⟨1, 2⟩) (meth := k1m2) (c := k1c2) (by decide +kernel) rfl rfl rfl (by decide +kernel)
set_option maxRecDepth 65536 in
theorem w_c1 : (Jvm.Cond.code ({ cls := "gallai/service/ResidualDegrees", name := "<init>", desc := "([IJ)V" } : Jvm.MethodName) prog_45_method_1_code (5 : Nat) (Option.none : Option Jvm.ClassFile.FieldType)).before args0 about1 = true := code_word (m := ⟨2, 0⟩) (meth := k2m0) (c := k2c0) (by decide +kernel) rfl rfl rfl (by decide +kernel)
set_option maxRecDepth 65536 in
theorem w_c2 : (Jvm.Cond.code ({ cls := "java/lang/Object", name := "<init>", desc := "()V" } : Jvm.MethodName) object_method_1_code (1 : Nat) (Option.none : Option Jvm.ClassFile.FieldType)).before args0 about1 = true := code_word (m := ⟨0, 0⟩) (meth := k0m0) (c := k0c0) (by decide +kernel) rfl rfl rfl (by decide +kernel)
set_option maxRecDepth 65536 in
theorem w_c3 : (Jvm.Cond.code ({ cls := "java/lang/Math", name := "max", desc := "(II)I" } : Jvm.MethodName) jdk_29_method_65_code (2 : Nat) (Option.some Jvm.ClassFile.FieldType.int)).before args0 about1 = true := code_word (m := ⟨4, 1⟩) (meth := k4m1) (c := k4c1) (by decide +kernel) rfl rfl rfl (by decide +kernel)
set_option maxRecDepth 65536 in
theorem w_c4 : (Jvm.Cond.code ({ cls := "gallai/service/Graphicality", name := "slackLength", desc := "(II)I" } : Jvm.MethodName) prog_35_method_4_code (2 : Nat) (Option.some Jvm.ClassFile.FieldType.int)).before args0 about1 = true := code_word (m := ⟨5, 1⟩) (meth := k5m1) (c := k5c1) (by decide +kernel) rfl rfl rfl (by decide +kernel)
set_option maxRecDepth 65536 in
theorem w_c5 : (Jvm.Cond.code ({ cls := "java/lang/Math", name := "min", desc := "(II)I" } : Jvm.MethodName) jdk_29_method_69_code (2 : Nat) (Option.some Jvm.ClassFile.FieldType.int)).before args0 about1 = true := code_word (m := ⟨4, 2⟩) (meth := k4m2) (c := k4c2) (by decide +kernel) rfl rfl rfl (by decide +kernel)
set_option maxRecDepth 65536 in
theorem w_c6 : (Jvm.Cond.code ({ cls := "gallai/service/ResidualDegrees", name := "lower", desc := "(I)V" } : Jvm.MethodName) prog_45_method_5_code (2 : Nat) (Option.none : Option Jvm.ClassFile.FieldType)).before args0 about1 = true := code_word (m := ⟨2, 3⟩) (meth := k2m3) (c := k2c3) (by decide +kernel) rfl rfl rfl (by decide +kernel)
set_option maxRecDepth 65536 in
theorem w_c7 : (Jvm.Cond.code ({ cls := "gallai/service/ResidualDegrees", name := "sum", desc := "()J" } : Jvm.MethodName) prog_45_method_4_code (1 : Nat) (Option.some Jvm.ClassFile.FieldType.long)).before args0 about1 = true := code_word (m := ⟨2, 2⟩) (meth := k2m2) (c := k2c2) (by decide +kernel) rfl rfl rfl (by decide +kernel)
set_option maxRecDepth 65536 in
theorem w_c8 : (Jvm.Cond.code ({ cls := "gallai/service/ResidualDegrees", name := "largest", desc := "()I" } : Jvm.MethodName) prog_45_method_3_code (1 : Nat) (Option.some Jvm.ClassFile.FieldType.int)).before args0 about1 = true := code_word (m := ⟨2, 1⟩) (meth := k2m1) (c := k2c1) (by decide +kernel) rfl rfl rfl (by decide +kernel)
set_option maxRecDepth 65536 in
theorem w_c9 : (Jvm.Cond.code ({ cls := "gallai/service/ResidualDegreesLowerPinLaw", name := "top", desc := "([I)I" } : Jvm.MethodName) method_2_code (1 : Nat) (Option.some Jvm.ClassFile.FieldType.int)).before args0 about1 = true := code_word (m := ⟨1, 1⟩) (meth := k1m1) (c := k1c1) (by decide +kernel) rfl rfl rfl (by decide +kernel)
def codes1 : List Jvm.Cond := [Jvm.Cond.code x code maxLocals ret, Jvm.Cond.code ({ cls := "gallai/service/ResidualDegrees", name := "<init>", desc := "([IJ)V" } : Jvm.MethodName) prog_45_method_1_code (5 : Nat) (Option.none : Option Jvm.ClassFile.FieldType), Jvm.Cond.code ({ cls := "java/lang/Object", name := "<init>", desc := "()V" } : Jvm.MethodName) object_method_1_code (1 : Nat) (Option.none : Option Jvm.ClassFile.FieldType), Jvm.Cond.code ({ cls := "java/lang/Math", name := "max", desc := "(II)I" } : Jvm.MethodName) jdk_29_method_65_code (2 : Nat) (Option.some Jvm.ClassFile.FieldType.int), Jvm.Cond.code ({ cls := "gallai/service/Graphicality", name := "slackLength", desc := "(II)I" } : Jvm.MethodName) prog_35_method_4_code (2 : Nat) (Option.some Jvm.ClassFile.FieldType.int), Jvm.Cond.code ({ cls := "java/lang/Math", name := "min", desc := "(II)I" } : Jvm.MethodName) jdk_29_method_69_code (2 : Nat) (Option.some Jvm.ClassFile.FieldType.int), Jvm.Cond.code ({ cls := "gallai/service/ResidualDegrees", name := "lower", desc := "(I)V" } : Jvm.MethodName) prog_45_method_5_code (2 : Nat) (Option.none : Option Jvm.ClassFile.FieldType), Jvm.Cond.code ({ cls := "gallai/service/ResidualDegrees", name := "sum", desc := "()J" } : Jvm.MethodName) prog_45_method_4_code (1 : Nat) (Option.some Jvm.ClassFile.FieldType.long), Jvm.Cond.code ({ cls := "gallai/service/ResidualDegrees", name := "largest", desc := "()I" } : Jvm.MethodName) prog_45_method_3_code (1 : Nat) (Option.some Jvm.ClassFile.FieldType.int), Jvm.Cond.code ({ cls := "gallai/service/ResidualDegreesLowerPinLaw", name := "top", desc := "([I)I" } : Jvm.MethodName) method_2_code (1 : Nat) (Option.some Jvm.ClassFile.FieldType.int)]
set_option maxRecDepth 65536 in
theorem codes_eq : words1.filter isCode = codes1 := rfl
theorem w_codes : ∀ c ∈ words1.filter isCode, c.before args0 about1 = true := by
  rw [codes_eq]
  intro c hc
  simp only [codes1, List.mem_cons, List.not_mem_nil, or_false] at hc
  rcases hc with rfl | rfl | rfl | rfl | rfl | rfl | rfl | rfl | rfl | rfl
  · exact w_c0
  · exact w_c1
  · exact w_c2
  · exact w_c3
  · exact w_c4
  · exact w_c5
  · exact w_c6
  · exact w_c7
  · exact w_c8
  · exact w_c9
set_option maxRecDepth 65536 in
theorem w_t1 : (words1.take 24).all (fun c => isCode c || c.before args0 about1) = true := by decide +kernel
set_option maxRecDepth 65536 in
theorem w_t2 : ((words1.drop 24).take 24).all (fun c => isCode c || c.before args0 about1) = true := by decide +kernel
set_option maxRecDepth 65536 in
theorem w_t3 : ((words1.drop 24).drop 24).all (fun c => isCode c || c.before args0 about1) = true := by decide +kernel
theorem w_tables : (allAtoms (Jvm.Cond.code x code maxLocals ret :: tables_1)).before args0 about1 = true := by
  rw [allAtoms_all]
  show words1.all (fun c => c.before args0 about1) = true
  refine all_split ?_ w_codes
  rw [← List.take_append_drop 24 words1, List.all_append, w_t1, ← List.take_append_drop 24 (words1.drop 24), List.all_append, w_t2, w_t3]
  rfl
set_option maxRecDepth 65536 in
theorem w_case : (Jvm.Cond.and given_1 narrow_1).before args0 about1 = true := by decide +kernel
theorem w_applies : (headSpec (Jvm.Cond.code x code maxLocals ret :: tables_1) room_1).applies x e0.platform about1 = true :=
  (Spec.applies_iff w_frames).mpr ⟨w_running, w_runnable, w_alone, w_named, w_hears, w_ripe, w_room, w_tables⟩
theorem atStart : AtStart classFile x code maxLocals ret World_1 tables_1 room_1 Calls_1 rest_1 Pre_1 launch0 p0 e0 about1 theMethod args0 below0 :=
  ⟨lists_1, trivial, launch0.admits_env _ _ _, launch0.least_env, fairChoices_fair.cas, fairChoices_fair.clock, w_frames, w_args, w_heap, w_applies, trivial, trivial, w_case⟩
end start1
theorem witness_1 : WitnessClaimed_1 := ⟨start1.p0, start1.e0, start1.about1, start1.theMethod, start1.args0, start1.below0, start1.atStart⟩
end Jvm.Pilot.@@N@@
