import JvmDerived
import JvmDerived.Pilot.@@N@@Statement
import JvmDerived.Pilot.@@N@@Code
set_option linter.unusedVariables false
set_option linter.unusedSimpArgs false
namespace Jvm.Pilot.@@N@@
open Jvm Jvm.ClassFile Sem Op Lib Jvm.Free Jvm.Stand Jvm.LawKit Jvm.RoadKit Bundle Jvm.Pilot.@@N@@.Jvm.D
/-- what is left of a walk: from the frame g on, the run ends as K says -/
def own_G (p : Program) (e : Env) (below : List Frame) (s : State) (K : Option Value → Heap → List Loc → Prop) (nc ns : Nat) (T : State) (g : JFrame) : Prop :=
  ∃ s₂ o, Steps p.tables e below (T.setTop g) s₂ ∧ s₂.status = .running ∧ Ended s₂ below o ∧ ∃ v L, o = .returned v ∧ K v s₂.heap L ∧ FrameEnd s o s₂ L nc ns
section Own
variable {p : Program} {l : Launch} {e : Env} {R : Room} {s : State} {m : MethodId} {args : Array Value} {below : List Frame} {meth : Method} {c : Code} {T T' : State} {locs : List Loc} {cells slots : Nat} {K : Option Value → Heap → List Loc → Prop} {nc ns : Nat} {g g' : JFrame}
theorem own_s (h : ∀ t, Steps p.tables e below (T'.setTop g') t → Steps p.tables e below (T.setTop g) t) (k : own_G p e below s K nc ns T' g') : own_G p e below s K nc ns T g := by
  obtain ⟨s₂, o, h1, r⟩ := k
  exact ⟨s₂, o, h _ h1, r⟩
theorem own_trans (h : Steps p.tables e below (T.setTop g) (T'.setTop g')) (k : own_G p e below s K nc ns T' g') : own_G p e below s K nc ns T g := by
  obtain ⟨s₂, o, h1, r⟩ := k
  exact ⟨s₂, o, h.trans h1, r⟩
theorem own_cast (q : g = g') (k : own_G p e below s K nc ns T g') : own_G p e below s K nc ns T g := q ▸ k
theorem own_leave (X : Stand p l e R s m args below meth c T locs cells slots) {v : Option Value} (hlk : meth.locks = false) (hv : meth.sig.returnType = none → v = none) (hc : cells ≤ nc) (hn : slots ≤ ns) (hq : K v T.heap locs)
    (st : ∀ fs, (∀ (f : JFrame) (acts : List Action), f.method = m → f.locked = none → f.entered = [] → (doReturn e (T.setTop f) acts v).1 = T.setFrames fs) → Steps p.tables e below (T.setTop g) (T.setFrames fs)) : own_G p e below s K nc ns T g := by
  obtain ⟨fs, hr, hrun, hended, hW, hsame⟩ := X.leave (v := v) hv hlk
  exact ⟨_, _, st fs hr, hrun, hended, _, _, rfl, hq, ⟨_, rfl⟩, hW, hsame.mono hc hn⟩
theorem own_retN (X : Stand p l e R s m args below meth c T locs cells slots) (hx : p.tables.exec = Jvm.exec) (hlk : meth.locks = false) {pc : Nat} {Ls : Array Slot} {z z' : Int32} {t : FieldType} {rest : List Value} (hret : meth.sig.returnType = some t) (ht : t = .boolean ∨ t = .byte ∨ t = .char ∨ t = .short)
    (hd : decode c.code pc = .ok (.ireturn, 1)) (hz : nar t z = z') (hc : cells ≤ nc) (hn : slots ≤ ns) (hq : K (some (.int z')) T.heap locs) : own_G p e below s K nc ns T (mkF m pc Ls (.int z :: rest)) := by
  subst hz
  exact own_leave X hlk (fun h => by rw [hret] at h; cases h) hc hn hq fun fs hr => retN X hx hret ht hd hr
theorem own_retI (X : Stand p l e R s m args below meth c T locs cells slots) (hx : p.tables.exec = Jvm.exec) (hlk : meth.locks = false) {pc : Nat} {Ls : Array Slot} {z : Int32} {rest : List Value} (hret : meth.sig.returnType = some .int)
    (hd : decode c.code pc = .ok (.ireturn, 1)) (hc : cells ≤ nc) (hn : slots ≤ ns) (hq : K (some (.int z)) T.heap locs) : own_G p e below s K nc ns T (mkF m pc Ls (.int z :: rest)) :=
  own_leave X hlk (fun h => by rw [hret] at h; cases h) hc hn hq fun fs hr => retOut X hx hret rfl (Or.inl ⟨rfl, Or.inl rfl, _, rfl⟩) hd hr
theorem own_retJ (X : Stand p l e R s m args below meth c T locs cells slots) (hx : p.tables.exec = Jvm.exec) (hlk : meth.locks = false) {pc : Nat} {Ls : Array Slot} {z : Int64} {rest : List Value} (hret : meth.sig.returnType = some .long)
    (hd : decode c.code pc = .ok (.lreturn, 1)) (hc : cells ≤ nc) (hn : slots ≤ ns) (hq : K (some (.long z)) T.heap locs) : own_G p e below s K nc ns T (mkF m pc Ls (.long z :: rest)) :=
  own_leave X hlk (fun h => by rw [hret] at h; cases h) hc hn hq fun fs hr => retOut X hx hret rfl (Or.inr (Or.inl ⟨rfl, rfl, _, rfl⟩)) hd hr
theorem own_retR (X : Stand p l e R s m args below meth c T locs cells slots) (hx : p.tables.exec = Jvm.exec) (hlk : meth.locks = false) {pc : Nat} {Ls : Array Slot} {v : Value} {t : FieldType} {rest : List Value} (hret : meth.sig.returnType = some t) (ht : t.isReference = true) (hv : v.isRef = true) (hnv : narrow t v = v)
    (hd : decode c.code pc = .ok (.areturn, 1)) (hc : cells ≤ nc) (hn : slots ≤ ns) (hq : K (some v) T.heap locs) : own_G p e below s K nc ns T (mkF m pc Ls (v :: rest)) :=
  own_leave X hlk (fun h => by rw [hret] at h; cases h) hc hn hq fun fs hr => retOut X hx hret hnv (Or.inr (Or.inr (Or.inr (Or.inr ⟨rfl, ht, hv⟩)))) hd hr
theorem own_retV (X : Stand p l e R s m args below meth c T locs cells slots) (hx : p.tables.exec = Jvm.exec) (hlk : meth.locks = false) {pc : Nat} {Ls : Array Slot} (hret : meth.sig.returnType = none)
    (hd : decode c.code pc = .ok (.return_, 1)) (hc : cells ≤ nc) (hn : slots ≤ ns) (hq : K none T.heap locs) : own_G p e below s K nc ns T (mkF m pc Ls []) :=
  own_leave X hlk (fun _ => rfl) hc hn hq fun fs hr => X.returnOut hx hret hd hr
theorem own_selp {s : State} {args : Array Value} {y : MethodName} {n : Nat} (wi : (Jvm.Cond.instantiable y.cls n).before args s = true) (hp : (Jvm.Cond.privateMethod y).before args s = true) (hi : (Jvm.Cond.instanceMethod y).before args s = true)
    (hy : y.cls ≠ "java/lang/invoke/MethodHandle" ∧ y.cls ≠ "java/lang/invoke/VarHandle") : (Jvm.Cond.selects y.cls y y).before args s = true := by
  obtain ⟨c, k, h1, h2, h3, h4, -⟩ := Cond.instantiable_spec wi
  exact Jvm.Stand.selects_self_of_private h1 h2 (Bool.or_eq_false_iff.mp h4).1 (Cond.privateMethod_at hp) hi hy
theorem own_miss {k : Int32} (i : Int) (n : Int32) (e : n.toInt = i) (hc : ¬ k = n) : i ≠ k.toInt := fun h => hc (Int32.toInt_inj.mp (h.symm.trans e.symm))
theorem own_posI {x : Int32} (h : (0 : Int32) < x) : x ≠ 0 := fun q => by rw [q] at h; exact absurd h (by decide)
theorem own_posJ {x : Int64} (h : (0 : Int64) < x) : x ≠ 0 := fun q => by rw [q] at h; exact absurd h (by decide)
theorem own_asI {x y : Int32} (h : y < x) : ¬ x < y := fun q => Int32.lt_irrefl (Int32.lt_trans h q)
theorem own_asJ {x y : Int64} (h : y < x) : ¬ x < y := fun q => Int64.lt_irrefl (Int64.lt_trans h q)
theorem own_eqltI {x y : Int32} (h : x = y) : ¬ x < y := fun q => by rw [h] at q; exact Int32.lt_irrefl q
theorem own_eqltJ {x y : Int64} (h : x = y) : ¬ x < y := fun q => by rw [h] at q; exact Int64.lt_irrefl q
theorem own_triI {x y : Int32} (h : ¬ x = y) (q : ¬ y < x) : x < y := by
  rw [Int32.lt_iff_toInt_lt] at *
  rw [← Int32.toInt_inj] at h
  omega
theorem own_triJ {x y : Int64} (h : ¬ x = y) (q : ¬ y < x) : x < y := by
  rw [Int64.lt_iff_toInt_lt] at *
  rw [← Int64.toInt_inj] at h
  omega
theorem own_ltneI {x y : Int32} (h : x < y) : ¬ x = y := fun q => by rw [q] at h; exact Int32.lt_irrefl h
theorem own_ltneJ {x y : Int64} (h : x < y) : ¬ x = y := fun q => by rw [q] at h; exact Int64.lt_irrefl h
theorem own_ltne'I {x y : Int32} (h : y < x) : ¬ x = y := fun q => by rw [q] at h; exact Int32.lt_irrefl h
theorem own_ltne'J {x y : Int64} (h : y < x) : ¬ x = y := fun q => by rw [q] at h; exact Int64.lt_irrefl h
theorem own_nnI {x y : Int32} (h : ¬ x < y) (q : ¬ y < x) : x = y := by
  rw [Int32.lt_iff_toInt_lt] at *
  rw [← Int32.toInt_inj]
  omega
theorem own_nnJ {x y : Int64} (h : ¬ x < y) (q : ¬ y < x) : x = y := by
  rw [Int64.lt_iff_toInt_lt] at *
  rw [← Int64.toInt_inj]
  omega
end Own
theorem d1_0 : decode prog_116_method_2_code 0 = .ok (.iload_n 0, 1) := by decide +kernel
theorem d1_1 : decode prog_116_method_2_code 1 = .ok (.bipush 33, 2) := by decide +kernel
theorem d1_3 : decode prog_116_method_2_code 3 = .ok (.if_icmp .lt 13, 3) := by decide +kernel
theorem d1_6 : decode prog_116_method_2_code 6 = .ok (.iload_n 0, 1) := by decide +kernel
theorem d1_7 : decode prog_116_method_2_code 7 = .ok (.bipush 126, 2) := by decide +kernel
theorem d1_9 : decode prog_116_method_2_code 9 = .ok (.if_icmp .gt 7, 3) := by decide +kernel
theorem d1_12 : decode prog_116_method_2_code 12 = .ok (.iconst 1, 1) := by decide +kernel
theorem d1_13 : decode prog_116_method_2_code 13 = .ok (.goto 4, 3) := by decide +kernel
theorem d1_16 : decode prog_116_method_2_code 16 = .ok (.iconst 0, 1) := by decide +kernel
theorem d1_17 : decode prog_116_method_2_code 17 = .ok (.ireturn, 1) := by decide +kernel
theorem pn_com_example_junctura_junctura_model_Phred : plainName "com/example/junctura/junctura/model/Phred" = true := by first | (simp [plainName, overriddenIn]; done) | decide +kernel
theorem ef_1 (m : MethodId) (p1_0 : Int32) : entryFrame m #[(.int p1_0)] 1 = mkF m 0 #[.val (.int p1_0)] [] := by first | (simp [entryFrame, mkF, argsToLocals, Value.category]; done) | rfl
def r1 (p1_0 : Int32) : Int32 := (if p1_0 < (33 : Int32) then (0 : Int32) else (if (126 : Int32) < p1_0 then (0 : Int32) else (1 : Int32)))
def Q1 (Z : State) (p1_0 : Int32) (h0 : Heap) (n0 : Nat) (v : Option Value) (h : Heap) (L : List Loc) : Prop := v = some (.int (r1 p1_0)) ∧ Fr n0 L ∧ h = h0
set_option maxRecDepth 65536 in
set_option maxHeartbeats 40000000 in
theorem rm1 (l : Launch) (Z : State) (a0 : Array Value) (hw : ∀ d ∈ tables_1, d.before a0 Z = true) (ws : List Jvm.Cond) (p1_0 : Int32) (h0 : Heap) (n0 : Nat) (Z0 : n0 ≤ h0.size) :
    MetFree l (⟨"com/example/junctura/junctura/model/Phred", "isQuality", "(C)Z"⟩ : MethodName) (head1 (Jvm.Cond.code (⟨"com/example/junctura/junctura/model/Phred", "isQuality", "(C)Z"⟩ : MethodName) prog_116_method_2_code 1 (some .boolean) :: ws) ({ frames := 0, cells := 0, slots := 0, locals := 0 } : Room)) (fun a U => a = #[(.int p1_0)] ∧ Z.Warmed39 U.vm ∧ U.heap = h0) (fun _ _ _ _ _ => True) (fun _ U o U' => ∃ v L, o = .returned v ∧ Q1 Z p1_0 h0 n0 v U'.heap L ∧ FrameEnd U o U' L ({ frames := 0, cells := 0, slots := 0, locals := 0 } : Room).cells ({ frames := 0, cells := 0, slots := 0, locals := 0 } : Room).slots) := by
  refine MetFree.of_bodySF (plainFor_of_name pn_com_example_junctura_junctura_model_Phred) hisR ?_
  intro p e s m args below meth c s₁ Bd hml0 hP hK
  obtain ⟨rfl, hZ, hh⟩ := hP
  have hx := Bd.exec
  have hby := Bd.bytes
  have hlk := Bd.notSynchronized
  have hret := Bd.returns
  have hml : c.maxLocals = 1 := hml0
  have hown : s.vm.findClass "com/example/junctura/junctura/model/Phred" = some m.cls := findClass_of_methodNamed Bd.named
  have hnm := (name_of_methodNamed Bd.named Bd.method).1
  have X0 : Stand p l e ({ frames := 0, cells := 0, slots := 0, locals := 0 } : Room) s m #[(.int p1_0)] below meth c s₁ [] 0 0 := Stand.of_body Bd
  have e0 : s₁.heap = h0 := by rw [← hh, Bd.state]; rfl
  have N0 := Fr.nil n0
  have K0 : Keep h0 h0 [] := Keep.refl _ _
  show own_G p e below s (Q1 Z p1_0 h0 n0) ({ frames := 0, cells := 0, slots := 0, locals := 0 } : Room).cells ({ frames := 0, cells := 0, slots := 0, locals := 0 } : Room).slots s₁ (entryFrame m #[(.int p1_0)] 1)
  refine own_cast (ef_1 m p1_0) ?_
  refine own_s (g' := (mkF m 1 #[.val (.int p1_0)] [(.int p1_0)])) (fun _ k => XS.iloadN X0.here hx rfl (hb hby d1_0) rfl k) ?_
  refine own_s (g' := (mkF m 3 #[.val (.int p1_0)] [(.int 33), (.int p1_0)])) (fun _ k => XS.bipush X0.here hx rfl (hb hby d1_1) k) ?_
  by_cases c1 : p1_0 < (33 : Int32)
  ·skip
   refine own_s (g' := (mkF m 16 #[.val (.int p1_0)] [])) (fun _ k => XS.icmpYes X0.here hx rfl (pc0 := 3) (pc' := 16) rfl (hb hby d1_3) rfl (tlt c1).1 (by decide) (by decide) k) ?_
   refine own_s (g' := (mkF m 17 #[.val (.int p1_0)] [(.int 0)])) (fun _ k => XS.iconst X0.here hx rfl (hb hby d1_16) k) ?_
   refine own_retN X0 hx hlk (t := .boolean) hret (by simp) (hb hby d1_17) (z' := (0 : Int32)) (by decide) (by decide) (by decide) ?_
   show Q1 Z p1_0 h0 n0 _ s₁.heap _
   rw [e0]
   exact ⟨(congrArg (fun z => some (Value.int z)) (show (0 : Int32) = (r1 p1_0) from (Eq.symm (if_pos c1)))), N0, rfl⟩
  ·skip
   refine own_s (g' := (mkF m 6 #[.val (.int p1_0)] [])) (fun _ k => XS.icmpNo X0.here hx rfl (hb hby d1_3) rfl (flt c1).1 k) ?_
   refine own_s (g' := (mkF m 7 #[.val (.int p1_0)] [(.int p1_0)])) (fun _ k => XS.iloadN X0.here hx rfl (hb hby d1_6) rfl k) ?_
   refine own_s (g' := (mkF m 9 #[.val (.int p1_0)] [(.int 126), (.int p1_0)])) (fun _ k => XS.bipush X0.here hx rfl (hb hby d1_7) k) ?_
   by_cases c2 : (126 : Int32) < p1_0
   ·skip
    refine own_s (g' := (mkF m 16 #[.val (.int p1_0)] [])) (fun _ k => XS.icmpYes X0.here hx rfl (pc0 := 9) (pc' := 16) rfl (hb hby d1_9) rfl (tlt c2).2.2.1 (by decide) (by decide) k) ?_
    refine own_s (g' := (mkF m 17 #[.val (.int p1_0)] [(.int 0)])) (fun _ k => XS.iconst X0.here hx rfl (hb hby d1_16) k) ?_
    refine own_retN X0 hx hlk (t := .boolean) hret (by simp) (hb hby d1_17) (z' := (0 : Int32)) (by decide) (by decide) (by decide) ?_
    show Q1 Z p1_0 h0 n0 _ s₁.heap _
    rw [e0]
    exact ⟨(congrArg (fun z => some (Value.int z)) (show (0 : Int32) = (r1 p1_0) from (Eq.symm ((if_neg c1).trans (if_pos c2))))), N0, rfl⟩
   ·skip
    refine own_s (g' := (mkF m 12 #[.val (.int p1_0)] [])) (fun _ k => XS.icmpNo X0.here hx rfl (hb hby d1_9) rfl (flt c2).2.2.1 k) ?_
    refine own_s (g' := (mkF m 13 #[.val (.int p1_0)] [(.int 1)])) (fun _ k => XS.iconst X0.here hx rfl (hb hby d1_12) k) ?_
    refine own_s (g' := (mkF m 17 #[.val (.int p1_0)] [(.int 1)])) (fun _ k => XS.goto X0.here hx rfl (pc0 := 13) (pc' := 17) rfl (hb hby d1_13) (by decide) (by decide) k) ?_
    refine own_retN X0 hx hlk (t := .boolean) hret (by simp) (hb hby d1_17) (z' := (1 : Int32)) (by decide) (by decide) (by decide) ?_
    show Q1 Z p1_0 h0 n0 _ s₁.heap _
    rw [e0]
    exact ⟨(congrArg (fun z => some (Value.int z)) (show (1 : Int32) = (r1 p1_0) from (Eq.symm ((if_neg c1).trans (if_neg c2))))), N0, rfl⟩
theorem d2_0 : decode method_2_code 0 = .ok (.iload_n 0, 1) := by decide +kernel
theorem d2_1 : decode method_2_code 1 = .ok (.bipush 33, 2) := by decide +kernel
theorem d2_3 : decode method_2_code 3 = .ok (.isub, 1) := by decide +kernel
theorem d2_4 : decode method_2_code 4 = .ok (.istore_n 1, 1) := by decide +kernel
theorem d2_5 : decode method_2_code 5 = .ok (.iload_n 1, 1) := by decide +kernel
theorem d2_6 : decode method_2_code 6 = .ok (.ifCond .lt 13, 3) := by decide +kernel
theorem d2_9 : decode method_2_code 9 = .ok (.iload_n 1, 1) := by decide +kernel
theorem d2_10 : decode method_2_code 10 = .ok (.bipush 93, 2) := by decide +kernel
theorem d2_12 : decode method_2_code 12 = .ok (.if_icmp .gt 7, 3) := by decide +kernel
theorem d2_15 : decode method_2_code 15 = .ok (.iconst 1, 1) := by decide +kernel
theorem d2_16 : decode method_2_code 16 = .ok (.goto 4, 3) := by decide +kernel
theorem d2_19 : decode method_2_code 19 = .ok (.iconst 0, 1) := by decide +kernel
theorem d2_20 : decode method_2_code 20 = .ok (.ireturn, 1) := by decide +kernel
theorem pn_com_example_junctura_junctura_model_PhredIsQualityPinLaw : plainName "com/example/junctura/junctura/model/PhredIsQualityPinLaw" = true := by first | (simp [plainName, overriddenIn]; done) | decide +kernel
theorem ef_2 (m : MethodId) (p2_0 : Int32) : entryFrame m #[(.int p2_0)] 2 = mkF m 0 #[.val (.int p2_0), .unset] [] := by first | (simp [entryFrame, mkF, argsToLocals, Value.category]; done) | rfl
def r2 (p2_0 : Int32) : Int32 := (if (p2_0 - (33 : Int32)) < (0 : Int32) then (0 : Int32) else (if (93 : Int32) < (p2_0 - (33 : Int32)) then (0 : Int32) else (1 : Int32)))
def Q2 (Z : State) (p2_0 : Int32) (h0 : Heap) (n0 : Nat) (v : Option Value) (h : Heap) (L : List Loc) : Prop := v = some (.int (r2 p2_0)) ∧ Fr n0 L ∧ h = h0
set_option maxRecDepth 65536 in
set_option maxHeartbeats 40000000 in
theorem rm2 (l : Launch) (Z : State) (a0 : Array Value) (hw : ∀ d ∈ tables_1, d.before a0 Z = true) (ws : List Jvm.Cond) (p2_0 : Int32) (h0 : Heap) (n0 : Nat) (Z0 : n0 ≤ h0.size) :
    MetFree l (⟨"com/example/junctura/junctura/model/PhredIsQualityPinLaw", "expected", "(C)Z"⟩ : MethodName) (head1 (Jvm.Cond.code (⟨"com/example/junctura/junctura/model/PhredIsQualityPinLaw", "expected", "(C)Z"⟩ : MethodName) method_2_code 2 (some .boolean) :: ws) ({ frames := 0, cells := 0, slots := 0, locals := 0 } : Room)) (fun a U => a = #[(.int p2_0)] ∧ Z.Warmed39 U.vm ∧ U.heap = h0) (fun _ _ _ _ _ => True) (fun _ U o U' => ∃ v L, o = .returned v ∧ Q2 Z p2_0 h0 n0 v U'.heap L ∧ FrameEnd U o U' L ({ frames := 0, cells := 0, slots := 0, locals := 0 } : Room).cells ({ frames := 0, cells := 0, slots := 0, locals := 0 } : Room).slots) := by
  refine MetFree.of_bodySF (plainFor_of_name pn_com_example_junctura_junctura_model_PhredIsQualityPinLaw) hisR ?_
  intro p e s m args below meth c s₁ Bd hml0 hP hK
  obtain ⟨rfl, hZ, hh⟩ := hP
  have hx := Bd.exec
  have hby := Bd.bytes
  have hlk := Bd.notSynchronized
  have hret := Bd.returns
  have hml : c.maxLocals = 2 := hml0
  have hown : s.vm.findClass "com/example/junctura/junctura/model/PhredIsQualityPinLaw" = some m.cls := findClass_of_methodNamed Bd.named
  have hnm := (name_of_methodNamed Bd.named Bd.method).1
  have X0 : Stand p l e ({ frames := 0, cells := 0, slots := 0, locals := 0 } : Room) s m #[(.int p2_0)] below meth c s₁ [] 0 0 := Stand.of_body Bd
  have e0 : s₁.heap = h0 := by rw [← hh, Bd.state]; rfl
  have N0 := Fr.nil n0
  have K0 : Keep h0 h0 [] := Keep.refl _ _
  show own_G p e below s (Q2 Z p2_0 h0 n0) ({ frames := 0, cells := 0, slots := 0, locals := 0 } : Room).cells ({ frames := 0, cells := 0, slots := 0, locals := 0 } : Room).slots s₁ (entryFrame m #[(.int p2_0)] 2)
  refine own_cast (ef_2 m p2_0) ?_
  refine own_s (g' := (mkF m 1 #[.val (.int p2_0), .unset] [(.int p2_0)])) (fun _ k => XS.iloadN X0.here hx rfl (hb hby d2_0) rfl k) ?_
  refine own_s (g' := (mkF m 3 #[.val (.int p2_0), .unset] [(.int 33), (.int p2_0)])) (fun _ k => XS.bipush X0.here hx rfl (hb hby d2_1) k) ?_
  refine own_s (g' := (mkF m 4 #[.val (.int p2_0), .unset] [(.int (p2_0 - (33 : Int32)))])) (fun _ k => XS.isub X0.here hx rfl (hb hby d2_3) rfl k) ?_
  refine own_s (g' := (mkF m 5 #[.val (.int p2_0), .val (.int (p2_0 - (33 : Int32)))] [])) (fun _ k => XS.istoreN X0.here hx rfl (hb hby d2_4) rfl (l' := #[.val (.int p2_0), .val (.int (p2_0 - (33 : Int32)))]) rfl k) ?_
  refine own_s (g' := (mkF m 6 #[.val (.int p2_0), .val (.int (p2_0 - (33 : Int32)))] [(.int (p2_0 - (33 : Int32)))])) (fun _ k => XS.iloadN X0.here hx rfl (hb hby d2_5) rfl k) ?_
  by_cases c3 : (p2_0 - (33 : Int32)) < (0 : Int32)
  ·skip
   refine own_s (g' := (mkF m 19 #[.val (.int p2_0), .val (.int (p2_0 - (33 : Int32)))] [])) (fun _ k => XS.ifYes X0.here hx rfl (pc0 := 6) (pc' := 19) rfl (hb hby d2_6) rfl ((if0 _ _).trans (tlt c3).1) (by decide) (by decide) k) ?_
   refine own_s (g' := (mkF m 20 #[.val (.int p2_0), .val (.int (p2_0 - (33 : Int32)))] [(.int 0)])) (fun _ k => XS.iconst X0.here hx rfl (hb hby d2_19) k) ?_
   refine own_retN X0 hx hlk (t := .boolean) hret (by simp) (hb hby d2_20) (z' := (0 : Int32)) (by decide) (by decide) (by decide) ?_
   show Q2 Z p2_0 h0 n0 _ s₁.heap _
   rw [e0]
   exact ⟨(congrArg (fun z => some (Value.int z)) (show (0 : Int32) = (r2 p2_0) from (Eq.symm (if_pos c3)))), N0, rfl⟩
  ·skip
   refine own_s (g' := (mkF m 9 #[.val (.int p2_0), .val (.int (p2_0 - (33 : Int32)))] [])) (fun _ k => XS.ifNo X0.here hx rfl (hb hby d2_6) rfl ((if0 _ _).trans (flt c3).1) k) ?_
   refine own_s (g' := (mkF m 10 #[.val (.int p2_0), .val (.int (p2_0 - (33 : Int32)))] [(.int (p2_0 - (33 : Int32)))])) (fun _ k => XS.iloadN X0.here hx rfl (hb hby d2_9) rfl k) ?_
   refine own_s (g' := (mkF m 12 #[.val (.int p2_0), .val (.int (p2_0 - (33 : Int32)))] [(.int 93), (.int (p2_0 - (33 : Int32)))])) (fun _ k => XS.bipush X0.here hx rfl (hb hby d2_10) k) ?_
   by_cases c4 : (93 : Int32) < (p2_0 - (33 : Int32))
   ·skip
    refine own_s (g' := (mkF m 19 #[.val (.int p2_0), .val (.int (p2_0 - (33 : Int32)))] [])) (fun _ k => XS.icmpYes X0.here hx rfl (pc0 := 12) (pc' := 19) rfl (hb hby d2_12) rfl (tlt c4).2.2.1 (by decide) (by decide) k) ?_
    refine own_s (g' := (mkF m 20 #[.val (.int p2_0), .val (.int (p2_0 - (33 : Int32)))] [(.int 0)])) (fun _ k => XS.iconst X0.here hx rfl (hb hby d2_19) k) ?_
    refine own_retN X0 hx hlk (t := .boolean) hret (by simp) (hb hby d2_20) (z' := (0 : Int32)) (by decide) (by decide) (by decide) ?_
    show Q2 Z p2_0 h0 n0 _ s₁.heap _
    rw [e0]
    exact ⟨(congrArg (fun z => some (Value.int z)) (show (0 : Int32) = (r2 p2_0) from (Eq.symm ((if_neg c3).trans (if_pos c4))))), N0, rfl⟩
   ·skip
    refine own_s (g' := (mkF m 15 #[.val (.int p2_0), .val (.int (p2_0 - (33 : Int32)))] [])) (fun _ k => XS.icmpNo X0.here hx rfl (hb hby d2_12) rfl (flt c4).2.2.1 k) ?_
    refine own_s (g' := (mkF m 16 #[.val (.int p2_0), .val (.int (p2_0 - (33 : Int32)))] [(.int 1)])) (fun _ k => XS.iconst X0.here hx rfl (hb hby d2_15) k) ?_
    refine own_s (g' := (mkF m 20 #[.val (.int p2_0), .val (.int (p2_0 - (33 : Int32)))] [(.int 1)])) (fun _ k => XS.goto X0.here hx rfl (pc0 := 16) (pc' := 20) rfl (hb hby d2_16) (by decide) (by decide) k) ?_
    refine own_retN X0 hx hlk (t := .boolean) hret (by simp) (hb hby d2_20) (z' := (1 : Int32)) (by decide) (by decide) (by decide) ?_
    show Q2 Z p2_0 h0 n0 _ s₁.heap _
    rw [e0]
    exact ⟨(congrArg (fun z => some (Value.int z)) (show (1 : Int32) = (r2 p2_0) from (Eq.symm ((if_neg c3).trans (if_neg c4))))), N0, rfl⟩
theorem own_q (c : Int32) (h0 : 0 ≤ c.toInt) (h1 : c.toInt < 65536) : r1 c = r2 c := by
  unfold r1 r2
  have e1 := c_isub c 33
  have e2 := rng32 (c - 33)
  simp only [Int32.lt_iff_toInt_lt] at *
  have k1 : (33 : Int32).toInt = 33 := by decide
  have k2 : (126 : Int32).toInt = 126 := by decide
  have k3 : (93 : Int32).toInt = 93 := by decide
  have k4 : (0 : Int32).toInt = 0 := by decide
  rw [k1] at e1
  rw [k1, k2, k3, k4]
  split <;> split <;> (try split) <;> (try split) <;> first | rfl | omega
theorem pd__C_Z : parseMethodDescriptor "(C)Z" = some ⟨[.char], some .boolean⟩ := by decide +kernel
theorem ef_0 (m : MethodId) (p0_0 : Int32) (p0_1 : Int32) : entryFrame m #[(.int p0_0), (.int p0_1)] maxLocals = mkF m 0 #[.val (.int p0_0), .val (.int p0_1), .unset, .unset, .unset, .unset] [] := by first | (simp [entryFrame, mkF, argsToLocals, Value.category, maxLocals]; done) | rfl
def Q0 (Z : State) (p0_0 : Int32) (p0_1 : Int32) (h0 : Heap) (n0 : Nat) (v : Option Value) (h : Heap) (L : List Loc) : Prop := v = some (.int (1 : Int32)) ∧ Fr n0 L
set_option maxRecDepth 65536 in
set_option maxHeartbeats 40000000 in
theorem rm0 (l : Launch) (Z : State) (a0 : Array Value) (hw : ∀ d ∈ tables_1, d.before a0 Z = true) (ws : List Jvm.Cond) (p0_0 : Int32) (p0_1 : Int32) (h0 : Heap) (n0 : Nat) (Z0 : n0 ≤ h0.size) :
    MetFree l x (head1 (Jvm.Cond.code x code maxLocals ret :: ws) room_1) (fun a U => a = #[(.int p0_0), (.int p0_1)] ∧ Z.Warmed39 U.vm ∧ U.heap = h0) (fun _ _ _ _ _ => True) (fun _ U o U' => ∃ v L, o = .returned v ∧ Q0 Z p0_0 p0_1 h0 n0 v U'.heap L ∧ FrameEnd U o U' L 0 0) := by
  refine MetFree.of_bodySF (plainFor_of_name pn_com_example_junctura_junctura_model_PhredIsQualityPinLaw) hisR ?_
  intro p e s m args below meth c s₁ Bd hml0 hP hK
  obtain ⟨rfl, hZ, hh⟩ := hP
  have hx := Bd.exec
  have hby := Bd.bytes
  have hlk := Bd.notSynchronized
  have hret := Bd.returns
  have hml : c.maxLocals = 6 := hml0
  have hown : s.vm.findClass "com/example/junctura/junctura/model/PhredIsQualityPinLaw" = some m.cls := findClass_of_methodNamed Bd.named
  have hnm := (name_of_methodNamed Bd.named Bd.method).1
  have X0 : Stand p l e room_1 s m #[(.int p0_0), (.int p0_1)] below meth c s₁ [] 0 0 := Stand.of_body Bd
  have e0 : s₁.heap = h0 := by rw [← hh, Bd.state]; rfl
  have N0 := Fr.nil n0
  have K0 : Keep h0 h0 [] := Keep.refl _ _
  show own_G p e below s (Q0 Z p0_0 p0_1 h0 n0) 0 0 s₁ (entryFrame m #[(.int p0_0), (.int p0_1)] maxLocals)
  have ww0 := hw _ (List.mem_of_getElem? (i := 0) rfl)
  have ww1 := hw _ (List.mem_of_getElem? (i := 1) rfl)
  have ww2 := hw _ (List.mem_of_getElem? (i := 2) rfl)
  have ww3 := hw _ (List.mem_of_getElem? (i := 3) rfl)
  have ww4 := hw _ (List.mem_of_getElem? (i := 4) rfl)
  have ww5 := hw _ (List.mem_of_getElem? (i := 5) rfl)
  have ww6 := hw _ (List.mem_of_getElem? (i := 6) rfl)
  have ww7 := hw _ (List.mem_of_getElem? (i := 7) rfl)
  have ww8 := hw _ (List.mem_of_getElem? (i := 8) rfl)
  refine own_cast (ef_0 m p0_0 p0_1) ?_
  refine own_s (g' := (mkF m 1 #[.val (.int p0_0), .val (.int p0_1), .unset, .unset, .unset, .unset] [(.int p0_0)])) (fun _ k => XS.iloadN X0.here hx rfl (hb hby at_0) rfl k) ?_
  refine own_s (g' := (mkF m 3 #[.val (.int p0_0), .val (.int p0_1), .unset, .unset, .unset, .unset] [(.int 65535), (.int p0_0)])) (X0.ldcInt hx hown (mvT hZ ww0) (g := (mkF m 1 #[.val (.int p0_0), .val (.int p0_1), .unset, .unset, .unset, .unset] [(.int p0_0)])) rfl (hb hby at_1)) ?_
  refine own_s (g' := (mkF m 4 #[.val (.int p0_0), .val (.int p0_1), .unset, .unset, .unset, .unset] [(.int (p0_0 &&& (65535 : Int32)))])) (fun _ k => XS.iand X0.here hx rfl (hb hby at_3) rfl k) ?_
  refine own_s (g' := (mkF m 5 #[.val (.int p0_0), .val (.int p0_1), .unset, .unset, .unset, .unset] [(.int (p0_0 &&& (65535 : Int32)).toUInt32.toUInt16.toUInt32.toInt32)])) (fun _ k => XS.i2c X0.here hx rfl (hb hby at_4) rfl k) ?_
  refine own_s (g' := (mkF m 6 #[.val (.int p0_0), .val (.int p0_1), .val (.int (p0_0 &&& (65535 : Int32)).toUInt32.toUInt16.toUInt32.toInt32), .unset, .unset, .unset] [])) (fun _ k => XS.istoreN X0.here hx rfl (hb hby at_5) rfl (l' := #[.val (.int p0_0), .val (.int p0_1), .val (.int (p0_0 &&& (65535 : Int32)).toUInt32.toUInt16.toUInt32.toInt32), .unset, .unset, .unset]) rfl k) ?_
  refine own_s (g' := (mkF m 7 #[.val (.int p0_0), .val (.int p0_1), .val (.int (p0_0 &&& (65535 : Int32)).toUInt32.toUInt16.toUInt32.toInt32), .unset, .unset, .unset] [(.int p0_1)])) (fun _ k => XS.iloadN X0.here hx rfl (hb hby at_6) rfl k) ?_
  refine own_s (g' := (mkF m 9 #[.val (.int p0_0), .val (.int p0_1), .val (.int (p0_0 &&& (65535 : Int32)).toUInt32.toUInt16.toUInt32.toInt32), .unset, .unset, .unset] [(.int 127), (.int p0_1)])) (fun _ k => XS.bipush X0.here hx rfl (hb hby at_7) k) ?_
  refine own_s (g' := (mkF m 10 #[.val (.int p0_0), .val (.int p0_1), .val (.int (p0_0 &&& (65535 : Int32)).toUInt32.toUInt16.toUInt32.toInt32), .unset, .unset, .unset] [(.int (p0_1 &&& (127 : Int32)))])) (fun _ k => XS.iand X0.here hx rfl (hb hby at_9) rfl k) ?_
  refine own_s (g' := (mkF m 11 #[.val (.int p0_0), .val (.int p0_1), .val (.int (p0_0 &&& (65535 : Int32)).toUInt32.toUInt16.toUInt32.toInt32), .unset, .unset, .unset] [(.int (p0_1 &&& (127 : Int32)).toUInt32.toUInt16.toUInt32.toInt32)])) (fun _ k => XS.i2c X0.here hx rfl (hb hby at_10) rfl k) ?_
  refine own_s (g' := (mkF m 12 #[.val (.int p0_0), .val (.int p0_1), .val (.int (p0_0 &&& (65535 : Int32)).toUInt32.toUInt16.toUInt32.toInt32), .val (.int (p0_1 &&& (127 : Int32)).toUInt32.toUInt16.toUInt32.toInt32), .unset, .unset] [])) (fun _ k => XS.istoreN X0.here hx rfl (hb hby at_11) rfl (l' := #[.val (.int p0_0), .val (.int p0_1), .val (.int (p0_0 &&& (65535 : Int32)).toUInt32.toUInt16.toUInt32.toInt32), .val (.int (p0_1 &&& (127 : Int32)).toUInt32.toUInt16.toUInt32.toInt32), .unset, .unset]) rfl k) ?_
  refine own_s (g' := (mkF m 13 #[.val (.int p0_0), .val (.int p0_1), .val (.int (p0_0 &&& (65535 : Int32)).toUInt32.toUInt16.toUInt32.toInt32), .val (.int (p0_1 &&& (127 : Int32)).toUInt32.toUInt16.toUInt32.toInt32), .unset, .unset] [(.int (p0_0 &&& (65535 : Int32)).toUInt32.toUInt16.toUInt32.toInt32)])) (fun _ k => XS.iloadN X0.here hx rfl (hb hby at_12) rfl k) ?_
  obtain ⟨_, _, ⟨T5, L5, k5, n5⟩, -, X5, ⟨Lc5, hQ5, l5, y5, z5⟩, st5⟩ := Jvm.LawKit.callS X0 hx (y := (⟨"com/example/junctura/junctura/model/Phred", "isQuality", "(C)Z"⟩ : MethodName)) hown (mvT hZ ww1) (mvT hZ ww2) (mvT hZ ww3) (mvT hZ ww4) (by decide) (backOf (W := 0) (rm1 l Z a0 hw [] ((p0_0 &&& (65535 : Int32)).toUInt32.toUInt16.toUInt32.toInt32) h0 n0 Z0 ) hZ ww4 ww3 (by decide) (by decide)) (g := (mkF m 13 #[.val (.int p0_0), .val (.int p0_1), .val (.int (p0_0 &&& (65535 : Int32)).toUInt32.toUInt16.toUInt32.toInt32), .val (.int (p0_1 &&& (127 : Int32)).toUInt32.toUInt16.toUInt32.toInt32), .unset, .unset] [(.int (p0_0 &&& (65535 : Int32)).toUInt32.toUInt16.toUInt32.toInt32)])) rfl (by rw [hml]; rfl) (argsL := [(.int (p0_0 &&& (65535 : Int32)).toUInt32.toUInt16.toUInt32.toInt32)]) (rest := []) (lenOf pd__C_Z rfl) rfl (by show 2 * 0 + _ ≤ _; exact Nat.le_of_eq rfl) (hb hby at_13) (fun _ _ => ⟨rfl, e0, (by decide : 0 + 0 ≤ _), (by decide : 0 + 0 ≤ _)⟩)
  dsimp only [Pt.U, Pt.locs, Pt.cells, Pt.slots] at X5 l5 y5 z5 st5 hQ5
  subst l5 y5 z5
  obtain ⟨rfl, N5q, eh5⟩ := hQ5
  have N5 := Fr.app N0 N5q
  refine own_s (g' := (mkF m 16 #[.val (.int p0_0), .val (.int p0_1), .val (.int (p0_0 &&& (65535 : Int32)).toUInt32.toUInt16.toUInt32.toInt32), .val (.int (p0_1 &&& (127 : Int32)).toUInt32.toUInt16.toUInt32.toInt32), .unset, .unset] [(.int (r1 (p0_0 &&& (65535 : Int32)).toUInt32.toUInt16.toUInt32.toInt32))])) st5 ?_
  refine own_s (g' := (mkF m 17 #[.val (.int p0_0), .val (.int p0_1), .val (.int (p0_0 &&& (65535 : Int32)).toUInt32.toUInt16.toUInt32.toInt32), .val (.int (p0_1 &&& (127 : Int32)).toUInt32.toUInt16.toUInt32.toInt32), .unset, .unset] [(.int (p0_0 &&& (65535 : Int32)).toUInt32.toUInt16.toUInt32.toInt32), (.int (r1 (p0_0 &&& (65535 : Int32)).toUInt32.toUInt16.toUInt32.toInt32))])) (fun _ k => XS.iloadN X5.here hx rfl (hb hby at_16) rfl k) ?_
  obtain ⟨_, _, ⟨T6, L6, k6, n6⟩, -, X6, ⟨Lc6, hQ6, l6, y6, z6⟩, st6⟩ := Jvm.LawKit.callS X5 hx (y := (⟨"com/example/junctura/junctura/model/PhredIsQualityPinLaw", "expected", "(C)Z"⟩ : MethodName)) hown (mvT hZ ww5) (mvT hZ ww6) (mvT hZ ww7) (mvT hZ ww8) (by decide) (backOf (W := 1) (rm2 l Z a0 hw [] ((p0_0 &&& (65535 : Int32)).toUInt32.toUInt16.toUInt32.toInt32) h0 n0 Z0 ) hZ ww8 ww7 (by decide) (by decide)) (g := (mkF m 17 #[.val (.int p0_0), .val (.int p0_1), .val (.int (p0_0 &&& (65535 : Int32)).toUInt32.toUInt16.toUInt32.toInt32), .val (.int (p0_1 &&& (127 : Int32)).toUInt32.toUInt16.toUInt32.toInt32), .unset, .unset] [(.int (p0_0 &&& (65535 : Int32)).toUInt32.toUInt16.toUInt32.toInt32), (.int (r1 (p0_0 &&& (65535 : Int32)).toUInt32.toUInt16.toUInt32.toInt32))])) rfl (by rw [hml]; rfl) (argsL := [(.int (p0_0 &&& (65535 : Int32)).toUInt32.toUInt16.toUInt32.toInt32)]) (rest := [(.int (r1 (p0_0 &&& (65535 : Int32)).toUInt32.toUInt16.toUInt32.toInt32))]) (lenOf pd__C_Z rfl) rfl (by show 2 * 0 + _ ≤ _; exact Nat.le_of_eq rfl) (hb hby at_17) (fun _ _ => ⟨rfl, eh5, (by decide : 0 + 0 ≤ _), (by decide : 0 + 0 ≤ _)⟩)
  dsimp only [Pt.U, Pt.locs, Pt.cells, Pt.slots] at X6 l6 y6 z6 st6 hQ6
  subst l6 y6 z6
  obtain ⟨rfl, N6q, eh6⟩ := hQ6
  have N6 := Fr.app N5 N6q
  refine own_s (g' := (mkF m 20 #[.val (.int p0_0), .val (.int p0_1), .val (.int (p0_0 &&& (65535 : Int32)).toUInt32.toUInt16.toUInt32.toInt32), .val (.int (p0_1 &&& (127 : Int32)).toUInt32.toUInt16.toUInt32.toInt32), .unset, .unset] [(.int (r2 (p0_0 &&& (65535 : Int32)).toUInt32.toUInt16.toUInt32.toInt32)), (.int (r1 (p0_0 &&& (65535 : Int32)).toUInt32.toUInt16.toUInt32.toInt32))])) st6 ?_
  refine own_s (g' := (mkF m 23 #[.val (.int p0_0), .val (.int p0_1), .val (.int (p0_0 &&& (65535 : Int32)).toUInt32.toUInt16.toUInt32.toInt32), .val (.int (p0_1 &&& (127 : Int32)).toUInt32.toUInt16.toUInt32.toInt32), .unset, .unset] [])) (fun _ k => XS.icmpNo X6.here hx rfl (hb hby at_20) rfl (teq ((own_q _ (c_i2c _).2.1 (c_i2c _).2.2) : (r1 (p0_0 &&& (65535 : Int32)).toUInt32.toUInt16.toUInt32.toInt32) = (r2 (p0_0 &&& (65535 : Int32)).toUInt32.toUInt16.toUInt32.toInt32))).2 k) ?_
  refine own_s (g' := (mkF m 24 #[.val (.int p0_0), .val (.int p0_1), .val (.int (p0_0 &&& (65535 : Int32)).toUInt32.toUInt16.toUInt32.toInt32), .val (.int (p0_1 &&& (127 : Int32)).toUInt32.toUInt16.toUInt32.toInt32), .unset, .unset] [(.int 1)])) (fun _ k => XS.iconst X6.here hx rfl (hb hby at_23) k) ?_
  refine own_s (g' := (mkF m 28 #[.val (.int p0_0), .val (.int p0_1), .val (.int (p0_0 &&& (65535 : Int32)).toUInt32.toUInt16.toUInt32.toInt32), .val (.int (p0_1 &&& (127 : Int32)).toUInt32.toUInt16.toUInt32.toInt32), .unset, .unset] [(.int 1)])) (fun _ k => XS.goto X6.here hx rfl (pc0 := 24) (pc' := 28) rfl (hb hby at_24) (by decide) (by decide) k) ?_
  refine own_s (g' := (mkF m 30 #[.val (.int p0_0), .val (.int p0_1), .val (.int (p0_0 &&& (65535 : Int32)).toUInt32.toUInt16.toUInt32.toInt32), .val (.int (p0_1 &&& (127 : Int32)).toUInt32.toUInt16.toUInt32.toInt32), .val (.int 1), .unset] [])) (fun _ k => XS.istore X6.here hx rfl (hb hby at_28) rfl (l' := #[.val (.int p0_0), .val (.int p0_1), .val (.int (p0_0 &&& (65535 : Int32)).toUInt32.toUInt16.toUInt32.toInt32), .val (.int (p0_1 &&& (127 : Int32)).toUInt32.toUInt16.toUInt32.toInt32), .val (.int 1), .unset]) rfl k) ?_
  refine own_s (g' := (mkF m 31 #[.val (.int p0_0), .val (.int p0_1), .val (.int (p0_0 &&& (65535 : Int32)).toUInt32.toUInt16.toUInt32.toInt32), .val (.int (p0_1 &&& (127 : Int32)).toUInt32.toUInt16.toUInt32.toInt32), .val (.int 1), .unset] [(.int (p0_1 &&& (127 : Int32)).toUInt32.toUInt16.toUInt32.toInt32)])) (fun _ k => XS.iloadN X6.here hx rfl (hb hby at_30) rfl k) ?_
  obtain ⟨_, _, ⟨T7, L7, k7, n7⟩, -, X7, ⟨Lc7, hQ7, l7, y7, z7⟩, st7⟩ := Jvm.LawKit.callS X6 hx (y := (⟨"com/example/junctura/junctura/model/Phred", "isQuality", "(C)Z"⟩ : MethodName)) hown (mvT hZ ww1) (mvT hZ ww2) (mvT hZ ww3) (mvT hZ ww4) (by decide) (backOf (W := 0) (rm1 l Z a0 hw [] ((p0_1 &&& (127 : Int32)).toUInt32.toUInt16.toUInt32.toInt32) h0 n0 Z0 ) hZ ww4 ww3 (by decide) (by decide)) (g := (mkF m 31 #[.val (.int p0_0), .val (.int p0_1), .val (.int (p0_0 &&& (65535 : Int32)).toUInt32.toUInt16.toUInt32.toInt32), .val (.int (p0_1 &&& (127 : Int32)).toUInt32.toUInt16.toUInt32.toInt32), .val (.int 1), .unset] [(.int (p0_1 &&& (127 : Int32)).toUInt32.toUInt16.toUInt32.toInt32)])) rfl (by rw [hml]; rfl) (argsL := [(.int (p0_1 &&& (127 : Int32)).toUInt32.toUInt16.toUInt32.toInt32)]) (rest := []) (lenOf pd__C_Z rfl) rfl (by show 2 * 0 + _ ≤ _; exact Nat.le_of_eq rfl) (hb hby at_31) (fun _ _ => ⟨rfl, eh6, (by decide : 0 + 0 ≤ _), (by decide : 0 + 0 ≤ _)⟩)
  dsimp only [Pt.U, Pt.locs, Pt.cells, Pt.slots] at X7 l7 y7 z7 st7 hQ7
  subst l7 y7 z7
  obtain ⟨rfl, N7q, eh7⟩ := hQ7
  have N7 := Fr.app N6 N7q
  refine own_s (g' := (mkF m 34 #[.val (.int p0_0), .val (.int p0_1), .val (.int (p0_0 &&& (65535 : Int32)).toUInt32.toUInt16.toUInt32.toInt32), .val (.int (p0_1 &&& (127 : Int32)).toUInt32.toUInt16.toUInt32.toInt32), .val (.int 1), .unset] [(.int (r1 (p0_1 &&& (127 : Int32)).toUInt32.toUInt16.toUInt32.toInt32))])) st7 ?_
  refine own_s (g' := (mkF m 35 #[.val (.int p0_0), .val (.int p0_1), .val (.int (p0_0 &&& (65535 : Int32)).toUInt32.toUInt16.toUInt32.toInt32), .val (.int (p0_1 &&& (127 : Int32)).toUInt32.toUInt16.toUInt32.toInt32), .val (.int 1), .unset] [(.int (p0_1 &&& (127 : Int32)).toUInt32.toUInt16.toUInt32.toInt32), (.int (r1 (p0_1 &&& (127 : Int32)).toUInt32.toUInt16.toUInt32.toInt32))])) (fun _ k => XS.iloadN X7.here hx rfl (hb hby at_34) rfl k) ?_
  obtain ⟨_, _, ⟨T8, L8, k8, n8⟩, -, X8, ⟨Lc8, hQ8, l8, y8, z8⟩, st8⟩ := Jvm.LawKit.callS X7 hx (y := (⟨"com/example/junctura/junctura/model/PhredIsQualityPinLaw", "expected", "(C)Z"⟩ : MethodName)) hown (mvT hZ ww5) (mvT hZ ww6) (mvT hZ ww7) (mvT hZ ww8) (by decide) (backOf (W := 1) (rm2 l Z a0 hw [] ((p0_1 &&& (127 : Int32)).toUInt32.toUInt16.toUInt32.toInt32) h0 n0 Z0 ) hZ ww8 ww7 (by decide) (by decide)) (g := (mkF m 35 #[.val (.int p0_0), .val (.int p0_1), .val (.int (p0_0 &&& (65535 : Int32)).toUInt32.toUInt16.toUInt32.toInt32), .val (.int (p0_1 &&& (127 : Int32)).toUInt32.toUInt16.toUInt32.toInt32), .val (.int 1), .unset] [(.int (p0_1 &&& (127 : Int32)).toUInt32.toUInt16.toUInt32.toInt32), (.int (r1 (p0_1 &&& (127 : Int32)).toUInt32.toUInt16.toUInt32.toInt32))])) rfl (by rw [hml]; rfl) (argsL := [(.int (p0_1 &&& (127 : Int32)).toUInt32.toUInt16.toUInt32.toInt32)]) (rest := [(.int (r1 (p0_1 &&& (127 : Int32)).toUInt32.toUInt16.toUInt32.toInt32))]) (lenOf pd__C_Z rfl) rfl (by show 2 * 0 + _ ≤ _; exact Nat.le_of_eq rfl) (hb hby at_35) (fun _ _ => ⟨rfl, eh7, (by decide : 0 + 0 ≤ _), (by decide : 0 + 0 ≤ _)⟩)
  dsimp only [Pt.U, Pt.locs, Pt.cells, Pt.slots] at X8 l8 y8 z8 st8 hQ8
  subst l8 y8 z8
  obtain ⟨rfl, N8q, eh8⟩ := hQ8
  have N8 := Fr.app N7 N8q
  refine own_s (g' := (mkF m 38 #[.val (.int p0_0), .val (.int p0_1), .val (.int (p0_0 &&& (65535 : Int32)).toUInt32.toUInt16.toUInt32.toInt32), .val (.int (p0_1 &&& (127 : Int32)).toUInt32.toUInt16.toUInt32.toInt32), .val (.int 1), .unset] [(.int (r2 (p0_1 &&& (127 : Int32)).toUInt32.toUInt16.toUInt32.toInt32)), (.int (r1 (p0_1 &&& (127 : Int32)).toUInt32.toUInt16.toUInt32.toInt32))])) st8 ?_
  refine own_s (g' := (mkF m 41 #[.val (.int p0_0), .val (.int p0_1), .val (.int (p0_0 &&& (65535 : Int32)).toUInt32.toUInt16.toUInt32.toInt32), .val (.int (p0_1 &&& (127 : Int32)).toUInt32.toUInt16.toUInt32.toInt32), .val (.int 1), .unset] [])) (fun _ k => XS.icmpNo X8.here hx rfl (hb hby at_38) rfl (teq ((own_q _ (c_i2c _).2.1 (c_i2c _).2.2) : (r1 (p0_1 &&& (127 : Int32)).toUInt32.toUInt16.toUInt32.toInt32) = (r2 (p0_1 &&& (127 : Int32)).toUInt32.toUInt16.toUInt32.toInt32))).2 k) ?_
  refine own_s (g' := (mkF m 42 #[.val (.int p0_0), .val (.int p0_1), .val (.int (p0_0 &&& (65535 : Int32)).toUInt32.toUInt16.toUInt32.toInt32), .val (.int (p0_1 &&& (127 : Int32)).toUInt32.toUInt16.toUInt32.toInt32), .val (.int 1), .unset] [(.int 1)])) (fun _ k => XS.iconst X8.here hx rfl (hb hby at_41) k) ?_
  refine own_s (g' := (mkF m 46 #[.val (.int p0_0), .val (.int p0_1), .val (.int (p0_0 &&& (65535 : Int32)).toUInt32.toUInt16.toUInt32.toInt32), .val (.int (p0_1 &&& (127 : Int32)).toUInt32.toUInt16.toUInt32.toInt32), .val (.int 1), .unset] [(.int 1)])) (fun _ k => XS.goto X8.here hx rfl (pc0 := 42) (pc' := 46) rfl (hb hby at_42) (by decide) (by decide) k) ?_
  refine own_s (g' := (mkF m 48 #[.val (.int p0_0), .val (.int p0_1), .val (.int (p0_0 &&& (65535 : Int32)).toUInt32.toUInt16.toUInt32.toInt32), .val (.int (p0_1 &&& (127 : Int32)).toUInt32.toUInt16.toUInt32.toInt32), .val (.int 1), .val (.int 1)] [])) (fun _ k => XS.istore X8.here hx rfl (hb hby at_46) rfl (l' := #[.val (.int p0_0), .val (.int p0_1), .val (.int (p0_0 &&& (65535 : Int32)).toUInt32.toUInt16.toUInt32.toInt32), .val (.int (p0_1 &&& (127 : Int32)).toUInt32.toUInt16.toUInt32.toInt32), .val (.int 1), .val (.int 1)]) rfl k) ?_
  refine own_s (g' := (mkF m 50 #[.val (.int p0_0), .val (.int p0_1), .val (.int (p0_0 &&& (65535 : Int32)).toUInt32.toUInt16.toUInt32.toInt32), .val (.int (p0_1 &&& (127 : Int32)).toUInt32.toUInt16.toUInt32.toInt32), .val (.int 1), .val (.int 1)] [(.int 1)])) (fun _ k => XS.iload X8.here hx rfl (hb hby at_48) rfl k) ?_
  refine own_s (g' := (mkF m 53 #[.val (.int p0_0), .val (.int p0_1), .val (.int (p0_0 &&& (65535 : Int32)).toUInt32.toUInt16.toUInt32.toInt32), .val (.int (p0_1 &&& (127 : Int32)).toUInt32.toUInt16.toUInt32.toInt32), .val (.int 1), .val (.int 1)] [])) (fun _ k => XS.ifNo X8.here hx rfl (hb hby at_50) rfl ((if0 _ _).trans (feq ((by decide) : ¬ (1 : Int32) = (0 : Int32))).1) k) ?_
  refine own_s (g' := (mkF m 55 #[.val (.int p0_0), .val (.int p0_1), .val (.int (p0_0 &&& (65535 : Int32)).toUInt32.toUInt16.toUInt32.toInt32), .val (.int (p0_1 &&& (127 : Int32)).toUInt32.toUInt16.toUInt32.toInt32), .val (.int 1), .val (.int 1)] [(.int 1)])) (fun _ k => XS.iload X8.here hx rfl (hb hby at_53) rfl k) ?_
  refine own_s (g' := (mkF m 58 #[.val (.int p0_0), .val (.int p0_1), .val (.int (p0_0 &&& (65535 : Int32)).toUInt32.toUInt16.toUInt32.toInt32), .val (.int (p0_1 &&& (127 : Int32)).toUInt32.toUInt16.toUInt32.toInt32), .val (.int 1), .val (.int 1)] [])) (fun _ k => XS.ifNo X8.here hx rfl (hb hby at_55) rfl ((if0 _ _).trans (feq ((by decide) : ¬ (1 : Int32) = (0 : Int32))).1) k) ?_
  refine own_s (g' := (mkF m 59 #[.val (.int p0_0), .val (.int p0_1), .val (.int (p0_0 &&& (65535 : Int32)).toUInt32.toUInt16.toUInt32.toInt32), .val (.int (p0_1 &&& (127 : Int32)).toUInt32.toUInt16.toUInt32.toInt32), .val (.int 1), .val (.int 1)] [(.int 1)])) (fun _ k => XS.iconst X8.here hx rfl (hb hby at_58) k) ?_
  refine own_s (g' := (mkF m 63 #[.val (.int p0_0), .val (.int p0_1), .val (.int (p0_0 &&& (65535 : Int32)).toUInt32.toUInt16.toUInt32.toInt32), .val (.int (p0_1 &&& (127 : Int32)).toUInt32.toUInt16.toUInt32.toInt32), .val (.int 1), .val (.int 1)] [(.int 1)])) (fun _ k => XS.goto X8.here hx rfl (pc0 := 59) (pc' := 63) rfl (hb hby at_59) (by decide) (by decide) k) ?_
  refine own_retN X8 hx hlk (t := .boolean) hret (by simp) (hb hby at_63) (z' := (1 : Int32)) (by decide) (by decide) (by decide) ?_
  show Q0 Z p0_0 p0_1 h0 n0 _ T8.heap _
  rw [eh8]
  exact ⟨rfl, N8⟩
set_option maxRecDepth 65536 in
set_option maxHeartbeats 40000000 in
theorem comes_1 {Post : Tables → Env → Array Value → State → Outcome → State → Prop} (hpost : ∀ tb e args s v u, (limb_1_1.after args s (.returned v) u = true ∧ limb_1_2.after args s (.returned v) u = true ∧ True) → FrameEnd s (.returned v) u (Jvm.fieldLocs frame_1_writes args s ++ Jvm.arrayLocs frame_1_arrays args s ++ Jvm.staticLocs frame_1_statics s) 0 0 → Post tb e args s (.returned v) u) :
    ArmFor flags0 classFile x code maxLocals ret World_1 tables_1 room_1 Calls_1 rest_1 Pre_1 Post := by
  intro l hfl _ _ p e ha hc hk s m args below hf hA hF happ hP
  obtain ⟨hcalls, hrest, hpre⟩ := hP
  obtain ⟨-, -, -, hnamed, -, -, -, hat⟩ := (Spec.applies_iff hf).mp happ
  obtain ⟨hg, hn⟩ := and_e (Cond.before_iff.mp (show (Jvm.Cond.and given_1 narrow_1).before args s = true from hpre))
  obtain ⟨gc, hg⟩ := and_e hg
  obtain ⟨gi0, hg⟩ := and_e hg
  obtain ⟨w0, w1, rfl⟩ : ∃ w0 w1 : Value, args = #[w0, w1] := by
    have hs : args.size = 2 := by simpa [Cond.value, given_1] using gc
    obtain ⟨L⟩ := args
    match L, hs with
    | [w0, w1], _ => exact ⟨w0, w1, rfl⟩
  have hw := fun d (hd : d ∈ tables_1) => atoms_spec (ws := Jvm.Cond.code x code maxLocals ret :: tables_1) hat d (List.mem_cons_of_mem _ hd)
  obtain ⟨i0, ei0⟩ := is_v gi0
  obtain rfl : w0 = (.int i0) := Option.some.inj ei0
  obtain ⟨i1, ei1⟩ := is_v hg
  obtain rfl : w1 = (.int i1) := Option.some.inj ei1
  obtain ⟨n, o, h1, h2, h3, _, L, rfl, ⟨rfl, N⟩, hq⟩ := rm0 l s _ hw tables_1 i0 i1 s.heap s.heap.size (Nat.le_refl _)  p e ha hc hk s m _ below hf ((Spec.applies_iff_loose hf).mp happ).1 ⟨rfl, State.Warmed39.refl s, rfl⟩ trivial
  refine ⟨n, _, h1, h2, h3, hpost _ _ _ _ _ _ ⟨Cond.after_iff.mpr rfl, Cond.after_iff.mpr (eq_i res_at (Term.int_eval (1)) rfl), trivial⟩ ⟨hq.1, hq.2.1, (hq.2.2.sift fun y hy => Or.inr (N y hy)).mono (by decide) (by decide)⟩⟩
theorem main_1_1 : Claimed_1_1 := comes_1 fun _ _ _ _ _ _ h hF => ⟨h.1, hF⟩
theorem main_1_2 : Claimed_1_2 := comes_1 fun _ _ _ _ _ _ h hF => ⟨h.2.1, hF⟩
end Jvm.Pilot.@@N@@
namespace Jvm.Pilot.@@N@@
open Jvm Jvm.ClassFile Sem Op Lib Jvm.Free Jvm.Stand Jvm.Pilot.@@N@@.Jvm.D
/-! MADE BY PROGRAM (witnessworld.py) out of the Statement's table words and the real class files: 9 classes; the members and pool entries that the words name. The judged class is class 1, her method 2. -/
namespace start1
open Jvm.ClassFile
def u (s : String) : CpInfo := .utf8 (stringToUtf16 s)
/-- a pool by its gaps: so many unusable entries, then the entry; so many at the end -/
def gap : Nat → List CpInfo → List CpInfo
  | 0, r => r
  | n + 1, r => .unusable :: gap n r
def poolList (es : List (Nat × CpInfo)) (last : Nat) : List CpInfo := es.foldr (fun e r => gap e.1 (e.2 :: r)) (gap last [])
def pool (es : List (Nat × CpInfo)) (last : Nat) : Array CpInfo := ⟨poolList es last⟩
def fileOf (pool : Array CpInfo) (this : Nat) (attrs : Array Attribute := #[]) (ms : Array MethodInfo := #[]) (fl : Nat := 33) (sup : Nat := 0) (ifs : Array Nat := #[]) (fds : Array FieldInfo := #[]) : ClassFile where
  minorVersion := 0
  majorVersion := 65
  constantPool := pool
  accessFlags := fl
  thisClass := this
  superClass := sup
  interfaces := ifs
  fields := fds
  methods := ms
  attributes := attrs
def plain (name : String) (sup : Option ClassId) : Class where
  name := name
  kind := .ordinary
  loader := none
  accessFlags := 33
  super := sup
  interfaces := #[]
  cf := none
  fields := #[]
  methods := #[]
  instanceTypes := #[]
  staticTypes := #[]
  resolved := #[]
  callSites := []
  init := .initialized
  statics := none
  mirror := none

def pool0 : Array CpInfo := pool [(5, u "<init>"), (0, u "()V"), (1, .class_ 10), (1, u "java/lang/Object")] 113

def k0m0 : Method := { name := "<init>", desc := "()V", sig := { parameters := [], returnType := none }, accessFlags := 1, code := none }
/-- java/lang/Object -/
def k0 : Class := { plain "java/lang/Object" none with
  accessFlags := 33
  interfaces := #[]
  cf := some (fileOf pool0 8 #[] #[{ accessFlags := 1, nameIndex := 5, descriptorIndex := 6, attributes := #[] }] 33 0 #[] #[])
  fields := #[]
  methods := #[k0m0]
  instanceTypes := #[]
  staticTypes := #[]
  resolved := Array.replicate 124 none
  statics := none }

def pool1 : Array CpInfo := pool [(2, .class_ 4), (1, u "java/lang/Object"), (0, u "<init>"), (0, u "()V"), (0, .integer 65535), (0, .methodref 9 10), (0, .class_ 11), (0, .nameAndType 12 13), (0, u "com/example/junctura/junctura/model/Phred"), (0, u "isQuality"), (0, u "(C)Z"), (0, .methodref 15 16), (0, .class_ 17), (0, .nameAndType 18 13), (0, u "com/example/junctura/junctura/model/PhredIsQualityPinLaw"), (0, u "expected"), (3, u "law"), (0, u "(II)Z")] 2

def k1m0 : Method := { name := "<init>", desc := "()V", sig := { parameters := [], returnType := none }, accessFlags := 2, code := none }
def k1c1 : Code := { maxStack := 2, maxLocals := 2, code := method_2_code, exceptionTable := #[], attributes := #[] }
def k1m1 : Method := { name := "expected", desc := "(C)Z", sig := { parameters := [.char], returnType := some .boolean }, accessFlags := 10, code := some k1c1 }
def k1c2 : Code := { maxStack := 2, maxLocals := 6, code := code, exceptionTable := #[], attributes := #[] }
def k1m2 : Method := { name := "law", desc := "(II)Z", sig := { parameters := [.int, .int], returnType := some .boolean }, accessFlags := 9, code := some k1c2 }
/-- com/example/junctura/junctura/model/PhredIsQualityPinLaw -/
def k1 : Class := { plain "com/example/junctura/junctura/model/PhredIsQualityPinLaw" (some 0) with
  accessFlags := 49
  interfaces := #[]
  cf := some (fileOf pool1 15 #[] #[{ accessFlags := 2, nameIndex := 5, descriptorIndex := 6, attributes := #[] }, { accessFlags := 10, nameIndex := 18, descriptorIndex := 13, attributes := #[] }, { accessFlags := 9, nameIndex := 22, descriptorIndex := 23, attributes := #[] }] 49 2 #[] #[])
  fields := #[]
  methods := #[k1m0, k1m1, k1m2]
  instanceTypes := #[]
  staticTypes := #[]
  resolved := Array.replicate 26 none
  statics := none }

def pool2 : Array CpInfo := pool [(2, .class_ 4), (1, u "java/lang/Object"), (0, u "<init>"), (0, u "()V"), (0, .class_ 8), (0, u "com/example/junctura/junctura/model/Phred"), (14, u "OFFSET"), (0, u "C"), (2, u "GOOD"), (0, u "I"), (1, u "HIGHEST"), (3, u "isQuality"), (0, u "(C)Z")] 4

def k2m0 : Method := { name := "<init>", desc := "()V", sig := { parameters := [], returnType := none }, accessFlags := 2, code := none }
def k2c1 : Code := { maxStack := 2, maxLocals := 1, code := prog_116_method_2_code, exceptionTable := #[], attributes := #[] }
def k2m1 : Method := { name := "isQuality", desc := "(C)Z", sig := { parameters := [.char], returnType := some .boolean }, accessFlags := 9, code := some k2c1 }
/-- com/example/junctura/junctura/model/Phred -/
def k2 : Class := { plain "com/example/junctura/junctura/model/Phred" (some 0) with
  accessFlags := 49
  interfaces := #[]
  cf := some (fileOf pool2 7 #[] #[{ accessFlags := 2, nameIndex := 5, descriptorIndex := 6, attributes := #[] }, { accessFlags := 9, nameIndex := 34, descriptorIndex := 35, attributes := #[] }] 49 2 #[] #[{ accessFlags := 25, nameIndex := 23, descriptorIndex := 24, attributes := #[] }, { accessFlags := 25, nameIndex := 27, descriptorIndex := 28, attributes := #[] }, { accessFlags := 26, nameIndex := 30, descriptorIndex := 24, attributes := #[] }])
  fields := #[{ name := "OFFSET", type := .char, accessFlags := 25, slot := 0, constantValue := 0 }, { name := "GOOD", type := .int, accessFlags := 25, slot := 1, constantValue := 0 }, { name := "HIGHEST", type := .char, accessFlags := 26, slot := 2, constantValue := 0 }]
  methods := #[k2m0, k2m1]
  instanceTypes := #[]
  staticTypes := #[.char, .int, .char]
  resolved := Array.replicate 40 none
  statics := none }

def pool3 : Array CpInfo := pool [(1, u "java/lang/Cloneable"), (0, .class_ 1), (0, u "java/lang/Object"), (0, .class_ 3)] 3

/-- java/lang/Cloneable -/
def k3 : Class := { plain "java/lang/Cloneable" (some 0) with
  accessFlags := 1537
  interfaces := #[]
  cf := some (fileOf pool3 2 #[] #[] 1537 4 #[] #[])
  fields := #[]
  methods := #[]
  instanceTypes := #[]
  staticTypes := #[]
  resolved := Array.replicate 8 none
  statics := none }

def pool4 : Array CpInfo := pool [(1, u "java/io/Serializable"), (0, .class_ 1), (0, u "java/lang/Object"), (0, .class_ 3)] 3

/-- java/io/Serializable -/
def k4 : Class := { plain "java/io/Serializable" (some 0) with
  accessFlags := 1537
  interfaces := #[]
  cf := some (fileOf pool4 2 #[] #[] 1537 4 #[] #[])
  fields := #[]
  methods := #[]
  instanceTypes := #[]
  staticTypes := #[]
  resolved := Array.replicate 8 none
  statics := none }

/-- the primitive byte -/
def k5 : Class := { plain "byte" none with kind := .primitive 'B', accessFlags := 0x411 }
/-- [B -/
def k6 : Class := { plain "[B" (some 0) with kind := .array 5 .byte, interfaces := #[3, 4], accessFlags := 1041 }

/-- the primitive int -/
def k7 : Class := { plain "int" none with kind := .primitive 'I', accessFlags := 0x411 }
/-- [I -/
def k8 : Class := { plain "[I" (some 0) with kind := .array 7 .int, interfaces := #[3, 4], accessFlags := 1041 }

def heap : Heap := #[]
def classes : Array Class := #[k0, k1, k2, k3, k4, k5, k6, k7, k8]
def interned : List (Array UInt16 × Addr) := []
def slotsUsed : Nat := 0
def theMethod : MethodId := ⟨1, 2⟩
def args0 : Array Value := #[.int 5, .int 5]
def aboutOver (below : List Frame) : State where
  vm := { classes := classes, interned := interned.toArray }
  heap := heap
  slotsUsed := slotsUsed
  threads := #[{ frames := .invoking theMethod args0 :: below }]
def below0 : List Frame := [.native { method := ⟨0, 0⟩, args := #[] }]
def about1 : State := aboutOver below0
def p0 : Program := .bare "" "" ""
def e0 : Env := launch0.env 0 0 0
theorem w_frames : about1.frames = Frame.invoking theMethod args0 :: below0 := rfl
set_option maxRecDepth 65536 in
theorem w_args : argsFit about1.vm theMethod args0 = true := by decide +kernel
set_option maxRecDepth 65536 in
theorem w_heap : heapFits about1 = true := by decide +kernel
set_option maxRecDepth 65536 in
theorem w_runnable : about1.curStatus? = some .runnable := by decide +kernel
set_option maxRecDepth 65536 in
theorem w_alone : about1.alone = true := by decide +kernel
set_option maxRecDepth 65536 in
theorem w_named : about1.methodNamed? x = some theMethod := by decide +kernel
set_option maxRecDepth 65536 in
theorem w_hears : about1.hears theMethod below0 = true := by decide +kernel
set_option maxRecDepth 65536 in
theorem w_ripe : about1.ripe theMethod args0 below0 = true := by decide +kernel
theorem w_running : about1.status = .running := rfl
set_option maxRecDepth 65536 in
theorem w_room : about1.hasRoom e0.platform room_1 = true :=
  launch0.hasRoom_least _ room_1 (by decide +kernel) (by decide +kernel) (by decide +kernel) (by decide +kernel) (by decide +kernel) (by decide +kernel)
theorem allAtoms_all (ts : List Jvm.Cond) (a : Array Jvm.Value) (st : Jvm.State) : (allAtoms ts).before a st = ts.all (fun c => c.before a st) := by
  induction ts with
  | nil => rfl
  | cons c t ih =>
    show (Jvm.Cond.and c (allAtoms t)).before a st = _
    rw [Jvm.Cond.before_and, ih, List.all_cons]
def words1 : List Jvm.Cond := Jvm.Cond.code x code maxLocals ret :: tables_1
/-- a 'code' word, met by the world's own term for the bytes: nothing is compared byte by byte -/
theorem code_word {y : MethodName} {bytes : ByteArray} {mx : Nat} {rt : Option FieldType} {a : Array Value} {s : State} {m : MethodId} {meth : Method} {c : Code} (h1 : s.methodNamed? y = some m) (h2 : s.vm.method? m = some meth) (h3 : meth.code = some c) (h4 : c.code = bytes)
    (h5 : (c.maxLocals == mx && c.exceptionTable.isEmpty && decide (c.maxStack ≤ mostOperands) && decide (meth.sig.returnType = rt) && !meth.locks && decide (parseMethodDescriptor y.desc = some meth.sig)) = true) : (Jvm.Cond.code y bytes mx rt).before a s = true := by
  simp only [Bool.and_eq_true, beq_iff_eq, Bool.not_eq_true', decide_eq_true_eq] at h5
  obtain ⟨⟨⟨⟨⟨g1, g2⟩, g3⟩, g4⟩, g5⟩, g6⟩ := h5
  simp [Cond.before, Cond.holds, Cond.value, h1, h2, h3, h4, g1, g2, g3, g4, g5, g6]
def isCode : Jvm.Cond → Bool
  | .code _ _ _ _ => true
  | _ => false
theorem all_split {L : List Jvm.Cond} {P : Jvm.Cond → Bool} (h1 : L.all (fun c => isCode c || P c) = true) (h2 : ∀ c ∈ L.filter isCode, P c = true) : L.all P = true := by
  refine List.all_eq_true.mpr fun c hc => ?_
  have h := List.all_eq_true.mp h1 c hc
  rcases Bool.eq_false_or_eq_true (isCode c) with hi | hi
  · exact h2 c (List.mem_filter.mpr ⟨hc, hi⟩)
  · simpa [hi] using h
set_option maxRecDepth 65536 in
theorem w_c0 : (Jvm.Cond.code x code maxLocals ret).before args0 about1 = true := code_word (m := ⟨1, 2⟩) (meth := k1m2) (c := k1c2) (by decide +kernel) rfl rfl rfl (by decide +kernel)
set_option maxRecDepth 65536 in
theorem w_c1 : (Jvm.Cond.code ({ cls := "com/example/junctura/junctura/model/Phred", name := "isQuality", desc := "(C)Z" } : Jvm.MethodName) prog_116_method_2_code (1 : Nat) (Option.some Jvm.ClassFile.FieldType.boolean)).before args0 about1 = true := code_word (m := ⟨2, 1⟩) (meth := k2m1) (c := k2c1) (by decide +kernel) rfl rfl rfl (by decide +kernel)
set_option maxRecDepth 65536 in
theorem w_c2 : (Jvm.Cond.code ({ cls := "com/example/junctura/junctura/model/PhredIsQualityPinLaw", name := "expected", desc := "(C)Z" } : Jvm.MethodName) method_2_code (2 : Nat) (Option.some Jvm.ClassFile.FieldType.boolean)).before args0 about1 = true := code_word (m := ⟨1, 1⟩) (meth := k1m1) (c := k1c1) (by decide +kernel) rfl rfl rfl (by decide +kernel)
def codes1 : List Jvm.Cond := [Jvm.Cond.code x code maxLocals ret, Jvm.Cond.code ({ cls := "com/example/junctura/junctura/model/Phred", name := "isQuality", desc := "(C)Z" } : Jvm.MethodName) prog_116_method_2_code (1 : Nat) (Option.some Jvm.ClassFile.FieldType.boolean), Jvm.Cond.code ({ cls := "com/example/junctura/junctura/model/PhredIsQualityPinLaw", name := "expected", desc := "(C)Z" } : Jvm.MethodName) method_2_code (2 : Nat) (Option.some Jvm.ClassFile.FieldType.boolean)]
set_option maxRecDepth 65536 in
theorem codes_eq : words1.filter isCode = codes1 := rfl
theorem w_codes : ∀ c ∈ words1.filter isCode, c.before args0 about1 = true := by
  rw [codes_eq]
  intro c hc
  simp only [codes1, List.mem_cons, List.not_mem_nil, or_false] at hc
  rcases hc with rfl | rfl | rfl
  · exact w_c0
  · exact w_c1
  · exact w_c2
set_option maxRecDepth 65536 in
theorem w_t1 : words1.all (fun c => isCode c || c.before args0 about1) = true := by decide +kernel
theorem w_tables : (allAtoms (Jvm.Cond.code x code maxLocals ret :: tables_1)).before args0 about1 = true := by
  rw [allAtoms_all]
  show words1.all (fun c => c.before args0 about1) = true
  refine all_split ?_ w_codes
  rw [w_t1]
set_option maxRecDepth 65536 in
theorem w_case : (Jvm.Cond.and given_1 narrow_1).before args0 about1 = true := by decide +kernel
theorem w_applies : (headSpec (Jvm.Cond.code x code maxLocals ret :: tables_1) room_1).applies x e0.platform about1 = true :=
  (Spec.applies_iff w_frames).mpr ⟨w_running, w_runnable, w_alone, w_named, w_hears, w_ripe, w_room, w_tables⟩
theorem atStart : AtStart classFile x code maxLocals ret World_1 tables_1 room_1 Calls_1 rest_1 Pre_1 launch0 p0 e0 about1 theMethod args0 below0 :=
  ⟨lists_1, trivial, launch0.admits_env _ _ _, launch0.least_env, fairChoices_fair.cas, fairChoices_fair.clock, w_frames, w_args, w_heap, w_applies, trivial, trivial, w_case⟩
end start1
theorem witness_1 : WitnessClaimed_1 := ⟨start1.p0, start1.e0, start1.about1, start1.theMethod, start1.args0, start1.below0, start1.atStart⟩
end Jvm.Pilot.@@N@@
