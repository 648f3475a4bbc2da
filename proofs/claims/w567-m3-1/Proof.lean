import JvmDerived
import JvmDerived.Pilot.@@N@@Statement
import JvmDerived.Pilot.@@N@@Code
set_option linter.unusedVariables false
set_option linter.unusedSimpArgs false
namespace Jvm.Pilot.@@N@@
open Jvm Jvm.ClassFile Sem Op Lib Jvm.Free Jvm.Stand Jvm.LawKit Jvm.RoadKit Bundle Jvm.Pilot.@@N@@.Jvm.D
/-- what is left of a walk: from the frame g on, the run ends as K says -/
def own_G (p : Program) (e : Env) (below : List Frame) (s : State) (K : Option Value → Heap → List Loc → Prop) (nc ns : Nat) (T : State) (g : JFrame) : Prop :=
  ∃ s₂ o, Steps p.tables e below (T.setTop g) s₂ ∧ s₂.status = .running ∧ Ended s₂ below o ∧ ∃ v L, o = .returned v ∧ K v s₂.heap L ∧ FrameEnd s o s₂ L nc ns
section Own
variable {p : Program} {l : Launch} {e : Env} {R : Room} {s : State} {m : MethodId} {args : Array Value} {below : List Frame} {meth : Method} {c : Code} {T T' : State} {locs : List Loc} {cells slots : Nat} {K : Option Value → Heap → List Loc → Prop} {nc ns : Nat} {g g' : JFrame}
theorem own_s (h : ∀ t, Steps p.tables e below (T'.setTop g') t → Steps p.tables e below (T.setTop g) t) (k : own_G p e below s K nc ns T' g') : own_G p e below s K nc ns T g := by
  obtain ⟨s₂, o, h1, r⟩ := k
  exact ⟨s₂, o, h _ h1, r⟩
theorem own_trans (h : Steps p.tables e below (T.setTop g) (T'.setTop g')) (k : own_G p e below s K nc ns T' g') : own_G p e below s K nc ns T g := by
  obtain ⟨s₂, o, h1, r⟩ := k
  exact ⟨s₂, o, h.trans h1, r⟩
theorem own_cast (q : g = g') (k : own_G p e below s K nc ns T g') : own_G p e below s K nc ns T g := q ▸ k
theorem own_leave (X : Stand p l e R s m args below meth c T locs cells slots) {v : Option Value} (hlk : meth.locks = false) (hv : meth.sig.returnType = none → v = none) (hc : cells ≤ nc) (hn : slots ≤ ns) (hq : K v T.heap locs)
    (st : ∀ fs, (∀ (f : JFrame) (acts : List Action), f.method = m → f.locked = none → f.entered = [] → (doReturn e (T.setTop f) acts v).1 = T.setFrames fs) → Steps p.tables e below (T.setTop g) (T.setFrames fs)) : own_G p e below s K nc ns T g := by
  obtain ⟨fs, hr, hrun, hended, hW, hsame⟩ := X.leave (v := v) hv hlk
  exact ⟨_, _, st fs hr, hrun, hended, _, _, rfl, hq, ⟨_, rfl⟩, hW, hsame.mono hc hn⟩
theorem own_retN (X : Stand p l e R s m args below meth c T locs cells slots) (hx : p.tables.exec = Jvm.exec) (hlk : meth.locks = false) {pc : Nat} {Ls : Array Slot} {z z' : Int32} {t : FieldType} {rest : List Value} (hret : meth.sig.returnType = some t) (ht : t = .boolean ∨ t = .byte ∨ t = .char ∨ t = .short)
    (hd : decode c.code pc = .ok (.ireturn, 1)) (hz : nar t z = z') (hc : cells ≤ nc) (hn : slots ≤ ns) (hq : K (some (.int z')) T.heap locs) : own_G p e below s K nc ns T (mkF m pc Ls (.int z :: rest)) := by
  subst hz
  exact own_leave X hlk (fun h => by rw [hret] at h; cases h) hc hn hq fun fs hr => retN X hx hret ht hd hr
theorem own_retI (X : Stand p l e R s m args below meth c T locs cells slots) (hx : p.tables.exec = Jvm.exec) (hlk : meth.locks = false) {pc : Nat} {Ls : Array Slot} {z : Int32} {rest : List Value} (hret : meth.sig.returnType = some .int)
    (hd : decode c.code pc = .ok (.ireturn, 1)) (hc : cells ≤ nc) (hn : slots ≤ ns) (hq : K (some (.int z)) T.heap locs) : own_G p e below s K nc ns T (mkF m pc Ls (.int z :: rest)) :=
  own_leave X hlk (fun h => by rw [hret] at h; cases h) hc hn hq fun fs hr => retOut X hx hret rfl (Or.inl ⟨rfl, Or.inl rfl, _, rfl⟩) hd hr
theorem own_retJ (X : Stand p l e R s m args below meth c T locs cells slots) (hx : p.tables.exec = Jvm.exec) (hlk : meth.locks = false) {pc : Nat} {Ls : Array Slot} {z : Int64} {rest : List Value} (hret : meth.sig.returnType = some .long)
    (hd : decode c.code pc = .ok (.lreturn, 1)) (hc : cells ≤ nc) (hn : slots ≤ ns) (hq : K (some (.long z)) T.heap locs) : own_G p e below s K nc ns T (mkF m pc Ls (.long z :: rest)) :=
  own_leave X hlk (fun h => by rw [hret] at h; cases h) hc hn hq fun fs hr => retOut X hx hret rfl (Or.inr (Or.inl ⟨rfl, rfl, _, rfl⟩)) hd hr
theorem own_retR (X : Stand p l e R s m args below meth c T locs cells slots) (hx : p.tables.exec = Jvm.exec) (hlk : meth.locks = false) {pc : Nat} {Ls : Array Slot} {v : Value} {t : FieldType} {rest : List Value} (hret : meth.sig.returnType = some t) (ht : t.isReference = true) (hv : v.isRef = true) (hnv : narrow t v = v)
    (hd : decode c.code pc = .ok (.areturn, 1)) (hc : cells ≤ nc) (hn : slots ≤ ns) (hq : K (some v) T.heap locs) : own_G p e below s K nc ns T (mkF m pc Ls (v :: rest)) :=
  own_leave X hlk (fun h => by rw [hret] at h; cases h) hc hn hq fun fs hr => retOut X hx hret hnv (Or.inr (Or.inr (Or.inr (Or.inr ⟨rfl, ht, hv⟩)))) hd hr
theorem own_retV (X : Stand p l e R s m args below meth c T locs cells slots) (hx : p.tables.exec = Jvm.exec) (hlk : meth.locks = false) {pc : Nat} {Ls : Array Slot} (hret : meth.sig.returnType = none)
    (hd : decode c.code pc = .ok (.return_, 1)) (hc : cells ≤ nc) (hn : slots ≤ ns) (hq : K none T.heap locs) : own_G p e below s K nc ns T (mkF m pc Ls []) :=
  own_leave X hlk (fun _ => rfl) hc hn hq fun fs hr => X.returnOut hx hret hd hr
theorem own_selp {s : State} {args : Array Value} {y : MethodName} {n : Nat} (wi : (Jvm.Cond.instantiable y.cls n).before args s = true) (hp : (Jvm.Cond.privateMethod y).before args s = true) (hi : (Jvm.Cond.instanceMethod y).before args s = true)
    (hy : y.cls ≠ "java/lang/invoke/MethodHandle" ∧ y.cls ≠ "java/lang/invoke/VarHandle") : (Jvm.Cond.selects y.cls y y).before args s = true := by
  obtain ⟨c, k, h1, h2, h3, h4, -⟩ := Cond.instantiable_spec wi
  exact Jvm.Stand.selects_self_of_private h1 h2 (Bool.or_eq_false_iff.mp h4).1 (Cond.privateMethod_at hp) hi hy
theorem own_miss {k : Int32} (i : Int) (n : Int32) (e : n.toInt = i) (hc : ¬ k = n) : i ≠ k.toInt := fun h => hc (Int32.toInt_inj.mp (h.symm.trans e.symm))
theorem own_posI {x : Int32} (h : (0 : Int32) < x) : x ≠ 0 := fun q => by rw [q] at h; exact absurd h (by decide)
theorem own_posJ {x : Int64} (h : (0 : Int64) < x) : x ≠ 0 := fun q => by rw [q] at h; exact absurd h (by decide)
theorem own_asI {x y : Int32} (h : y < x) : ¬ x < y := fun q => Int32.lt_irrefl (Int32.lt_trans h q)
theorem own_asJ {x y : Int64} (h : y < x) : ¬ x < y := fun q => Int64.lt_irrefl (Int64.lt_trans h q)
theorem own_eqltI {x y : Int32} (h : x = y) : ¬ x < y := fun q => by rw [h] at q; exact Int32.lt_irrefl q
theorem own_eqltJ {x y : Int64} (h : x = y) : ¬ x < y := fun q => by rw [h] at q; exact Int64.lt_irrefl q
theorem own_triI {x y : Int32} (h : ¬ x = y) (q : ¬ y < x) : x < y := by
  rw [Int32.lt_iff_toInt_lt] at *
  rw [← Int32.toInt_inj] at h
  omega
theorem own_triJ {x y : Int64} (h : ¬ x = y) (q : ¬ y < x) : x < y := by
  rw [Int64.lt_iff_toInt_lt] at *
  rw [← Int64.toInt_inj] at h
  omega
theorem own_ltneI {x y : Int32} (h : x < y) : ¬ x = y := fun q => by rw [q] at h; exact Int32.lt_irrefl h
theorem own_ltneJ {x y : Int64} (h : x < y) : ¬ x = y := fun q => by rw [q] at h; exact Int64.lt_irrefl h
theorem own_ltne'I {x y : Int32} (h : y < x) : ¬ x = y := fun q => by rw [q] at h; exact Int32.lt_irrefl h
theorem own_ltne'J {x y : Int64} (h : y < x) : ¬ x = y := fun q => by rw [q] at h; exact Int64.lt_irrefl h
theorem own_nnI {x y : Int32} (h : ¬ x < y) (q : ¬ y < x) : x = y := by
  rw [Int32.lt_iff_toInt_lt] at *
  rw [← Int32.toInt_inj]
  omega
theorem own_nnJ {x y : Int64} (h : ¬ x < y) (q : ¬ y < x) : x = y := by
  rw [Int64.lt_iff_toInt_lt] at *
  rw [← Int64.toInt_inj]
  omega
end Own
theorem d1_0 : decode method_2_code 0 = .ok (.iload_n 0, 1) := by decide +kernel
theorem d1_1 : decode method_2_code 1 = .ok (.ifCond .ne 6, 3) := by decide +kernel
theorem d1_4 : decode method_2_code 4 = .ok (.bipush 65, 2) := by decide +kernel
theorem d1_6 : decode method_2_code 6 = .ok (.ireturn, 1) := by decide +kernel
theorem d1_7 : decode method_2_code 7 = .ok (.iload_n 0, 1) := by decide +kernel
theorem d1_8 : decode method_2_code 8 = .ok (.iconst 1, 1) := by decide +kernel
theorem d1_9 : decode method_2_code 9 = .ok (.if_icmp .ne 6, 3) := by decide +kernel
theorem d1_12 : decode method_2_code 12 = .ok (.bipush 67, 2) := by decide +kernel
theorem d1_14 : decode method_2_code 14 = .ok (.ireturn, 1) := by decide +kernel
theorem d1_15 : decode method_2_code 15 = .ok (.iload_n 0, 1) := by decide +kernel
theorem d1_16 : decode method_2_code 16 = .ok (.iconst 2, 1) := by decide +kernel
theorem d1_17 : decode method_2_code 17 = .ok (.if_icmp .ne 6, 3) := by decide +kernel
theorem d1_20 : decode method_2_code 20 = .ok (.bipush 71, 2) := by decide +kernel
theorem d1_22 : decode method_2_code 22 = .ok (.ireturn, 1) := by decide +kernel
theorem d1_23 : decode method_2_code 23 = .ok (.iload_n 0, 1) := by decide +kernel
theorem d1_24 : decode method_2_code 24 = .ok (.iconst 3, 1) := by decide +kernel
theorem d1_25 : decode method_2_code 25 = .ok (.if_icmp .ne 6, 3) := by decide +kernel
theorem d1_28 : decode method_2_code 28 = .ok (.bipush 84, 2) := by decide +kernel
theorem d1_30 : decode method_2_code 30 = .ok (.ireturn, 1) := by decide +kernel
theorem d1_31 : decode method_2_code 31 = .ok (.bipush 78, 2) := by decide +kernel
theorem d1_33 : decode method_2_code 33 = .ok (.ireturn, 1) := by decide +kernel
theorem pn_com_example_junctura_junctura_model_LinearScoringIsMatchPinLaw : plainName "com/example/junctura/junctura/model/LinearScoringIsMatchPinLaw" = true := by first | (simp [plainName, overriddenIn]; done) | decide +kernel
theorem ef_1 (m : MethodId) (p1_0 : Int32) : entryFrame m #[(.int p1_0)] 1 = mkF m 0 #[.val (.int p1_0)] [] := by first | (simp [entryFrame, mkF, argsToLocals, Value.category]; done) | rfl
def r1 (p1_0 : Int32) : Int32 := (if p1_0 = (0 : Int32) then (65 : Int32) else (if p1_0 = (1 : Int32) then (67 : Int32) else (if p1_0 = (2 : Int32) then (71 : Int32) else (if p1_0 = (3 : Int32) then (84 : Int32) else (78 : Int32)))))
def Q1 (Z : State) (p1_0 : Int32) (h0 : Heap) (n0 : Nat) (v : Option Value) (h : Heap) (L : List Loc) : Prop := v = some (.int (r1 p1_0)) ∧ Fr n0 L ∧ h = h0
set_option maxRecDepth 65536 in
set_option maxHeartbeats 40000000 in
theorem rm1 (l : Launch) (Z : State) (a0 : Array Value) (hw : ∀ d ∈ tables_1, d.before a0 Z = true) (ws : List Jvm.Cond) (p1_0 : Int32) (h0 : Heap) (n0 : Nat) (Z0 : n0 ≤ h0.size) :
    MetFree l (⟨"com/example/junctura/junctura/model/LinearScoringIsMatchPinLaw", "base", "(I)C"⟩ : MethodName) (head1 (Jvm.Cond.code (⟨"com/example/junctura/junctura/model/LinearScoringIsMatchPinLaw", "base", "(I)C"⟩ : MethodName) method_2_code 1 (some .char) :: ws) ({ frames := 0, cells := 0, slots := 0, locals := 0 } : Room)) (fun a U => a = #[(.int p1_0)] ∧ Z.Warmed39 U.vm ∧ U.heap = h0) (fun _ _ _ _ _ => True) (fun _ U o U' => ∃ v L, o = .returned v ∧ Q1 Z p1_0 h0 n0 v U'.heap L ∧ FrameEnd U o U' L ({ frames := 0, cells := 0, slots := 0, locals := 0 } : Room).cells ({ frames := 0, cells := 0, slots := 0, locals := 0 } : Room).slots) := by
  refine MetFree.of_bodySF (plainFor_of_name pn_com_example_junctura_junctura_model_LinearScoringIsMatchPinLaw) hisR ?_
  intro p e s m args below meth c s₁ Bd hml0 hP hK
  obtain ⟨rfl, hZ, hh⟩ := hP
  have hx := Bd.exec
  have hby := Bd.bytes
  have hlk := Bd.notSynchronized
  have hret := Bd.returns
  have hml : c.maxLocals = 1 := hml0
  have hown : s.vm.findClass "com/example/junctura/junctura/model/LinearScoringIsMatchPinLaw" = some m.cls := findClass_of_methodNamed Bd.named
  have hnm := (name_of_methodNamed Bd.named Bd.method).1
  have X0 : Stand p l e ({ frames := 0, cells := 0, slots := 0, locals := 0 } : Room) s m #[(.int p1_0)] below meth c s₁ [] 0 0 := Stand.of_body Bd
  have e0 : s₁.heap = h0 := by rw [← hh, Bd.state]; rfl
  have N0 := Fr.nil n0
  have K0 : Keep h0 h0 [] := Keep.refl _ _
  show own_G p e below s (Q1 Z p1_0 h0 n0) ({ frames := 0, cells := 0, slots := 0, locals := 0 } : Room).cells ({ frames := 0, cells := 0, slots := 0, locals := 0 } : Room).slots s₁ (entryFrame m #[(.int p1_0)] 1)
  refine own_cast (ef_1 m p1_0) ?_
  refine own_s (g' := (mkF m 1 #[.val (.int p1_0)] [(.int p1_0)])) (fun _ k => XS.iloadN X0.here hx rfl (hb hby d1_0) rfl k) ?_
  by_cases c1 : p1_0 = (0 : Int32)
  ·skip
   refine own_s (g' := (mkF m 4 #[.val (.int p1_0)] [])) (fun _ k => XS.ifNo X0.here hx rfl (hb hby d1_1) rfl ((if0 _ _).trans (teq c1).2) k) ?_
   refine own_s (g' := (mkF m 6 #[.val (.int p1_0)] [(.int 65)])) (fun _ k => XS.bipush X0.here hx rfl (hb hby d1_4) k) ?_
   refine own_retN X0 hx hlk (t := .char) hret (by simp) (hb hby d1_6) (z' := (65 : Int32)) (by decide) (by decide) (by decide) ?_
   show Q1 Z p1_0 h0 n0 _ s₁.heap _
   rw [e0]
   exact ⟨(congrArg (fun z => some (Value.int z)) (show (65 : Int32) = (r1 p1_0) from (Eq.symm (if_pos c1)))), N0, rfl⟩
  ·skip
   refine own_s (g' := (mkF m 7 #[.val (.int p1_0)] [])) (fun _ k => XS.ifYes X0.here hx rfl (pc0 := 1) (pc' := 7) rfl (hb hby d1_1) rfl ((if0 _ _).trans (feq c1).2) (by decide) (by decide) k) ?_
   refine own_s (g' := (mkF m 8 #[.val (.int p1_0)] [(.int p1_0)])) (fun _ k => XS.iloadN X0.here hx rfl (hb hby d1_7) rfl k) ?_
   refine own_s (g' := (mkF m 9 #[.val (.int p1_0)] [(.int 1), (.int p1_0)])) (fun _ k => XS.iconst X0.here hx rfl (hb hby d1_8) k) ?_
   by_cases c2 : p1_0 = (1 : Int32)
   ·skip
    refine own_s (g' := (mkF m 12 #[.val (.int p1_0)] [])) (fun _ k => XS.icmpNo X0.here hx rfl (hb hby d1_9) rfl (teq c2).2 k) ?_
    refine own_s (g' := (mkF m 14 #[.val (.int p1_0)] [(.int 67)])) (fun _ k => XS.bipush X0.here hx rfl (hb hby d1_12) k) ?_
    refine own_retN X0 hx hlk (t := .char) hret (by simp) (hb hby d1_14) (z' := (67 : Int32)) (by decide) (by decide) (by decide) ?_
    show Q1 Z p1_0 h0 n0 _ s₁.heap _
    rw [e0]
    exact ⟨(congrArg (fun z => some (Value.int z)) (show (67 : Int32) = (r1 p1_0) from (Eq.symm ((if_neg c1).trans (if_pos c2))))), N0, rfl⟩
   ·skip
    refine own_s (g' := (mkF m 15 #[.val (.int p1_0)] [])) (fun _ k => XS.icmpYes X0.here hx rfl (pc0 := 9) (pc' := 15) rfl (hb hby d1_9) rfl (feq c2).2 (by decide) (by decide) k) ?_
    refine own_s (g' := (mkF m 16 #[.val (.int p1_0)] [(.int p1_0)])) (fun _ k => XS.iloadN X0.here hx rfl (hb hby d1_15) rfl k) ?_
    refine own_s (g' := (mkF m 17 #[.val (.int p1_0)] [(.int 2), (.int p1_0)])) (fun _ k => XS.iconst X0.here hx rfl (hb hby d1_16) k) ?_
    by_cases c3 : p1_0 = (2 : Int32)
    ·skip
     refine own_s (g' := (mkF m 20 #[.val (.int p1_0)] [])) (fun _ k => XS.icmpNo X0.here hx rfl (hb hby d1_17) rfl (teq c3).2 k) ?_
     refine own_s (g' := (mkF m 22 #[.val (.int p1_0)] [(.int 71)])) (fun _ k => XS.bipush X0.here hx rfl (hb hby d1_20) k) ?_
     refine own_retN X0 hx hlk (t := .char) hret (by simp) (hb hby d1_22) (z' := (71 : Int32)) (by decide) (by decide) (by decide) ?_
     show Q1 Z p1_0 h0 n0 _ s₁.heap _
     rw [e0]
     exact ⟨(congrArg (fun z => some (Value.int z)) (show (71 : Int32) = (r1 p1_0) from (Eq.symm ((if_neg c1).trans ((if_neg c2).trans (if_pos c3)))))), N0, rfl⟩
    ·skip
     refine own_s (g' := (mkF m 23 #[.val (.int p1_0)] [])) (fun _ k => XS.icmpYes X0.here hx rfl (pc0 := 17) (pc' := 23) rfl (hb hby d1_17) rfl (feq c3).2 (by decide) (by decide) k) ?_
     refine own_s (g' := (mkF m 24 #[.val (.int p1_0)] [(.int p1_0)])) (fun _ k => XS.iloadN X0.here hx rfl (hb hby d1_23) rfl k) ?_
     refine own_s (g' := (mkF m 25 #[.val (.int p1_0)] [(.int 3), (.int p1_0)])) (fun _ k => XS.iconst X0.here hx rfl (hb hby d1_24) k) ?_
     by_cases c4 : p1_0 = (3 : Int32)
     ·skip
      refine own_s (g' := (mkF m 28 #[.val (.int p1_0)] [])) (fun _ k => XS.icmpNo X0.here hx rfl (hb hby d1_25) rfl (teq c4).2 k) ?_
      refine own_s (g' := (mkF m 30 #[.val (.int p1_0)] [(.int 84)])) (fun _ k => XS.bipush X0.here hx rfl (hb hby d1_28) k) ?_
      refine own_retN X0 hx hlk (t := .char) hret (by simp) (hb hby d1_30) (z' := (84 : Int32)) (by decide) (by decide) (by decide) ?_
      show Q1 Z p1_0 h0 n0 _ s₁.heap _
      rw [e0]
      exact ⟨(congrArg (fun z => some (Value.int z)) (show (84 : Int32) = (r1 p1_0) from (Eq.symm ((if_neg c1).trans ((if_neg c2).trans ((if_neg c3).trans (if_pos c4))))))), N0, rfl⟩
     ·skip
      refine own_s (g' := (mkF m 31 #[.val (.int p1_0)] [])) (fun _ k => XS.icmpYes X0.here hx rfl (pc0 := 25) (pc' := 31) rfl (hb hby d1_25) rfl (feq c4).2 (by decide) (by decide) k) ?_
      refine own_s (g' := (mkF m 33 #[.val (.int p1_0)] [(.int 78)])) (fun _ k => XS.bipush X0.here hx rfl (hb hby d1_31) k) ?_
      refine own_retN X0 hx hlk (t := .char) hret (by simp) (hb hby d1_33) (z' := (78 : Int32)) (by decide) (by decide) (by decide) ?_
      show Q1 Z p1_0 h0 n0 _ s₁.heap _
      rw [e0]
      exact ⟨(congrArg (fun z => some (Value.int z)) (show (78 : Int32) = (r1 p1_0) from (Eq.symm ((if_neg c1).trans ((if_neg c2).trans ((if_neg c3).trans (if_neg c4))))))), N0, rfl⟩
theorem d2_0 : decode prog_114_method_4_code 0 = .ok (.iload_n 0, 1) := by decide +kernel
theorem d2_1 : decode prog_114_method_4_code 1 = .ok (.iload_n 1, 1) := by decide +kernel
theorem d2_2 : decode prog_114_method_4_code 2 = .ok (.if_icmp .ne 13, 3) := by decide +kernel
theorem d2_5 : decode prog_114_method_4_code 5 = .ok (.iload_n 0, 1) := by decide +kernel
theorem d2_6 : decode prog_114_method_4_code 6 = .ok (.bipush 78, 2) := by decide +kernel
theorem d2_8 : decode prog_114_method_4_code 8 = .ok (.if_icmp .eq 7, 3) := by decide +kernel
theorem d2_11 : decode prog_114_method_4_code 11 = .ok (.iconst 1, 1) := by decide +kernel
theorem d2_12 : decode prog_114_method_4_code 12 = .ok (.goto 4, 3) := by decide +kernel
theorem d2_15 : decode prog_114_method_4_code 15 = .ok (.iconst 0, 1) := by decide +kernel
theorem d2_16 : decode prog_114_method_4_code 16 = .ok (.ireturn, 1) := by decide +kernel
theorem pn_com_example_junctura_junctura_model_LinearScoring : plainName "com/example/junctura/junctura/model/LinearScoring" = true := by first | (simp [plainName, overriddenIn]; done) | decide +kernel
theorem ef_2 (m : MethodId) (p2_0 : Int32) (p2_1 : Int32) : entryFrame m #[(.int p2_0), (.int p2_1)] 2 = mkF m 0 #[.val (.int p2_0), .val (.int p2_1)] [] := by first | (simp [entryFrame, mkF, argsToLocals, Value.category]; done) | rfl
def r2 (p2_0 : Int32) (p2_1 : Int32) : Int32 := (if p2_0 = p2_1 then (if p2_0 = (78 : Int32) then (0 : Int32) else (1 : Int32)) else (0 : Int32))
def Q2 (Z : State) (p2_0 : Int32) (p2_1 : Int32) (h0 : Heap) (n0 : Nat) (v : Option Value) (h : Heap) (L : List Loc) : Prop := v = some (.int (r2 p2_0 p2_1)) ∧ Fr n0 L ∧ h = h0
set_option maxRecDepth 65536 in
set_option maxHeartbeats 40000000 in
theorem rm2 (l : Launch) (Z : State) (a0 : Array Value) (hw : ∀ d ∈ tables_1, d.before a0 Z = true) (ws : List Jvm.Cond) (p2_0 : Int32) (p2_1 : Int32) (h0 : Heap) (n0 : Nat) (Z0 : n0 ≤ h0.size) :
    MetFree l (⟨"com/example/junctura/junctura/model/LinearScoring", "isMatch", "(CC)Z"⟩ : MethodName) (head1 (Jvm.Cond.code (⟨"com/example/junctura/junctura/model/LinearScoring", "isMatch", "(CC)Z"⟩ : MethodName) prog_114_method_4_code 2 (some .boolean) :: ws) ({ frames := 0, cells := 0, slots := 0, locals := 0 } : Room)) (fun a U => a = #[(.int p2_0), (.int p2_1)] ∧ Z.Warmed39 U.vm ∧ U.heap = h0) (fun _ _ _ _ _ => True) (fun _ U o U' => ∃ v L, o = .returned v ∧ Q2 Z p2_0 p2_1 h0 n0 v U'.heap L ∧ FrameEnd U o U' L ({ frames := 0, cells := 0, slots := 0, locals := 0 } : Room).cells ({ frames := 0, cells := 0, slots := 0, locals := 0 } : Room).slots) := by
  refine MetFree.of_bodySF (plainFor_of_name pn_com_example_junctura_junctura_model_LinearScoring) hisR ?_
  intro p e s m args below meth c s₁ Bd hml0 hP hK
  obtain ⟨rfl, hZ, hh⟩ := hP
  have hx := Bd.exec
  have hby := Bd.bytes
  have hlk := Bd.notSynchronized
  have hret := Bd.returns
  have hml : c.maxLocals = 2 := hml0
  have hown : s.vm.findClass "com/example/junctura/junctura/model/LinearScoring" = some m.cls := findClass_of_methodNamed Bd.named
  have hnm := (name_of_methodNamed Bd.named Bd.method).1
  have X0 : Stand p l e ({ frames := 0, cells := 0, slots := 0, locals := 0 } : Room) s m #[(.int p2_0), (.int p2_1)] below meth c s₁ [] 0 0 := Stand.of_body Bd
  have e0 : s₁.heap = h0 := by rw [← hh, Bd.state]; rfl
  have N0 := Fr.nil n0
  have K0 : Keep h0 h0 [] := Keep.refl _ _
  show own_G p e below s (Q2 Z p2_0 p2_1 h0 n0) ({ frames := 0, cells := 0, slots := 0, locals := 0 } : Room).cells ({ frames := 0, cells := 0, slots := 0, locals := 0 } : Room).slots s₁ (entryFrame m #[(.int p2_0), (.int p2_1)] 2)
  refine own_cast (ef_2 m p2_0 p2_1) ?_
  refine own_s (g' := (mkF m 1 #[.val (.int p2_0), .val (.int p2_1)] [(.int p2_0)])) (fun _ k => XS.iloadN X0.here hx rfl (hb hby d2_0) rfl k) ?_
  refine own_s (g' := (mkF m 2 #[.val (.int p2_0), .val (.int p2_1)] [(.int p2_1), (.int p2_0)])) (fun _ k => XS.iloadN X0.here hx rfl (hb hby d2_1) rfl k) ?_
  by_cases c5 : p2_0 = p2_1
  ·skip
   refine own_s (g' := (mkF m 5 #[.val (.int p2_0), .val (.int p2_1)] [])) (fun _ k => XS.icmpNo X0.here hx rfl (hb hby d2_2) rfl (teq c5).2 k) ?_
   refine own_s (g' := (mkF m 6 #[.val (.int p2_0), .val (.int p2_1)] [(.int p2_0)])) (fun _ k => XS.iloadN X0.here hx rfl (hb hby d2_5) rfl k) ?_
   refine own_s (g' := (mkF m 8 #[.val (.int p2_0), .val (.int p2_1)] [(.int 78), (.int p2_0)])) (fun _ k => XS.bipush X0.here hx rfl (hb hby d2_6) k) ?_
   by_cases c6 : p2_0 = (78 : Int32)
   ·skip
    refine own_s (g' := (mkF m 15 #[.val (.int p2_0), .val (.int p2_1)] [])) (fun _ k => XS.icmpYes X0.here hx rfl (pc0 := 8) (pc' := 15) rfl (hb hby d2_8) rfl (teq c6).1 (by decide) (by decide) k) ?_
    refine own_s (g' := (mkF m 16 #[.val (.int p2_0), .val (.int p2_1)] [(.int 0)])) (fun _ k => XS.iconst X0.here hx rfl (hb hby d2_15) k) ?_
    refine own_retN X0 hx hlk (t := .boolean) hret (by simp) (hb hby d2_16) (z' := (0 : Int32)) (by decide) (by decide) (by decide) ?_
    show Q2 Z p2_0 p2_1 h0 n0 _ s₁.heap _
    rw [e0]
    exact ⟨(congrArg (fun z => some (Value.int z)) (show (0 : Int32) = (r2 p2_0 p2_1) from (Eq.symm ((if_pos c5).trans (if_pos c6))))), N0, rfl⟩
   ·skip
    refine own_s (g' := (mkF m 11 #[.val (.int p2_0), .val (.int p2_1)] [])) (fun _ k => XS.icmpNo X0.here hx rfl (hb hby d2_8) rfl (feq c6).1 k) ?_
    refine own_s (g' := (mkF m 12 #[.val (.int p2_0), .val (.int p2_1)] [(.int 1)])) (fun _ k => XS.iconst X0.here hx rfl (hb hby d2_11) k) ?_
    refine own_s (g' := (mkF m 16 #[.val (.int p2_0), .val (.int p2_1)] [(.int 1)])) (fun _ k => XS.goto X0.here hx rfl (pc0 := 12) (pc' := 16) rfl (hb hby d2_12) (by decide) (by decide) k) ?_
    refine own_retN X0 hx hlk (t := .boolean) hret (by simp) (hb hby d2_16) (z' := (1 : Int32)) (by decide) (by decide) (by decide) ?_
    show Q2 Z p2_0 p2_1 h0 n0 _ s₁.heap _
    rw [e0]
    exact ⟨(congrArg (fun z => some (Value.int z)) (show (1 : Int32) = (r2 p2_0 p2_1) from (Eq.symm ((if_pos c5).trans (if_neg c6))))), N0, rfl⟩
  ·skip
   refine own_s (g' := (mkF m 15 #[.val (.int p2_0), .val (.int p2_1)] [])) (fun _ k => XS.icmpYes X0.here hx rfl (pc0 := 2) (pc' := 15) rfl (hb hby d2_2) rfl (feq c5).2 (by decide) (by decide) k) ?_
   refine own_s (g' := (mkF m 16 #[.val (.int p2_0), .val (.int p2_1)] [(.int 0)])) (fun _ k => XS.iconst X0.here hx rfl (hb hby d2_15) k) ?_
   refine own_retN X0 hx hlk (t := .boolean) hret (by simp) (hb hby d2_16) (z' := (0 : Int32)) (by decide) (by decide) (by decide) ?_
   show Q2 Z p2_0 p2_1 h0 n0 _ s₁.heap _
   rw [e0]
   exact ⟨(congrArg (fun z => some (Value.int z)) (show (0 : Int32) = (r2 p2_0 p2_1) from (Eq.symm (if_neg c5)))), N0, rfl⟩
theorem own_p5 (x : Int32) : ((x &&& (2147483647 : Int32)) % (5 : Int32)) = (0 : Int32) ∨ ((x &&& (2147483647 : Int32)) % (5 : Int32)) = (1 : Int32) ∨ ((x &&& (2147483647 : Int32)) % (5 : Int32)) = (2 : Int32) ∨ ((x &&& (2147483647 : Int32)) % (5 : Int32)) = (3 : Int32) ∨ ((x &&& (2147483647 : Int32)) % (5 : Int32)) = (4 : Int32) := by
  have h1 := c_and x 2147483647 (by decide)
  have h2 := (c_irem (x &&& 2147483647) 5 5 (by decide)).1 h1.1
  have h3 : ((x &&& 2147483647) % 5).toInt = 0 ∨ ((x &&& 2147483647) % 5).toInt = 1 ∨ ((x &&& 2147483647) % 5).toInt = 2 ∨ ((x &&& 2147483647) % 5).toInt = 3 ∨ ((x &&& 2147483647) % 5).toInt = 4 := by omega
  rcases h3 with h | h | h | h | h
  · left; exact Int32.toInt_inj.mp (h.trans (by decide))
  · right; left; exact Int32.toInt_inj.mp (h.trans (by decide))
  · right; right; left; exact Int32.toInt_inj.mp (h.trans (by decide))
  · right; right; right; left; exact Int32.toInt_inj.mp (h.trans (by decide))
  · right; right; right; right; exact Int32.toInt_inj.mp (h.trans (by decide))
theorem own_ex (p q : Int32) (hp : p = 0 ∨ p = 1 ∨ p = 2 ∨ p = 3 ∨ p = 4) (hq : q = 0 ∨ q = 1 ∨ q = 2 ∨ q = 3 ∨ q = 4) : r2 (r1 p) (r1 q) = if p = q then (if p < 4 then 1 else 0) else 0 := by
  rcases hp with rfl | rfl | rfl | rfl | rfl <;> rcases hq with rfl | rfl | rfl | rfl | rfl <;> decide
theorem own_sym (a b : Int32) : r2 a b = r2 b a := by
  unfold r2
  by_cases h : a = b
  · rw [h]
  · rw [if_neg h, if_neg (fun q => h q.symm)]
theorem own_only (a b : Int32) (h : ¬ r2 a b = 0) : a = b := by
  unfold r2 at h
  by_cases q : a = b
  · exact q
  · rw [if_neg q] at h; exact absurd rfl h
theorem own_n1 (a : Int32) : r2 a (78 : Int32) = 0 := by
  unfold r2
  by_cases h : a = 78
  · rw [if_pos h, if_pos h]
  · rw [if_neg h]
theorem own_n2 (a : Int32) : r2 (78 : Int32) a = 0 := by rw [own_sym]; exact own_n1 a
theorem pd__I_C : parseMethodDescriptor "(I)C" = some ⟨[.int], some .char⟩ := by decide +kernel
theorem pd__CC_Z : parseMethodDescriptor "(CC)Z" = some ⟨[.char, .char], some .boolean⟩ := by decide +kernel
theorem ef_0 (m : MethodId) (p0_0 : Int32) (p0_1 : Int32) (p0_2 : Int32) (p0_3 : Int32) : entryFrame m #[(.int p0_0), (.int p0_1), (.int p0_2), (.int p0_3)] maxLocals = mkF m 0 #[.val (.int p0_0), .val (.int p0_1), .val (.int p0_2), .val (.int p0_3), .unset, .unset, .unset, .unset, .unset, .unset, .unset, .unset, .unset, .unset] [] := by first | (simp [entryFrame, mkF, argsToLocals, Value.category, maxLocals]; done) | rfl
def t0_6 (p0_0 : Int32) : Int32 := ((p0_0 &&& (2147483647 : Int32)) % (5 : Int32))
def t0_14 (p0_1 : Int32) : Int32 := ((p0_1 &&& (2147483647 : Int32)) % (5 : Int32))
def t0_66 (p0_2 : Int32) : Int32 := (p0_2 &&& (65535 : Int32)).toUInt32.toUInt16.toUInt32.toInt32
def t0_73 (p0_3 : Int32) : Int32 := (p0_3 &&& (65535 : Int32)).toUInt32.toUInt16.toUInt32.toInt32
def Q0 (Z : State) (p0_0 : Int32) (p0_1 : Int32) (p0_2 : Int32) (p0_3 : Int32) (h0 : Heap) (n0 : Nat) (v : Option Value) (h : Heap) (L : List Loc) : Prop := v = some (.int (1 : Int32)) ∧ Fr n0 L
set_option maxRecDepth 65536 in
set_option maxHeartbeats 40000000 in
theorem rm0 (l : Launch) (Z : State) (a0 : Array Value) (hw : ∀ d ∈ tables_1, d.before a0 Z = true) (ws : List Jvm.Cond) (p0_0 : Int32) (p0_1 : Int32) (p0_2 : Int32) (p0_3 : Int32) (h0 : Heap) (n0 : Nat) (Z0 : n0 ≤ h0.size) :
    MetFree l x (head1 (Jvm.Cond.code x code maxLocals ret :: ws) room_1) (fun a U => a = #[(.int p0_0), (.int p0_1), (.int p0_2), (.int p0_3)] ∧ Z.Warmed39 U.vm ∧ U.heap = h0) (fun _ _ _ _ _ => True) (fun _ U o U' => ∃ v L, o = .returned v ∧ Q0 Z p0_0 p0_1 p0_2 p0_3 h0 n0 v U'.heap L ∧ FrameEnd U o U' L 0 0) := by
  refine MetFree.of_bodySF (plainFor_of_name pn_com_example_junctura_junctura_model_LinearScoringIsMatchPinLaw) hisR ?_
  intro p e s m args below meth c s₁ Bd hml0 hP hK
  obtain ⟨rfl, hZ, hh⟩ := hP
  have hx := Bd.exec
  have hby := Bd.bytes
  have hlk := Bd.notSynchronized
  have hret := Bd.returns
  have hml : c.maxLocals = 14 := hml0
  have hown : s.vm.findClass "com/example/junctura/junctura/model/LinearScoringIsMatchPinLaw" = some m.cls := findClass_of_methodNamed Bd.named
  have hnm := (name_of_methodNamed Bd.named Bd.method).1
  have X0 : Stand p l e room_1 s m #[(.int p0_0), (.int p0_1), (.int p0_2), (.int p0_3)] below meth c s₁ [] 0 0 := Stand.of_body Bd
  have e0 : s₁.heap = h0 := by rw [← hh, Bd.state]; rfl
  have N0 := Fr.nil n0
  have K0 : Keep h0 h0 [] := Keep.refl _ _
  show own_G p e below s (Q0 Z p0_0 p0_1 p0_2 p0_3 h0 n0) 0 0 s₁ (entryFrame m #[(.int p0_0), (.int p0_1), (.int p0_2), (.int p0_3)] maxLocals)
  have ww0 := hw _ (List.mem_of_getElem? (i := 0) rfl)
  have ww1 := hw _ (List.mem_of_getElem? (i := 1) rfl)
  have ww2 := hw _ (List.mem_of_getElem? (i := 2) rfl)
  have ww3 := hw _ (List.mem_of_getElem? (i := 3) rfl)
  have ww4 := hw _ (List.mem_of_getElem? (i := 4) rfl)
  have ww5 := hw _ (List.mem_of_getElem? (i := 5) rfl)
  have ww6 := hw _ (List.mem_of_getElem? (i := 6) rfl)
  have ww7 := hw _ (List.mem_of_getElem? (i := 7) rfl)
  have ww8 := hw _ (List.mem_of_getElem? (i := 8) rfl)
  have ww9 := hw _ (List.mem_of_getElem? (i := 9) rfl)
  refine own_cast (ef_0 m p0_0 p0_1 p0_2 p0_3) ?_
  refine own_s (g' := (mkF m 1 #[.val (.int p0_0), .val (.int p0_1), .val (.int p0_2), .val (.int p0_3), .unset, .unset, .unset, .unset, .unset, .unset, .unset, .unset, .unset, .unset] [(.int p0_0)])) (fun _ k => XS.iloadN X0.here hx rfl (hb hby at_0) rfl k) ?_
  refine own_s (g' := (mkF m 3 #[.val (.int p0_0), .val (.int p0_1), .val (.int p0_2), .val (.int p0_3), .unset, .unset, .unset, .unset, .unset, .unset, .unset, .unset, .unset, .unset] [(.int 2147483647), (.int p0_0)])) (X0.ldcInt hx hown (mvT hZ ww0) (g := (mkF m 1 #[.val (.int p0_0), .val (.int p0_1), .val (.int p0_2), .val (.int p0_3), .unset, .unset, .unset, .unset, .unset, .unset, .unset, .unset, .unset, .unset] [(.int p0_0)])) rfl (hb hby at_1)) ?_
  refine own_s (g' := (mkF m 4 #[.val (.int p0_0), .val (.int p0_1), .val (.int p0_2), .val (.int p0_3), .unset, .unset, .unset, .unset, .unset, .unset, .unset, .unset, .unset, .unset] [(.int (p0_0 &&& (2147483647 : Int32)))])) (fun _ k => XS.iand X0.here hx rfl (hb hby at_3) rfl k) ?_
  refine own_s (g' := (mkF m 5 #[.val (.int p0_0), .val (.int p0_1), .val (.int p0_2), .val (.int p0_3), .unset, .unset, .unset, .unset, .unset, .unset, .unset, .unset, .unset, .unset] [(.int 5), (.int (p0_0 &&& (2147483647 : Int32)))])) (fun _ k => XS.iconst X0.here hx rfl (hb hby at_4) k) ?_
  refine own_s (g' := (mkF m 6 #[.val (.int p0_0), .val (.int p0_1), .val (.int p0_2), .val (.int p0_3), .unset, .unset, .unset, .unset, .unset, .unset, .unset, .unset, .unset, .unset] [(.int ((p0_0 &&& (2147483647 : Int32)) % (5 : Int32)))])) (fun _ k => iremM X0 hx rfl (hb hby at_5) rfl (by decide) k) ?_
  refine own_s (g' := (mkF m 8 #[.val (.int p0_0), .val (.int p0_1), .val (.int p0_2), .val (.int p0_3), .val (.int (t0_6 p0_0)), .unset, .unset, .unset, .unset, .unset, .unset, .unset, .unset, .unset] [])) (fun _ k => XS.istore X0.here hx rfl (hb hby at_6) rfl (l' := #[.val (.int p0_0), .val (.int p0_1), .val (.int p0_2), .val (.int p0_3), .val (.int (t0_6 p0_0)), .unset, .unset, .unset, .unset, .unset, .unset, .unset, .unset, .unset]) rfl k) ?_
  refine own_s (g' := (mkF m 9 #[.val (.int p0_0), .val (.int p0_1), .val (.int p0_2), .val (.int p0_3), .val (.int (t0_6 p0_0)), .unset, .unset, .unset, .unset, .unset, .unset, .unset, .unset, .unset] [(.int p0_1)])) (fun _ k => XS.iloadN X0.here hx rfl (hb hby at_8) rfl k) ?_
  refine own_s (g' := (mkF m 11 #[.val (.int p0_0), .val (.int p0_1), .val (.int p0_2), .val (.int p0_3), .val (.int (t0_6 p0_0)), .unset, .unset, .unset, .unset, .unset, .unset, .unset, .unset, .unset] [(.int 2147483647), (.int p0_1)])) (X0.ldcInt hx hown (mvT hZ ww0) (g := (mkF m 9 #[.val (.int p0_0), .val (.int p0_1), .val (.int p0_2), .val (.int p0_3), .val (.int (t0_6 p0_0)), .unset, .unset, .unset, .unset, .unset, .unset, .unset, .unset, .unset] [(.int p0_1)])) rfl (hb hby at_9)) ?_
  refine own_s (g' := (mkF m 12 #[.val (.int p0_0), .val (.int p0_1), .val (.int p0_2), .val (.int p0_3), .val (.int (t0_6 p0_0)), .unset, .unset, .unset, .unset, .unset, .unset, .unset, .unset, .unset] [(.int (p0_1 &&& (2147483647 : Int32)))])) (fun _ k => XS.iand X0.here hx rfl (hb hby at_11) rfl k) ?_
  refine own_s (g' := (mkF m 13 #[.val (.int p0_0), .val (.int p0_1), .val (.int p0_2), .val (.int p0_3), .val (.int (t0_6 p0_0)), .unset, .unset, .unset, .unset, .unset, .unset, .unset, .unset, .unset] [(.int 5), (.int (p0_1 &&& (2147483647 : Int32)))])) (fun _ k => XS.iconst X0.here hx rfl (hb hby at_12) k) ?_
  refine own_s (g' := (mkF m 14 #[.val (.int p0_0), .val (.int p0_1), .val (.int p0_2), .val (.int p0_3), .val (.int (t0_6 p0_0)), .unset, .unset, .unset, .unset, .unset, .unset, .unset, .unset, .unset] [(.int ((p0_1 &&& (2147483647 : Int32)) % (5 : Int32)))])) (fun _ k => iremM X0 hx rfl (hb hby at_13) rfl (by decide) k) ?_
  refine own_s (g' := (mkF m 16 #[.val (.int p0_0), .val (.int p0_1), .val (.int p0_2), .val (.int p0_3), .val (.int (t0_6 p0_0)), .val (.int (t0_14 p0_1)), .unset, .unset, .unset, .unset, .unset, .unset, .unset, .unset] [])) (fun _ k => XS.istore X0.here hx rfl (hb hby at_14) rfl (l' := #[.val (.int p0_0), .val (.int p0_1), .val (.int p0_2), .val (.int p0_3), .val (.int (t0_6 p0_0)), .val (.int (t0_14 p0_1)), .unset, .unset, .unset, .unset, .unset, .unset, .unset, .unset]) rfl k) ?_
  refine own_s (g' := (mkF m 18 #[.val (.int p0_0), .val (.int p0_1), .val (.int p0_2), .val (.int p0_3), .val (.int (t0_6 p0_0)), .val (.int (t0_14 p0_1)), .unset, .unset, .unset, .unset, .unset, .unset, .unset, .unset] [(.int (t0_6 p0_0))])) (fun _ k => XS.iload X0.here hx rfl (hb hby at_16) rfl k) ?_
  refine own_s (g' := (mkF m 20 #[.val (.int p0_0), .val (.int p0_1), .val (.int p0_2), .val (.int p0_3), .val (.int (t0_6 p0_0)), .val (.int (t0_14 p0_1)), .unset, .unset, .unset, .unset, .unset, .unset, .unset, .unset] [(.int (t0_14 p0_1)), (.int (t0_6 p0_0))])) (fun _ k => XS.iload X0.here hx rfl (hb hby at_18) rfl k) ?_
  by_cases c7 : (t0_6 p0_0) = (t0_14 p0_1)
  ·skip
   refine own_s (g' := (mkF m 23 #[.val (.int p0_0), .val (.int p0_1), .val (.int p0_2), .val (.int p0_3), .val (.int (t0_6 p0_0)), .val (.int (t0_14 p0_1)), .unset, .unset, .unset, .unset, .unset, .unset, .unset, .unset] [])) (fun _ k => XS.icmpNo X0.here hx rfl (hb hby at_20) rfl (teq c7).2 k) ?_
   refine own_s (g' := (mkF m 25 #[.val (.int p0_0), .val (.int p0_1), .val (.int p0_2), .val (.int p0_3), .val (.int (t0_6 p0_0)), .val (.int (t0_14 p0_1)), .unset, .unset, .unset, .unset, .unset, .unset, .unset, .unset] [(.int (t0_6 p0_0))])) (fun _ k => XS.iload X0.here hx rfl (hb hby at_23) rfl k) ?_
   refine own_s (g' := (mkF m 26 #[.val (.int p0_0), .val (.int p0_1), .val (.int p0_2), .val (.int p0_3), .val (.int (t0_6 p0_0)), .val (.int (t0_14 p0_1)), .unset, .unset, .unset, .unset, .unset, .unset, .unset, .unset] [(.int 4), (.int (t0_6 p0_0))])) (fun _ k => XS.iconst X0.here hx rfl (hb hby at_25) k) ?_
   by_cases c8 : (t0_6 p0_0) < (4 : Int32)
   ·skip
    refine own_s (g' := (mkF m 29 #[.val (.int p0_0), .val (.int p0_1), .val (.int p0_2), .val (.int p0_3), .val (.int (t0_6 p0_0)), .val (.int (t0_14 p0_1)), .unset, .unset, .unset, .unset, .unset, .unset, .unset, .unset] [])) (fun _ k => XS.icmpNo X0.here hx rfl (hb hby at_26) rfl (tlt c8).2.1 k) ?_
    refine own_s (g' := (mkF m 30 #[.val (.int p0_0), .val (.int p0_1), .val (.int p0_2), .val (.int p0_3), .val (.int (t0_6 p0_0)), .val (.int (t0_14 p0_1)), .unset, .unset, .unset, .unset, .unset, .unset, .unset, .unset] [(.int 1)])) (fun _ k => XS.iconst X0.here hx rfl (hb hby at_29) k) ?_
    refine own_s (g' := (mkF m 34 #[.val (.int p0_0), .val (.int p0_1), .val (.int p0_2), .val (.int p0_3), .val (.int (t0_6 p0_0)), .val (.int (t0_14 p0_1)), .unset, .unset, .unset, .unset, .unset, .unset, .unset, .unset] [(.int 1)])) (fun _ k => XS.goto X0.here hx rfl (pc0 := 30) (pc' := 34) rfl (hb hby at_30) (by decide) (by decide) k) ?_
    refine own_s (g' := (mkF m 36 #[.val (.int p0_0), .val (.int p0_1), .val (.int p0_2), .val (.int p0_3), .val (.int (t0_6 p0_0)), .val (.int (t0_14 p0_1)), .val (.int 1), .unset, .unset, .unset, .unset, .unset, .unset, .unset] [])) (fun _ k => XS.istore X0.here hx rfl (hb hby at_34) rfl (l' := #[.val (.int p0_0), .val (.int p0_1), .val (.int p0_2), .val (.int p0_3), .val (.int (t0_6 p0_0)), .val (.int (t0_14 p0_1)), .val (.int 1), .unset, .unset, .unset, .unset, .unset, .unset, .unset]) rfl k) ?_
    refine own_s (g' := (mkF m 38 #[.val (.int p0_0), .val (.int p0_1), .val (.int p0_2), .val (.int p0_3), .val (.int (t0_6 p0_0)), .val (.int (t0_14 p0_1)), .val (.int 1), .unset, .unset, .unset, .unset, .unset, .unset, .unset] [(.int (t0_6 p0_0))])) (fun _ k => XS.iload X0.here hx rfl (hb hby at_36) rfl k) ?_
    obtain ⟨_, _, ⟨T9, L9, k9, n9⟩, -, X9, ⟨Lc9, hQ9, l9, y9, z9⟩, st9⟩ := Jvm.LawKit.callS X0 hx (y := (⟨"com/example/junctura/junctura/model/LinearScoringIsMatchPinLaw", "base", "(I)C"⟩ : MethodName)) hown (mvT hZ ww1) (mvT hZ ww2) (mvT hZ ww3) (mvT hZ ww4) (by decide) (backOf (W := 0) (rm1 l Z a0 hw [] (t0_6 p0_0) h0 n0 Z0 ) hZ ww4 ww3 (by decide) (by decide)) (g := (mkF m 38 #[.val (.int p0_0), .val (.int p0_1), .val (.int p0_2), .val (.int p0_3), .val (.int (t0_6 p0_0)), .val (.int (t0_14 p0_1)), .val (.int 1), .unset, .unset, .unset, .unset, .unset, .unset, .unset] [(.int (t0_6 p0_0))])) rfl (by rw [hml]; rfl) (argsL := [(.int (t0_6 p0_0))]) (rest := []) (lenOf pd__I_C rfl) rfl (by show 2 * 0 + _ ≤ _; exact Nat.le_of_eq rfl) (hb hby at_38) (fun _ _ => ⟨rfl, e0, (by decide : 0 + 0 ≤ _), (by decide : 0 + 0 ≤ _)⟩)
    dsimp only [Pt.U, Pt.locs, Pt.cells, Pt.slots] at X9 l9 y9 z9 st9 hQ9
    subst l9 y9 z9
    obtain ⟨rfl, N9q, eh9⟩ := hQ9
    have N9 := Fr.app N0 N9q
    refine own_s (g' := (mkF m 41 #[.val (.int p0_0), .val (.int p0_1), .val (.int p0_2), .val (.int p0_3), .val (.int (t0_6 p0_0)), .val (.int (t0_14 p0_1)), .val (.int 1), .unset, .unset, .unset, .unset, .unset, .unset, .unset] [(.int (r1 (t0_6 p0_0)))])) st9 ?_
    refine own_s (g' := (mkF m 43 #[.val (.int p0_0), .val (.int p0_1), .val (.int p0_2), .val (.int p0_3), .val (.int (t0_6 p0_0)), .val (.int (t0_14 p0_1)), .val (.int 1), .unset, .unset, .unset, .unset, .unset, .unset, .unset] [(.int (t0_14 p0_1)), (.int (r1 (t0_6 p0_0)))])) (fun _ k => XS.iload X9.here hx rfl (hb hby at_41) rfl k) ?_
    obtain ⟨_, _, ⟨T10, L10, k10, n10⟩, -, X10, ⟨Lc10, hQ10, l10, y10, z10⟩, st10⟩ := Jvm.LawKit.callS X9 hx (y := (⟨"com/example/junctura/junctura/model/LinearScoringIsMatchPinLaw", "base", "(I)C"⟩ : MethodName)) hown (mvT hZ ww1) (mvT hZ ww2) (mvT hZ ww3) (mvT hZ ww4) (by decide) (backOf (W := 1) (rm1 l Z a0 hw [] (t0_14 p0_1) h0 n0 Z0 ) hZ ww4 ww3 (by decide) (by decide)) (g := (mkF m 43 #[.val (.int p0_0), .val (.int p0_1), .val (.int p0_2), .val (.int p0_3), .val (.int (t0_6 p0_0)), .val (.int (t0_14 p0_1)), .val (.int 1), .unset, .unset, .unset, .unset, .unset, .unset, .unset] [(.int (t0_14 p0_1)), (.int (r1 (t0_6 p0_0)))])) rfl (by rw [hml]; rfl) (argsL := [(.int (t0_14 p0_1))]) (rest := [(.int (r1 (t0_6 p0_0)))]) (lenOf pd__I_C rfl) rfl (by show 2 * 0 + _ ≤ _; exact Nat.le_of_eq rfl) (hb hby at_43) (fun _ _ => ⟨rfl, eh9, (by decide : 0 + 0 ≤ _), (by decide : 0 + 0 ≤ _)⟩)
    dsimp only [Pt.U, Pt.locs, Pt.cells, Pt.slots] at X10 l10 y10 z10 st10 hQ10
    subst l10 y10 z10
    obtain ⟨rfl, N10q, eh10⟩ := hQ10
    have N10 := Fr.app N9 N10q
    refine own_s (g' := (mkF m 46 #[.val (.int p0_0), .val (.int p0_1), .val (.int p0_2), .val (.int p0_3), .val (.int (t0_6 p0_0)), .val (.int (t0_14 p0_1)), .val (.int 1), .unset, .unset, .unset, .unset, .unset, .unset, .unset] [(.int (r1 (t0_14 p0_1))), (.int (r1 (t0_6 p0_0)))])) st10 ?_
    obtain ⟨_, _, ⟨T11, L11, k11, n11⟩, -, X11, ⟨Lc11, hQ11, l11, y11, z11⟩, st11⟩ := Jvm.LawKit.callS X10 hx (y := (⟨"com/example/junctura/junctura/model/LinearScoring", "isMatch", "(CC)Z"⟩ : MethodName)) hown (mvT hZ ww5) (mvT hZ ww6) (mvT hZ ww7) (mvT hZ ww8) (by decide) (backOf (W := 0) (rm2 l Z a0 hw [] (r1 (t0_6 p0_0)) (r1 (t0_14 p0_1)) h0 n0 Z0 ) hZ ww8 ww7 (by decide) (by decide)) (g := (mkF m 46 #[.val (.int p0_0), .val (.int p0_1), .val (.int p0_2), .val (.int p0_3), .val (.int (t0_6 p0_0)), .val (.int (t0_14 p0_1)), .val (.int 1), .unset, .unset, .unset, .unset, .unset, .unset, .unset] [(.int (r1 (t0_14 p0_1))), (.int (r1 (t0_6 p0_0)))])) rfl (by rw [hml]; rfl) (argsL := [(.int (r1 (t0_6 p0_0))), (.int (r1 (t0_14 p0_1)))]) (rest := []) (lenOf pd__CC_Z rfl) rfl (by show 2 * 0 + _ ≤ _; exact Nat.le_of_eq rfl) (hb hby at_46) (fun _ _ => ⟨rfl, eh10, (by decide : 0 + 0 ≤ _), (by decide : 0 + 0 ≤ _)⟩)
    dsimp only [Pt.U, Pt.locs, Pt.cells, Pt.slots] at X11 l11 y11 z11 st11 hQ11
    subst l11 y11 z11
    obtain ⟨rfl, N11q, eh11⟩ := hQ11
    have N11 := Fr.app N10 N11q
    refine own_s (g' := (mkF m 49 #[.val (.int p0_0), .val (.int p0_1), .val (.int p0_2), .val (.int p0_3), .val (.int (t0_6 p0_0)), .val (.int (t0_14 p0_1)), .val (.int 1), .unset, .unset, .unset, .unset, .unset, .unset, .unset] [(.int (r2 (r1 (t0_6 p0_0)) (r1 (t0_14 p0_1))))])) st11 ?_
    refine own_s (g' := (mkF m 51 #[.val (.int p0_0), .val (.int p0_1), .val (.int p0_2), .val (.int p0_3), .val (.int (t0_6 p0_0)), .val (.int (t0_14 p0_1)), .val (.int 1), .unset, .unset, .unset, .unset, .unset, .unset, .unset] [(.int 1), (.int (r2 (r1 (t0_6 p0_0)) (r1 (t0_14 p0_1))))])) (fun _ k => XS.iload X11.here hx rfl (hb hby at_49) rfl k) ?_
    refine own_s (g' := (mkF m 54 #[.val (.int p0_0), .val (.int p0_1), .val (.int p0_2), .val (.int p0_3), .val (.int (t0_6 p0_0)), .val (.int (t0_14 p0_1)), .val (.int 1), .unset, .unset, .unset, .unset, .unset, .unset, .unset] [])) (fun _ k => XS.icmpNo X11.here hx rfl (hb hby at_51) rfl (teq (((own_ex _ _ (own_p5 p0_0) (own_p5 p0_1)).trans ((if_pos c7).trans (if_pos c8))) : (r2 (r1 (t0_6 p0_0)) (r1 (t0_14 p0_1))) = (1 : Int32))).2 k) ?_
    refine own_s (g' := (mkF m 55 #[.val (.int p0_0), .val (.int p0_1), .val (.int p0_2), .val (.int p0_3), .val (.int (t0_6 p0_0)), .val (.int (t0_14 p0_1)), .val (.int 1), .unset, .unset, .unset, .unset, .unset, .unset, .unset] [(.int 1)])) (fun _ k => XS.iconst X11.here hx rfl (hb hby at_54) k) ?_
    refine own_s (g' := (mkF m 59 #[.val (.int p0_0), .val (.int p0_1), .val (.int p0_2), .val (.int p0_3), .val (.int (t0_6 p0_0)), .val (.int (t0_14 p0_1)), .val (.int 1), .unset, .unset, .unset, .unset, .unset, .unset, .unset] [(.int 1)])) (fun _ k => XS.goto X11.here hx rfl (pc0 := 55) (pc' := 59) rfl (hb hby at_55) (by decide) (by decide) k) ?_
    refine own_s (g' := (mkF m 61 #[.val (.int p0_0), .val (.int p0_1), .val (.int p0_2), .val (.int p0_3), .val (.int (t0_6 p0_0)), .val (.int (t0_14 p0_1)), .val (.int 1), .val (.int 1), .unset, .unset, .unset, .unset, .unset, .unset] [])) (fun _ k => XS.istore X11.here hx rfl (hb hby at_59) rfl (l' := #[.val (.int p0_0), .val (.int p0_1), .val (.int p0_2), .val (.int p0_3), .val (.int (t0_6 p0_0)), .val (.int (t0_14 p0_1)), .val (.int 1), .val (.int 1), .unset, .unset, .unset, .unset, .unset, .unset]) rfl k) ?_
    refine own_s (g' := (mkF m 62 #[.val (.int p0_0), .val (.int p0_1), .val (.int p0_2), .val (.int p0_3), .val (.int (t0_6 p0_0)), .val (.int (t0_14 p0_1)), .val (.int 1), .val (.int 1), .unset, .unset, .unset, .unset, .unset, .unset] [(.int p0_2)])) (fun _ k => XS.iloadN X11.here hx rfl (hb hby at_61) rfl k) ?_
    refine own_s (g' := (mkF m 64 #[.val (.int p0_0), .val (.int p0_1), .val (.int p0_2), .val (.int p0_3), .val (.int (t0_6 p0_0)), .val (.int (t0_14 p0_1)), .val (.int 1), .val (.int 1), .unset, .unset, .unset, .unset, .unset, .unset] [(.int 65535), (.int p0_2)])) (X11.ldcInt hx hown (mvT hZ ww9) (g := (mkF m 62 #[.val (.int p0_0), .val (.int p0_1), .val (.int p0_2), .val (.int p0_3), .val (.int (t0_6 p0_0)), .val (.int (t0_14 p0_1)), .val (.int 1), .val (.int 1), .unset, .unset, .unset, .unset, .unset, .unset] [(.int p0_2)])) rfl (hb hby at_62)) ?_
    refine own_s (g' := (mkF m 65 #[.val (.int p0_0), .val (.int p0_1), .val (.int p0_2), .val (.int p0_3), .val (.int (t0_6 p0_0)), .val (.int (t0_14 p0_1)), .val (.int 1), .val (.int 1), .unset, .unset, .unset, .unset, .unset, .unset] [(.int (p0_2 &&& (65535 : Int32)))])) (fun _ k => XS.iand X11.here hx rfl (hb hby at_64) rfl k) ?_
    refine own_s (g' := (mkF m 66 #[.val (.int p0_0), .val (.int p0_1), .val (.int p0_2), .val (.int p0_3), .val (.int (t0_6 p0_0)), .val (.int (t0_14 p0_1)), .val (.int 1), .val (.int 1), .unset, .unset, .unset, .unset, .unset, .unset] [(.int (p0_2 &&& (65535 : Int32)).toUInt32.toUInt16.toUInt32.toInt32)])) (fun _ k => XS.i2c X11.here hx rfl (hb hby at_65) rfl k) ?_
    refine own_s (g' := (mkF m 68 #[.val (.int p0_0), .val (.int p0_1), .val (.int p0_2), .val (.int p0_3), .val (.int (t0_6 p0_0)), .val (.int (t0_14 p0_1)), .val (.int 1), .val (.int 1), .val (.int (t0_66 p0_2)), .unset, .unset, .unset, .unset, .unset] [])) (fun _ k => XS.istore X11.here hx rfl (hb hby at_66) rfl (l' := #[.val (.int p0_0), .val (.int p0_1), .val (.int p0_2), .val (.int p0_3), .val (.int (t0_6 p0_0)), .val (.int (t0_14 p0_1)), .val (.int 1), .val (.int 1), .val (.int (t0_66 p0_2)), .unset, .unset, .unset, .unset, .unset]) rfl k) ?_
    refine own_s (g' := (mkF m 69 #[.val (.int p0_0), .val (.int p0_1), .val (.int p0_2), .val (.int p0_3), .val (.int (t0_6 p0_0)), .val (.int (t0_14 p0_1)), .val (.int 1), .val (.int 1), .val (.int (t0_66 p0_2)), .unset, .unset, .unset, .unset, .unset] [(.int p0_3)])) (fun _ k => XS.iloadN X11.here hx rfl (hb hby at_68) rfl k) ?_
    refine own_s (g' := (mkF m 71 #[.val (.int p0_0), .val (.int p0_1), .val (.int p0_2), .val (.int p0_3), .val (.int (t0_6 p0_0)), .val (.int (t0_14 p0_1)), .val (.int 1), .val (.int 1), .val (.int (t0_66 p0_2)), .unset, .unset, .unset, .unset, .unset] [(.int 65535), (.int p0_3)])) (X11.ldcInt hx hown (mvT hZ ww9) (g := (mkF m 69 #[.val (.int p0_0), .val (.int p0_1), .val (.int p0_2), .val (.int p0_3), .val (.int (t0_6 p0_0)), .val (.int (t0_14 p0_1)), .val (.int 1), .val (.int 1), .val (.int (t0_66 p0_2)), .unset, .unset, .unset, .unset, .unset] [(.int p0_3)])) rfl (hb hby at_69)) ?_
    refine own_s (g' := (mkF m 72 #[.val (.int p0_0), .val (.int p0_1), .val (.int p0_2), .val (.int p0_3), .val (.int (t0_6 p0_0)), .val (.int (t0_14 p0_1)), .val (.int 1), .val (.int 1), .val (.int (t0_66 p0_2)), .unset, .unset, .unset, .unset, .unset] [(.int (p0_3 &&& (65535 : Int32)))])) (fun _ k => XS.iand X11.here hx rfl (hb hby at_71) rfl k) ?_
    refine own_s (g' := (mkF m 73 #[.val (.int p0_0), .val (.int p0_1), .val (.int p0_2), .val (.int p0_3), .val (.int (t0_6 p0_0)), .val (.int (t0_14 p0_1)), .val (.int 1), .val (.int 1), .val (.int (t0_66 p0_2)), .unset, .unset, .unset, .unset, .unset] [(.int (p0_3 &&& (65535 : Int32)).toUInt32.toUInt16.toUInt32.toInt32)])) (fun _ k => XS.i2c X11.here hx rfl (hb hby at_72) rfl k) ?_
    refine own_s (g' := (mkF m 75 #[.val (.int p0_0), .val (.int p0_1), .val (.int p0_2), .val (.int p0_3), .val (.int (t0_6 p0_0)), .val (.int (t0_14 p0_1)), .val (.int 1), .val (.int 1), .val (.int (t0_66 p0_2)), .val (.int (t0_73 p0_3)), .unset, .unset, .unset, .unset] [])) (fun _ k => XS.istore X11.here hx rfl (hb hby at_73) rfl (l' := #[.val (.int p0_0), .val (.int p0_1), .val (.int p0_2), .val (.int p0_3), .val (.int (t0_6 p0_0)), .val (.int (t0_14 p0_1)), .val (.int 1), .val (.int 1), .val (.int (t0_66 p0_2)), .val (.int (t0_73 p0_3)), .unset, .unset, .unset, .unset]) rfl k) ?_
    refine own_s (g' := (mkF m 77 #[.val (.int p0_0), .val (.int p0_1), .val (.int p0_2), .val (.int p0_3), .val (.int (t0_6 p0_0)), .val (.int (t0_14 p0_1)), .val (.int 1), .val (.int 1), .val (.int (t0_66 p0_2)), .val (.int (t0_73 p0_3)), .unset, .unset, .unset, .unset] [(.int (t0_66 p0_2))])) (fun _ k => XS.iload X11.here hx rfl (hb hby at_75) rfl k) ?_
    refine own_s (g' := (mkF m 79 #[.val (.int p0_0), .val (.int p0_1), .val (.int p0_2), .val (.int p0_3), .val (.int (t0_6 p0_0)), .val (.int (t0_14 p0_1)), .val (.int 1), .val (.int 1), .val (.int (t0_66 p0_2)), .val (.int (t0_73 p0_3)), .unset, .unset, .unset, .unset] [(.int (t0_73 p0_3)), (.int (t0_66 p0_2))])) (fun _ k => XS.iload X11.here hx rfl (hb hby at_77) rfl k) ?_
    obtain ⟨_, _, ⟨T12, L12, k12, n12⟩, -, X12, ⟨Lc12, hQ12, l12, y12, z12⟩, st12⟩ := Jvm.LawKit.callS X11 hx (y := (⟨"com/example/junctura/junctura/model/LinearScoring", "isMatch", "(CC)Z"⟩ : MethodName)) hown (mvT hZ ww5) (mvT hZ ww6) (mvT hZ ww7) (mvT hZ ww8) (by decide) (backOf (W := 0) (rm2 l Z a0 hw [] (t0_66 p0_2) (t0_73 p0_3) h0 n0 Z0 ) hZ ww8 ww7 (by decide) (by decide)) (g := (mkF m 79 #[.val (.int p0_0), .val (.int p0_1), .val (.int p0_2), .val (.int p0_3), .val (.int (t0_6 p0_0)), .val (.int (t0_14 p0_1)), .val (.int 1), .val (.int 1), .val (.int (t0_66 p0_2)), .val (.int (t0_73 p0_3)), .unset, .unset, .unset, .unset] [(.int (t0_73 p0_3)), (.int (t0_66 p0_2))])) rfl (by rw [hml]; rfl) (argsL := [(.int (t0_66 p0_2)), (.int (t0_73 p0_3))]) (rest := []) (lenOf pd__CC_Z rfl) rfl (by show 2 * 0 + _ ≤ _; exact Nat.le_of_eq rfl) (hb hby at_79) (fun _ _ => ⟨rfl, eh11, (by decide : 0 + 0 ≤ _), (by decide : 0 + 0 ≤ _)⟩)
    dsimp only [Pt.U, Pt.locs, Pt.cells, Pt.slots] at X12 l12 y12 z12 st12 hQ12
    subst l12 y12 z12
    obtain ⟨rfl, N12q, eh12⟩ := hQ12
    have N12 := Fr.app N11 N12q
    refine own_s (g' := (mkF m 82 #[.val (.int p0_0), .val (.int p0_1), .val (.int p0_2), .val (.int p0_3), .val (.int (t0_6 p0_0)), .val (.int (t0_14 p0_1)), .val (.int 1), .val (.int 1), .val (.int (t0_66 p0_2)), .val (.int (t0_73 p0_3)), .unset, .unset, .unset, .unset] [(.int (r2 (t0_66 p0_2) (t0_73 p0_3)))])) st12 ?_
    refine own_s (g' := (mkF m 84 #[.val (.int p0_0), .val (.int p0_1), .val (.int p0_2), .val (.int p0_3), .val (.int (t0_6 p0_0)), .val (.int (t0_14 p0_1)), .val (.int 1), .val (.int 1), .val (.int (t0_66 p0_2)), .val (.int (t0_73 p0_3)), .val (.int (r2 (t0_66 p0_2) (t0_73 p0_3))), .unset, .unset, .unset] [])) (fun _ k => XS.istore X12.here hx rfl (hb hby at_82) rfl (l' := #[.val (.int p0_0), .val (.int p0_1), .val (.int p0_2), .val (.int p0_3), .val (.int (t0_6 p0_0)), .val (.int (t0_14 p0_1)), .val (.int 1), .val (.int 1), .val (.int (t0_66 p0_2)), .val (.int (t0_73 p0_3)), .val (.int (r2 (t0_66 p0_2) (t0_73 p0_3))), .unset, .unset, .unset]) rfl k) ?_
    refine own_s (g' := (mkF m 86 #[.val (.int p0_0), .val (.int p0_1), .val (.int p0_2), .val (.int p0_3), .val (.int (t0_6 p0_0)), .val (.int (t0_14 p0_1)), .val (.int 1), .val (.int 1), .val (.int (t0_66 p0_2)), .val (.int (t0_73 p0_3)), .val (.int (r2 (t0_66 p0_2) (t0_73 p0_3))), .unset, .unset, .unset] [(.int (r2 (t0_66 p0_2) (t0_73 p0_3)))])) (fun _ k => XS.iload X12.here hx rfl (hb hby at_84) rfl k) ?_
    refine own_s (g' := (mkF m 88 #[.val (.int p0_0), .val (.int p0_1), .val (.int p0_2), .val (.int p0_3), .val (.int (t0_6 p0_0)), .val (.int (t0_14 p0_1)), .val (.int 1), .val (.int 1), .val (.int (t0_66 p0_2)), .val (.int (t0_73 p0_3)), .val (.int (r2 (t0_66 p0_2) (t0_73 p0_3))), .unset, .unset, .unset] [(.int (t0_73 p0_3)), (.int (r2 (t0_66 p0_2) (t0_73 p0_3)))])) (fun _ k => XS.iload X12.here hx rfl (hb hby at_86) rfl k) ?_
    refine own_s (g' := (mkF m 90 #[.val (.int p0_0), .val (.int p0_1), .val (.int p0_2), .val (.int p0_3), .val (.int (t0_6 p0_0)), .val (.int (t0_14 p0_1)), .val (.int 1), .val (.int 1), .val (.int (t0_66 p0_2)), .val (.int (t0_73 p0_3)), .val (.int (r2 (t0_66 p0_2) (t0_73 p0_3))), .unset, .unset, .unset] [(.int (t0_66 p0_2)), (.int (t0_73 p0_3)), (.int (r2 (t0_66 p0_2) (t0_73 p0_3)))])) (fun _ k => XS.iload X12.here hx rfl (hb hby at_88) rfl k) ?_
    obtain ⟨_, _, ⟨T13, L13, k13, n13⟩, -, X13, ⟨Lc13, hQ13, l13, y13, z13⟩, st13⟩ := Jvm.LawKit.callS X12 hx (y := (⟨"com/example/junctura/junctura/model/LinearScoring", "isMatch", "(CC)Z"⟩ : MethodName)) hown (mvT hZ ww5) (mvT hZ ww6) (mvT hZ ww7) (mvT hZ ww8) (by decide) (backOf (W := 1) (rm2 l Z a0 hw [] (t0_73 p0_3) (t0_66 p0_2) h0 n0 Z0 ) hZ ww8 ww7 (by decide) (by decide)) (g := (mkF m 90 #[.val (.int p0_0), .val (.int p0_1), .val (.int p0_2), .val (.int p0_3), .val (.int (t0_6 p0_0)), .val (.int (t0_14 p0_1)), .val (.int 1), .val (.int 1), .val (.int (t0_66 p0_2)), .val (.int (t0_73 p0_3)), .val (.int (r2 (t0_66 p0_2) (t0_73 p0_3))), .unset, .unset, .unset] [(.int (t0_66 p0_2)), (.int (t0_73 p0_3)), (.int (r2 (t0_66 p0_2) (t0_73 p0_3)))])) rfl (by rw [hml]; rfl) (argsL := [(.int (t0_73 p0_3)), (.int (t0_66 p0_2))]) (rest := [(.int (r2 (t0_66 p0_2) (t0_73 p0_3)))]) (lenOf pd__CC_Z rfl) rfl (by show 2 * 0 + _ ≤ _; exact Nat.le_of_eq rfl) (hb hby at_90) (fun _ _ => ⟨rfl, eh12, (by decide : 0 + 0 ≤ _), (by decide : 0 + 0 ≤ _)⟩)
    dsimp only [Pt.U, Pt.locs, Pt.cells, Pt.slots] at X13 l13 y13 z13 st13 hQ13
    subst l13 y13 z13
    obtain ⟨rfl, N13q, eh13⟩ := hQ13
    have N13 := Fr.app N12 N13q
    refine own_s (g' := (mkF m 93 #[.val (.int p0_0), .val (.int p0_1), .val (.int p0_2), .val (.int p0_3), .val (.int (t0_6 p0_0)), .val (.int (t0_14 p0_1)), .val (.int 1), .val (.int 1), .val (.int (t0_66 p0_2)), .val (.int (t0_73 p0_3)), .val (.int (r2 (t0_66 p0_2) (t0_73 p0_3))), .unset, .unset, .unset] [(.int (r2 (t0_73 p0_3) (t0_66 p0_2))), (.int (r2 (t0_66 p0_2) (t0_73 p0_3)))])) st13 ?_
    refine own_s (g' := (mkF m 96 #[.val (.int p0_0), .val (.int p0_1), .val (.int p0_2), .val (.int p0_3), .val (.int (t0_6 p0_0)), .val (.int (t0_14 p0_1)), .val (.int 1), .val (.int 1), .val (.int (t0_66 p0_2)), .val (.int (t0_73 p0_3)), .val (.int (r2 (t0_66 p0_2) (t0_73 p0_3))), .unset, .unset, .unset] [])) (fun _ k => XS.icmpNo X13.here hx rfl (hb hby at_93) rfl (teq ((own_sym _ _) : (r2 (t0_66 p0_2) (t0_73 p0_3)) = (r2 (t0_73 p0_3) (t0_66 p0_2)))).2 k) ?_
    refine own_s (g' := (mkF m 97 #[.val (.int p0_0), .val (.int p0_1), .val (.int p0_2), .val (.int p0_3), .val (.int (t0_6 p0_0)), .val (.int (t0_14 p0_1)), .val (.int 1), .val (.int 1), .val (.int (t0_66 p0_2)), .val (.int (t0_73 p0_3)), .val (.int (r2 (t0_66 p0_2) (t0_73 p0_3))), .unset, .unset, .unset] [(.int 1)])) (fun _ k => XS.iconst X13.here hx rfl (hb hby at_96) k) ?_
    refine own_s (g' := (mkF m 101 #[.val (.int p0_0), .val (.int p0_1), .val (.int p0_2), .val (.int p0_3), .val (.int (t0_6 p0_0)), .val (.int (t0_14 p0_1)), .val (.int 1), .val (.int 1), .val (.int (t0_66 p0_2)), .val (.int (t0_73 p0_3)), .val (.int (r2 (t0_66 p0_2) (t0_73 p0_3))), .unset, .unset, .unset] [(.int 1)])) (fun _ k => XS.goto X13.here hx rfl (pc0 := 97) (pc' := 101) rfl (hb hby at_97) (by decide) (by decide) k) ?_
    refine own_s (g' := (mkF m 103 #[.val (.int p0_0), .val (.int p0_1), .val (.int p0_2), .val (.int p0_3), .val (.int (t0_6 p0_0)), .val (.int (t0_14 p0_1)), .val (.int 1), .val (.int 1), .val (.int (t0_66 p0_2)), .val (.int (t0_73 p0_3)), .val (.int (r2 (t0_66 p0_2) (t0_73 p0_3))), .val (.int 1), .unset, .unset] [])) (fun _ k => XS.istore X13.here hx rfl (hb hby at_101) rfl (l' := #[.val (.int p0_0), .val (.int p0_1), .val (.int p0_2), .val (.int p0_3), .val (.int (t0_6 p0_0)), .val (.int (t0_14 p0_1)), .val (.int 1), .val (.int 1), .val (.int (t0_66 p0_2)), .val (.int (t0_73 p0_3)), .val (.int (r2 (t0_66 p0_2) (t0_73 p0_3))), .val (.int 1), .unset, .unset]) rfl k) ?_
    refine own_s (g' := (mkF m 105 #[.val (.int p0_0), .val (.int p0_1), .val (.int p0_2), .val (.int p0_3), .val (.int (t0_6 p0_0)), .val (.int (t0_14 p0_1)), .val (.int 1), .val (.int 1), .val (.int (t0_66 p0_2)), .val (.int (t0_73 p0_3)), .val (.int (r2 (t0_66 p0_2) (t0_73 p0_3))), .val (.int 1), .unset, .unset] [(.int (r2 (t0_66 p0_2) (t0_73 p0_3)))])) (fun _ k => XS.iload X13.here hx rfl (hb hby at_103) rfl k) ?_
    by_cases c14 : (r2 (t0_66 p0_2) (t0_73 p0_3)) = (0 : Int32)
    ·skip
     refine own_s (g' := (mkF m 115 #[.val (.int p0_0), .val (.int p0_1), .val (.int p0_2), .val (.int p0_3), .val (.int (t0_6 p0_0)), .val (.int (t0_14 p0_1)), .val (.int 1), .val (.int 1), .val (.int (t0_66 p0_2)), .val (.int (t0_73 p0_3)), .val (.int (r2 (t0_66 p0_2) (t0_73 p0_3))), .val (.int 1), .unset, .unset] [])) (fun _ k => XS.ifYes X13.here hx rfl (pc0 := 105) (pc' := 115) rfl (hb hby at_105) rfl ((if0 _ _).trans (teq c14).1) (by decide) (by decide) k) ?_
     refine own_s (g' := (mkF m 116 #[.val (.int p0_0), .val (.int p0_1), .val (.int p0_2), .val (.int p0_3), .val (.int (t0_6 p0_0)), .val (.int (t0_14 p0_1)), .val (.int 1), .val (.int 1), .val (.int (t0_66 p0_2)), .val (.int (t0_73 p0_3)), .val (.int (r2 (t0_66 p0_2) (t0_73 p0_3))), .val (.int 1), .unset, .unset] [(.int 1)])) (fun _ k => XS.iconst X13.here hx rfl (hb hby at_115) k) ?_
     refine own_s (g' := (mkF m 120 #[.val (.int p0_0), .val (.int p0_1), .val (.int p0_2), .val (.int p0_3), .val (.int (t0_6 p0_0)), .val (.int (t0_14 p0_1)), .val (.int 1), .val (.int 1), .val (.int (t0_66 p0_2)), .val (.int (t0_73 p0_3)), .val (.int (r2 (t0_66 p0_2) (t0_73 p0_3))), .val (.int 1), .unset, .unset] [(.int 1)])) (fun _ k => XS.goto X13.here hx rfl (pc0 := 116) (pc' := 120) rfl (hb hby at_116) (by decide) (by decide) k) ?_
     refine own_s (g' := (mkF m 122 #[.val (.int p0_0), .val (.int p0_1), .val (.int p0_2), .val (.int p0_3), .val (.int (t0_6 p0_0)), .val (.int (t0_14 p0_1)), .val (.int 1), .val (.int 1), .val (.int (t0_66 p0_2)), .val (.int (t0_73 p0_3)), .val (.int (r2 (t0_66 p0_2) (t0_73 p0_3))), .val (.int 1), .val (.int 1), .unset] [])) (fun _ k => XS.istore X13.here hx rfl (hb hby at_120) rfl (l' := #[.val (.int p0_0), .val (.int p0_1), .val (.int p0_2), .val (.int p0_3), .val (.int (t0_6 p0_0)), .val (.int (t0_14 p0_1)), .val (.int 1), .val (.int 1), .val (.int (t0_66 p0_2)), .val (.int (t0_73 p0_3)), .val (.int (r2 (t0_66 p0_2) (t0_73 p0_3))), .val (.int 1), .val (.int 1), .unset]) rfl k) ?_
     refine own_s (g' := (mkF m 124 #[.val (.int p0_0), .val (.int p0_1), .val (.int p0_2), .val (.int p0_3), .val (.int (t0_6 p0_0)), .val (.int (t0_14 p0_1)), .val (.int 1), .val (.int 1), .val (.int (t0_66 p0_2)), .val (.int (t0_73 p0_3)), .val (.int (r2 (t0_66 p0_2) (t0_73 p0_3))), .val (.int 1), .val (.int 1), .unset] [(.int (t0_66 p0_2))])) (fun _ k => XS.iload X13.here hx rfl (hb hby at_122) rfl k) ?_
     refine own_s (g' := (mkF m 126 #[.val (.int p0_0), .val (.int p0_1), .val (.int p0_2), .val (.int p0_3), .val (.int (t0_6 p0_0)), .val (.int (t0_14 p0_1)), .val (.int 1), .val (.int 1), .val (.int (t0_66 p0_2)), .val (.int (t0_73 p0_3)), .val (.int (r2 (t0_66 p0_2) (t0_73 p0_3))), .val (.int 1), .val (.int 1), .unset] [(.int 78), (.int (t0_66 p0_2))])) (fun _ k => XS.bipush X13.here hx rfl (hb hby at_124) k) ?_
     obtain ⟨_, _, ⟨T15, L15, k15, n15⟩, -, X15, ⟨Lc15, hQ15, l15, y15, z15⟩, st15⟩ := Jvm.LawKit.callS X13 hx (y := (⟨"com/example/junctura/junctura/model/LinearScoring", "isMatch", "(CC)Z"⟩ : MethodName)) hown (mvT hZ ww5) (mvT hZ ww6) (mvT hZ ww7) (mvT hZ ww8) (by decide) (backOf (W := 0) (rm2 l Z a0 hw [] (t0_66 p0_2) (78 : Int32) h0 n0 Z0 ) hZ ww8 ww7 (by decide) (by decide)) (g := (mkF m 126 #[.val (.int p0_0), .val (.int p0_1), .val (.int p0_2), .val (.int p0_3), .val (.int (t0_6 p0_0)), .val (.int (t0_14 p0_1)), .val (.int 1), .val (.int 1), .val (.int (t0_66 p0_2)), .val (.int (t0_73 p0_3)), .val (.int (r2 (t0_66 p0_2) (t0_73 p0_3))), .val (.int 1), .val (.int 1), .unset] [(.int 78), (.int (t0_66 p0_2))])) rfl (by rw [hml]; rfl) (argsL := [(.int (t0_66 p0_2)), (.int 78)]) (rest := []) (lenOf pd__CC_Z rfl) rfl (by show 2 * 0 + _ ≤ _; exact Nat.le_of_eq rfl) (hb hby at_126) (fun _ _ => ⟨rfl, eh13, (by decide : 0 + 0 ≤ _), (by decide : 0 + 0 ≤ _)⟩)
     dsimp only [Pt.U, Pt.locs, Pt.cells, Pt.slots] at X15 l15 y15 z15 st15 hQ15
     subst l15 y15 z15
     obtain ⟨rfl, N15q, eh15⟩ := hQ15
     have N15 := Fr.app N13 N15q
     refine own_s (g' := (mkF m 129 #[.val (.int p0_0), .val (.int p0_1), .val (.int p0_2), .val (.int p0_3), .val (.int (t0_6 p0_0)), .val (.int (t0_14 p0_1)), .val (.int 1), .val (.int 1), .val (.int (t0_66 p0_2)), .val (.int (t0_73 p0_3)), .val (.int (r2 (t0_66 p0_2) (t0_73 p0_3))), .val (.int 1), .val (.int 1), .unset] [(.int (r2 (t0_66 p0_2) (78 : Int32)))])) st15 ?_
     refine own_s (g' := (mkF m 132 #[.val (.int p0_0), .val (.int p0_1), .val (.int p0_2), .val (.int p0_3), .val (.int (t0_6 p0_0)), .val (.int (t0_14 p0_1)), .val (.int 1), .val (.int 1), .val (.int (t0_66 p0_2)), .val (.int (t0_73 p0_3)), .val (.int (r2 (t0_66 p0_2) (t0_73 p0_3))), .val (.int 1), .val (.int 1), .unset] [])) (fun _ k => XS.ifNo X15.here hx rfl (hb hby at_129) rfl ((if0 _ _).trans (teq ((own_n1 _) : (r2 (t0_66 p0_2) (78 : Int32)) = (0 : Int32))).2) k) ?_
     refine own_s (g' := (mkF m 134 #[.val (.int p0_0), .val (.int p0_1), .val (.int p0_2), .val (.int p0_3), .val (.int (t0_6 p0_0)), .val (.int (t0_14 p0_1)), .val (.int 1), .val (.int 1), .val (.int (t0_66 p0_2)), .val (.int (t0_73 p0_3)), .val (.int (r2 (t0_66 p0_2) (t0_73 p0_3))), .val (.int 1), .val (.int 1), .unset] [(.int 78)])) (fun _ k => XS.bipush X15.here hx rfl (hb hby at_132) k) ?_
     refine own_s (g' := (mkF m 136 #[.val (.int p0_0), .val (.int p0_1), .val (.int p0_2), .val (.int p0_3), .val (.int (t0_6 p0_0)), .val (.int (t0_14 p0_1)), .val (.int 1), .val (.int 1), .val (.int (t0_66 p0_2)), .val (.int (t0_73 p0_3)), .val (.int (r2 (t0_66 p0_2) (t0_73 p0_3))), .val (.int 1), .val (.int 1), .unset] [(.int (t0_66 p0_2)), (.int 78)])) (fun _ k => XS.iload X15.here hx rfl (hb hby at_134) rfl k) ?_
     obtain ⟨_, _, ⟨T16, L16, k16, n16⟩, -, X16, ⟨Lc16, hQ16, l16, y16, z16⟩, st16⟩ := Jvm.LawKit.callS X15 hx (y := (⟨"com/example/junctura/junctura/model/LinearScoring", "isMatch", "(CC)Z"⟩ : MethodName)) hown (mvT hZ ww5) (mvT hZ ww6) (mvT hZ ww7) (mvT hZ ww8) (by decide) (backOf (W := 0) (rm2 l Z a0 hw [] (78 : Int32) (t0_66 p0_2) h0 n0 Z0 ) hZ ww8 ww7 (by decide) (by decide)) (g := (mkF m 136 #[.val (.int p0_0), .val (.int p0_1), .val (.int p0_2), .val (.int p0_3), .val (.int (t0_6 p0_0)), .val (.int (t0_14 p0_1)), .val (.int 1), .val (.int 1), .val (.int (t0_66 p0_2)), .val (.int (t0_73 p0_3)), .val (.int (r2 (t0_66 p0_2) (t0_73 p0_3))), .val (.int 1), .val (.int 1), .unset] [(.int (t0_66 p0_2)), (.int 78)])) rfl (by rw [hml]; rfl) (argsL := [(.int 78), (.int (t0_66 p0_2))]) (rest := []) (lenOf pd__CC_Z rfl) rfl (by show 2 * 0 + _ ≤ _; exact Nat.le_of_eq rfl) (hb hby at_136) (fun _ _ => ⟨rfl, eh15, (by decide : 0 + 0 ≤ _), (by decide : 0 + 0 ≤ _)⟩)
     dsimp only [Pt.U, Pt.locs, Pt.cells, Pt.slots] at X16 l16 y16 z16 st16 hQ16
     subst l16 y16 z16
     obtain ⟨rfl, N16q, eh16⟩ := hQ16
     have N16 := Fr.app N15 N16q
     refine own_s (g' := (mkF m 139 #[.val (.int p0_0), .val (.int p0_1), .val (.int p0_2), .val (.int p0_3), .val (.int (t0_6 p0_0)), .val (.int (t0_14 p0_1)), .val (.int 1), .val (.int 1), .val (.int (t0_66 p0_2)), .val (.int (t0_73 p0_3)), .val (.int (r2 (t0_66 p0_2) (t0_73 p0_3))), .val (.int 1), .val (.int 1), .unset] [(.int (r2 (78 : Int32) (t0_66 p0_2)))])) st16 ?_
     refine own_s (g' := (mkF m 142 #[.val (.int p0_0), .val (.int p0_1), .val (.int p0_2), .val (.int p0_3), .val (.int (t0_6 p0_0)), .val (.int (t0_14 p0_1)), .val (.int 1), .val (.int 1), .val (.int (t0_66 p0_2)), .val (.int (t0_73 p0_3)), .val (.int (r2 (t0_66 p0_2) (t0_73 p0_3))), .val (.int 1), .val (.int 1), .unset] [])) (fun _ k => XS.ifNo X16.here hx rfl (hb hby at_139) rfl ((if0 _ _).trans (teq ((own_n2 _) : (r2 (78 : Int32) (t0_66 p0_2)) = (0 : Int32))).2) k) ?_
     refine own_s (g' := (mkF m 143 #[.val (.int p0_0), .val (.int p0_1), .val (.int p0_2), .val (.int p0_3), .val (.int (t0_6 p0_0)), .val (.int (t0_14 p0_1)), .val (.int 1), .val (.int 1), .val (.int (t0_66 p0_2)), .val (.int (t0_73 p0_3)), .val (.int (r2 (t0_66 p0_2) (t0_73 p0_3))), .val (.int 1), .val (.int 1), .unset] [(.int 1)])) (fun _ k => XS.iconst X16.here hx rfl (hb hby at_142) k) ?_
     refine own_s (g' := (mkF m 147 #[.val (.int p0_0), .val (.int p0_1), .val (.int p0_2), .val (.int p0_3), .val (.int (t0_6 p0_0)), .val (.int (t0_14 p0_1)), .val (.int 1), .val (.int 1), .val (.int (t0_66 p0_2)), .val (.int (t0_73 p0_3)), .val (.int (r2 (t0_66 p0_2) (t0_73 p0_3))), .val (.int 1), .val (.int 1), .unset] [(.int 1)])) (fun _ k => XS.goto X16.here hx rfl (pc0 := 143) (pc' := 147) rfl (hb hby at_143) (by decide) (by decide) k) ?_
     refine own_s (g' := (mkF m 149 #[.val (.int p0_0), .val (.int p0_1), .val (.int p0_2), .val (.int p0_3), .val (.int (t0_6 p0_0)), .val (.int (t0_14 p0_1)), .val (.int 1), .val (.int 1), .val (.int (t0_66 p0_2)), .val (.int (t0_73 p0_3)), .val (.int (r2 (t0_66 p0_2) (t0_73 p0_3))), .val (.int 1), .val (.int 1), .val (.int 1)] [])) (fun _ k => XS.istore X16.here hx rfl (hb hby at_147) rfl (l' := #[.val (.int p0_0), .val (.int p0_1), .val (.int p0_2), .val (.int p0_3), .val (.int (t0_6 p0_0)), .val (.int (t0_14 p0_1)), .val (.int 1), .val (.int 1), .val (.int (t0_66 p0_2)), .val (.int (t0_73 p0_3)), .val (.int (r2 (t0_66 p0_2) (t0_73 p0_3))), .val (.int 1), .val (.int 1), .val (.int 1)]) rfl k) ?_
     refine own_s (g' := (mkF m 151 #[.val (.int p0_0), .val (.int p0_1), .val (.int p0_2), .val (.int p0_3), .val (.int (t0_6 p0_0)), .val (.int (t0_14 p0_1)), .val (.int 1), .val (.int 1), .val (.int (t0_66 p0_2)), .val (.int (t0_73 p0_3)), .val (.int (r2 (t0_66 p0_2) (t0_73 p0_3))), .val (.int 1), .val (.int 1), .val (.int 1)] [(.int 1)])) (fun _ k => XS.iload X16.here hx rfl (hb hby at_149) rfl k) ?_
     refine own_s (g' := (mkF m 154 #[.val (.int p0_0), .val (.int p0_1), .val (.int p0_2), .val (.int p0_3), .val (.int (t0_6 p0_0)), .val (.int (t0_14 p0_1)), .val (.int 1), .val (.int 1), .val (.int (t0_66 p0_2)), .val (.int (t0_73 p0_3)), .val (.int (r2 (t0_66 p0_2) (t0_73 p0_3))), .val (.int 1), .val (.int 1), .val (.int 1)] [])) (fun _ k => XS.ifNo X16.here hx rfl (hb hby at_151) rfl ((if0 _ _).trans (feq ((by decide) : ¬ (1 : Int32) = (0 : Int32))).1) k) ?_
     refine own_s (g' := (mkF m 156 #[.val (.int p0_0), .val (.int p0_1), .val (.int p0_2), .val (.int p0_3), .val (.int (t0_6 p0_0)), .val (.int (t0_14 p0_1)), .val (.int 1), .val (.int 1), .val (.int (t0_66 p0_2)), .val (.int (t0_73 p0_3)), .val (.int (r2 (t0_66 p0_2) (t0_73 p0_3))), .val (.int 1), .val (.int 1), .val (.int 1)] [(.int 1)])) (fun _ k => XS.iload X16.here hx rfl (hb hby at_154) rfl k) ?_
     refine own_s (g' := (mkF m 159 #[.val (.int p0_0), .val (.int p0_1), .val (.int p0_2), .val (.int p0_3), .val (.int (t0_6 p0_0)), .val (.int (t0_14 p0_1)), .val (.int 1), .val (.int 1), .val (.int (t0_66 p0_2)), .val (.int (t0_73 p0_3)), .val (.int (r2 (t0_66 p0_2) (t0_73 p0_3))), .val (.int 1), .val (.int 1), .val (.int 1)] [])) (fun _ k => XS.ifNo X16.here hx rfl (hb hby at_156) rfl ((if0 _ _).trans (feq ((by decide) : ¬ (1 : Int32) = (0 : Int32))).1) k) ?_
     refine own_s (g' := (mkF m 161 #[.val (.int p0_0), .val (.int p0_1), .val (.int p0_2), .val (.int p0_3), .val (.int (t0_6 p0_0)), .val (.int (t0_14 p0_1)), .val (.int 1), .val (.int 1), .val (.int (t0_66 p0_2)), .val (.int (t0_73 p0_3)), .val (.int (r2 (t0_66 p0_2) (t0_73 p0_3))), .val (.int 1), .val (.int 1), .val (.int 1)] [(.int 1)])) (fun _ k => XS.iload X16.here hx rfl (hb hby at_159) rfl k) ?_
     refine own_s (g' := (mkF m 164 #[.val (.int p0_0), .val (.int p0_1), .val (.int p0_2), .val (.int p0_3), .val (.int (t0_6 p0_0)), .val (.int (t0_14 p0_1)), .val (.int 1), .val (.int 1), .val (.int (t0_66 p0_2)), .val (.int (t0_73 p0_3)), .val (.int (r2 (t0_66 p0_2) (t0_73 p0_3))), .val (.int 1), .val (.int 1), .val (.int 1)] [])) (fun _ k => XS.ifNo X16.here hx rfl (hb hby at_161) rfl ((if0 _ _).trans (feq ((by decide) : ¬ (1 : Int32) = (0 : Int32))).1) k) ?_
     refine own_s (g' := (mkF m 166 #[.val (.int p0_0), .val (.int p0_1), .val (.int p0_2), .val (.int p0_3), .val (.int (t0_6 p0_0)), .val (.int (t0_14 p0_1)), .val (.int 1), .val (.int 1), .val (.int (t0_66 p0_2)), .val (.int (t0_73 p0_3)), .val (.int (r2 (t0_66 p0_2) (t0_73 p0_3))), .val (.int 1), .val (.int 1), .val (.int 1)] [(.int 1)])) (fun _ k => XS.iload X16.here hx rfl (hb hby at_164) rfl k) ?_
     refine own_s (g' := (mkF m 169 #[.val (.int p0_0), .val (.int p0_1), .val (.int p0_2), .val (.int p0_3), .val (.int (t0_6 p0_0)), .val (.int (t0_14 p0_1)), .val (.int 1), .val (.int 1), .val (.int (t0_66 p0_2)), .val (.int (t0_73 p0_3)), .val (.int (r2 (t0_66 p0_2) (t0_73 p0_3))), .val (.int 1), .val (.int 1), .val (.int 1)] [])) (fun _ k => XS.ifNo X16.here hx rfl (hb hby at_166) rfl ((if0 _ _).trans (feq ((by decide) : ¬ (1 : Int32) = (0 : Int32))).1) k) ?_
     refine own_s (g' := (mkF m 170 #[.val (.int p0_0), .val (.int p0_1), .val (.int p0_2), .val (.int p0_3), .val (.int (t0_6 p0_0)), .val (.int (t0_14 p0_1)), .val (.int 1), .val (.int 1), .val (.int (t0_66 p0_2)), .val (.int (t0_73 p0_3)), .val (.int (r2 (t0_66 p0_2) (t0_73 p0_3))), .val (.int 1), .val (.int 1), .val (.int 1)] [(.int 1)])) (fun _ k => XS.iconst X16.here hx rfl (hb hby at_169) k) ?_
     refine own_s (g' := (mkF m 174 #[.val (.int p0_0), .val (.int p0_1), .val (.int p0_2), .val (.int p0_3), .val (.int (t0_6 p0_0)), .val (.int (t0_14 p0_1)), .val (.int 1), .val (.int 1), .val (.int (t0_66 p0_2)), .val (.int (t0_73 p0_3)), .val (.int (r2 (t0_66 p0_2) (t0_73 p0_3))), .val (.int 1), .val (.int 1), .val (.int 1)] [(.int 1)])) (fun _ k => XS.goto X16.here hx rfl (pc0 := 170) (pc' := 174) rfl (hb hby at_170) (by decide) (by decide) k) ?_
     refine own_retN X16 hx hlk (t := .boolean) hret (by simp) (hb hby at_174) (z' := (1 : Int32)) (by decide) (by decide) (by decide) ?_
     show Q0 Z p0_0 p0_1 p0_2 p0_3 h0 n0 _ T16.heap _
     rw [eh16]
     exact ⟨rfl, N16⟩
    ·skip
     refine own_s (g' := (mkF m 108 #[.val (.int p0_0), .val (.int p0_1), .val (.int p0_2), .val (.int p0_3), .val (.int (t0_6 p0_0)), .val (.int (t0_14 p0_1)), .val (.int 1), .val (.int 1), .val (.int (t0_66 p0_2)), .val (.int (t0_73 p0_3)), .val (.int (r2 (t0_66 p0_2) (t0_73 p0_3))), .val (.int 1), .unset, .unset] [])) (fun _ k => XS.ifNo X13.here hx rfl (hb hby at_105) rfl ((if0 _ _).trans (feq c14).1) k) ?_
     refine own_s (g' := (mkF m 110 #[.val (.int p0_0), .val (.int p0_1), .val (.int p0_2), .val (.int p0_3), .val (.int (t0_6 p0_0)), .val (.int (t0_14 p0_1)), .val (.int 1), .val (.int 1), .val (.int (t0_66 p0_2)), .val (.int (t0_73 p0_3)), .val (.int (r2 (t0_66 p0_2) (t0_73 p0_3))), .val (.int 1), .unset, .unset] [(.int (t0_66 p0_2))])) (fun _ k => XS.iload X13.here hx rfl (hb hby at_108) rfl k) ?_
     refine own_s (g' := (mkF m 112 #[.val (.int p0_0), .val (.int p0_1), .val (.int p0_2), .val (.int p0_3), .val (.int (t0_6 p0_0)), .val (.int (t0_14 p0_1)), .val (.int 1), .val (.int 1), .val (.int (t0_66 p0_2)), .val (.int (t0_73 p0_3)), .val (.int (r2 (t0_66 p0_2) (t0_73 p0_3))), .val (.int 1), .unset, .unset] [(.int (t0_73 p0_3)), (.int (t0_66 p0_2))])) (fun _ k => XS.iload X13.here hx rfl (hb hby at_110) rfl k) ?_
     refine own_s (g' := (mkF m 115 #[.val (.int p0_0), .val (.int p0_1), .val (.int p0_2), .val (.int p0_3), .val (.int (t0_6 p0_0)), .val (.int (t0_14 p0_1)), .val (.int 1), .val (.int 1), .val (.int (t0_66 p0_2)), .val (.int (t0_73 p0_3)), .val (.int (r2 (t0_66 p0_2) (t0_73 p0_3))), .val (.int 1), .unset, .unset] [])) (fun _ k => XS.icmpNo X13.here hx rfl (hb hby at_112) rfl (teq ((own_only _ _ c14) : (t0_66 p0_2) = (t0_73 p0_3))).2 k) ?_
     refine own_s (g' := (mkF m 116 #[.val (.int p0_0), .val (.int p0_1), .val (.int p0_2), .val (.int p0_3), .val (.int (t0_6 p0_0)), .val (.int (t0_14 p0_1)), .val (.int 1), .val (.int 1), .val (.int (t0_66 p0_2)), .val (.int (t0_73 p0_3)), .val (.int (r2 (t0_66 p0_2) (t0_73 p0_3))), .val (.int 1), .unset, .unset] [(.int 1)])) (fun _ k => XS.iconst X13.here hx rfl (hb hby at_115) k) ?_
     refine own_s (g' := (mkF m 120 #[.val (.int p0_0), .val (.int p0_1), .val (.int p0_2), .val (.int p0_3), .val (.int (t0_6 p0_0)), .val (.int (t0_14 p0_1)), .val (.int 1), .val (.int 1), .val (.int (t0_66 p0_2)), .val (.int (t0_73 p0_3)), .val (.int (r2 (t0_66 p0_2) (t0_73 p0_3))), .val (.int 1), .unset, .unset] [(.int 1)])) (fun _ k => XS.goto X13.here hx rfl (pc0 := 116) (pc' := 120) rfl (hb hby at_116) (by decide) (by decide) k) ?_
     refine own_s (g' := (mkF m 122 #[.val (.int p0_0), .val (.int p0_1), .val (.int p0_2), .val (.int p0_3), .val (.int (t0_6 p0_0)), .val (.int (t0_14 p0_1)), .val (.int 1), .val (.int 1), .val (.int (t0_66 p0_2)), .val (.int (t0_73 p0_3)), .val (.int (r2 (t0_66 p0_2) (t0_73 p0_3))), .val (.int 1), .val (.int 1), .unset] [])) (fun _ k => XS.istore X13.here hx rfl (hb hby at_120) rfl (l' := #[.val (.int p0_0), .val (.int p0_1), .val (.int p0_2), .val (.int p0_3), .val (.int (t0_6 p0_0)), .val (.int (t0_14 p0_1)), .val (.int 1), .val (.int 1), .val (.int (t0_66 p0_2)), .val (.int (t0_73 p0_3)), .val (.int (r2 (t0_66 p0_2) (t0_73 p0_3))), .val (.int 1), .val (.int 1), .unset]) rfl k) ?_
     refine own_s (g' := (mkF m 124 #[.val (.int p0_0), .val (.int p0_1), .val (.int p0_2), .val (.int p0_3), .val (.int (t0_6 p0_0)), .val (.int (t0_14 p0_1)), .val (.int 1), .val (.int 1), .val (.int (t0_66 p0_2)), .val (.int (t0_73 p0_3)), .val (.int (r2 (t0_66 p0_2) (t0_73 p0_3))), .val (.int 1), .val (.int 1), .unset] [(.int (t0_66 p0_2))])) (fun _ k => XS.iload X13.here hx rfl (hb hby at_122) rfl k) ?_
     refine own_s (g' := (mkF m 126 #[.val (.int p0_0), .val (.int p0_1), .val (.int p0_2), .val (.int p0_3), .val (.int (t0_6 p0_0)), .val (.int (t0_14 p0_1)), .val (.int 1), .val (.int 1), .val (.int (t0_66 p0_2)), .val (.int (t0_73 p0_3)), .val (.int (r2 (t0_66 p0_2) (t0_73 p0_3))), .val (.int 1), .val (.int 1), .unset] [(.int 78), (.int (t0_66 p0_2))])) (fun _ k => XS.bipush X13.here hx rfl (hb hby at_124) k) ?_
     obtain ⟨_, _, ⟨T17, L17, k17, n17⟩, -, X17, ⟨Lc17, hQ17, l17, y17, z17⟩, st17⟩ := Jvm.LawKit.callS X13 hx (y := (⟨"com/example/junctura/junctura/model/LinearScoring", "isMatch", "(CC)Z"⟩ : MethodName)) hown (mvT hZ ww5) (mvT hZ ww6) (mvT hZ ww7) (mvT hZ ww8) (by decide) (backOf (W := 0) (rm2 l Z a0 hw [] (t0_66 p0_2) (78 : Int32) h0 n0 Z0 ) hZ ww8 ww7 (by decide) (by decide)) (g := (mkF m 126 #[.val (.int p0_0), .val (.int p0_1), .val (.int p0_2), .val (.int p0_3), .val (.int (t0_6 p0_0)), .val (.int (t0_14 p0_1)), .val (.int 1), .val (.int 1), .val (.int (t0_66 p0_2)), .val (.int (t0_73 p0_3)), .val (.int (r2 (t0_66 p0_2) (t0_73 p0_3))), .val (.int 1), .val (.int 1), .unset] [(.int 78), (.int (t0_66 p0_2))])) rfl (by rw [hml]; rfl) (argsL := [(.int (t0_66 p0_2)), (.int 78)]) (rest := []) (lenOf pd__CC_Z rfl) rfl (by show 2 * 0 + _ ≤ _; exact Nat.le_of_eq rfl) (hb hby at_126) (fun _ _ => ⟨rfl, eh13, (by decide : 0 + 0 ≤ _), (by decide : 0 + 0 ≤ _)⟩)
     dsimp only [Pt.U, Pt.locs, Pt.cells, Pt.slots] at X17 l17 y17 z17 st17 hQ17
     subst l17 y17 z17
     obtain ⟨rfl, N17q, eh17⟩ := hQ17
     have N17 := Fr.app N13 N17q
     refine own_s (g' := (mkF m 129 #[.val (.int p0_0), .val (.int p0_1), .val (.int p0_2), .val (.int p0_3), .val (.int (t0_6 p0_0)), .val (.int (t0_14 p0_1)), .val (.int 1), .val (.int 1), .val (.int (t0_66 p0_2)), .val (.int (t0_73 p0_3)), .val (.int (r2 (t0_66 p0_2) (t0_73 p0_3))), .val (.int 1), .val (.int 1), .unset] [(.int (r2 (t0_66 p0_2) (78 : Int32)))])) st17 ?_
     refine own_s (g' := (mkF m 132 #[.val (.int p0_0), .val (.int p0_1), .val (.int p0_2), .val (.int p0_3), .val (.int (t0_6 p0_0)), .val (.int (t0_14 p0_1)), .val (.int 1), .val (.int 1), .val (.int (t0_66 p0_2)), .val (.int (t0_73 p0_3)), .val (.int (r2 (t0_66 p0_2) (t0_73 p0_3))), .val (.int 1), .val (.int 1), .unset] [])) (fun _ k => XS.ifNo X17.here hx rfl (hb hby at_129) rfl ((if0 _ _).trans (teq ((own_n1 _) : (r2 (t0_66 p0_2) (78 : Int32)) = (0 : Int32))).2) k) ?_
     refine own_s (g' := (mkF m 134 #[.val (.int p0_0), .val (.int p0_1), .val (.int p0_2), .val (.int p0_3), .val (.int (t0_6 p0_0)), .val (.int (t0_14 p0_1)), .val (.int 1), .val (.int 1), .val (.int (t0_66 p0_2)), .val (.int (t0_73 p0_3)), .val (.int (r2 (t0_66 p0_2) (t0_73 p0_3))), .val (.int 1), .val (.int 1), .unset] [(.int 78)])) (fun _ k => XS.bipush X17.here hx rfl (hb hby at_132) k) ?_
     refine own_s (g' := (mkF m 136 #[.val (.int p0_0), .val (.int p0_1), .val (.int p0_2), .val (.int p0_3), .val (.int (t0_6 p0_0)), .val (.int (t0_14 p0_1)), .val (.int 1), .val (.int 1), .val (.int (t0_66 p0_2)), .val (.int (t0_73 p0_3)), .val (.int (r2 (t0_66 p0_2) (t0_73 p0_3))), .val (.int 1), .val (.int 1), .unset] [(.int (t0_66 p0_2)), (.int 78)])) (fun _ k => XS.iload X17.here hx rfl (hb hby at_134) rfl k) ?_
     obtain ⟨_, _, ⟨T18, L18, k18, n18⟩, -, X18, ⟨Lc18, hQ18, l18, y18, z18⟩, st18⟩ := Jvm.LawKit.callS X17 hx (y := (⟨"com/example/junctura/junctura/model/LinearScoring", "isMatch", "(CC)Z"⟩ : MethodName)) hown (mvT hZ ww5) (mvT hZ ww6) (mvT hZ ww7) (mvT hZ ww8) (by decide) (backOf (W := 0) (rm2 l Z a0 hw [] (78 : Int32) (t0_66 p0_2) h0 n0 Z0 ) hZ ww8 ww7 (by decide) (by decide)) (g := (mkF m 136 #[.val (.int p0_0), .val (.int p0_1), .val (.int p0_2), .val (.int p0_3), .val (.int (t0_6 p0_0)), .val (.int (t0_14 p0_1)), .val (.int 1), .val (.int 1), .val (.int (t0_66 p0_2)), .val (.int (t0_73 p0_3)), .val (.int (r2 (t0_66 p0_2) (t0_73 p0_3))), .val (.int 1), .val (.int 1), .unset] [(.int (t0_66 p0_2)), (.int 78)])) rfl (by rw [hml]; rfl) (argsL := [(.int 78), (.int (t0_66 p0_2))]) (rest := []) (lenOf pd__CC_Z rfl) rfl (by show 2 * 0 + _ ≤ _; exact Nat.le_of_eq rfl) (hb hby at_136) (fun _ _ => ⟨rfl, eh17, (by decide : 0 + 0 ≤ _), (by decide : 0 + 0 ≤ _)⟩)
     dsimp only [Pt.U, Pt.locs, Pt.cells, Pt.slots] at X18 l18 y18 z18 st18 hQ18
     subst l18 y18 z18
     obtain ⟨rfl, N18q, eh18⟩ := hQ18
     have N18 := Fr.app N17 N18q
     refine own_s (g' := (mkF m 139 #[.val (.int p0_0), .val (.int p0_1), .val (.int p0_2), .val (.int p0_3), .val (.int (t0_6 p0_0)), .val (.int (t0_14 p0_1)), .val (.int 1), .val (.int 1), .val (.int (t0_66 p0_2)), .val (.int (t0_73 p0_3)), .val (.int (r2 (t0_66 p0_2) (t0_73 p0_3))), .val (.int 1), .val (.int 1), .unset] [(.int (r2 (78 : Int32) (t0_66 p0_2)))])) st18 ?_
     refine own_s (g' := (mkF m 142 #[.val (.int p0_0), .val (.int p0_1), .val (.int p0_2), .val (.int p0_3), .val (.int (t0_6 p0_0)), .val (.int (t0_14 p0_1)), .val (.int 1), .val (.int 1), .val (.int (t0_66 p0_2)), .val (.int (t0_73 p0_3)), .val (.int (r2 (t0_66 p0_2) (t0_73 p0_3))), .val (.int 1), .val (.int 1), .unset] [])) (fun _ k => XS.ifNo X18.here hx rfl (hb hby at_139) rfl ((if0 _ _).trans (teq ((own_n2 _) : (r2 (78 : Int32) (t0_66 p0_2)) = (0 : Int32))).2) k) ?_
     refine own_s (g' := (mkF m 143 #[.val (.int p0_0), .val (.int p0_1), .val (.int p0_2), .val (.int p0_3), .val (.int (t0_6 p0_0)), .val (.int (t0_14 p0_1)), .val (.int 1), .val (.int 1), .val (.int (t0_66 p0_2)), .val (.int (t0_73 p0_3)), .val (.int (r2 (t0_66 p0_2) (t0_73 p0_3))), .val (.int 1), .val (.int 1), .unset] [(.int 1)])) (fun _ k => XS.iconst X18.here hx rfl (hb hby at_142) k) ?_
     refine own_s (g' := (mkF m 147 #[.val (.int p0_0), .val (.int p0_1), .val (.int p0_2), .val (.int p0_3), .val (.int (t0_6 p0_0)), .val (.int (t0_14 p0_1)), .val (.int 1), .val (.int 1), .val (.int (t0_66 p0_2)), .val (.int (t0_73 p0_3)), .val (.int (r2 (t0_66 p0_2) (t0_73 p0_3))), .val (.int 1), .val (.int 1), .unset] [(.int 1)])) (fun _ k => XS.goto X18.here hx rfl (pc0 := 143) (pc' := 147) rfl (hb hby at_143) (by decide) (by decide) k) ?_
     refine own_s (g' := (mkF m 149 #[.val (.int p0_0), .val (.int p0_1), .val (.int p0_2), .val (.int p0_3), .val (.int (t0_6 p0_0)), .val (.int (t0_14 p0_1)), .val (.int 1), .val (.int 1), .val (.int (t0_66 p0_2)), .val (.int (t0_73 p0_3)), .val (.int (r2 (t0_66 p0_2) (t0_73 p0_3))), .val (.int 1), .val (.int 1), .val (.int 1)] [])) (fun _ k => XS.istore X18.here hx rfl (hb hby at_147) rfl (l' := #[.val (.int p0_0), .val (.int p0_1), .val (.int p0_2), .val (.int p0_3), .val (.int (t0_6 p0_0)), .val (.int (t0_14 p0_1)), .val (.int 1), .val (.int 1), .val (.int (t0_66 p0_2)), .val (.int (t0_73 p0_3)), .val (.int (r2 (t0_66 p0_2) (t0_73 p0_3))), .val (.int 1), .val (.int 1), .val (.int 1)]) rfl k) ?_
     refine own_s (g' := (mkF m 151 #[.val (.int p0_0), .val (.int p0_1), .val (.int p0_2), .val (.int p0_3), .val (.int (t0_6 p0_0)), .val (.int (t0_14 p0_1)), .val (.int 1), .val (.int 1), .val (.int (t0_66 p0_2)), .val (.int (t0_73 p0_3)), .val (.int (r2 (t0_66 p0_2) (t0_73 p0_3))), .val (.int 1), .val (.int 1), .val (.int 1)] [(.int 1)])) (fun _ k => XS.iload X18.here hx rfl (hb hby at_149) rfl k) ?_
     refine own_s (g' := (mkF m 154 #[.val (.int p0_0), .val (.int p0_1), .val (.int p0_2), .val (.int p0_3), .val (.int (t0_6 p0_0)), .val (.int (t0_14 p0_1)), .val (.int 1), .val (.int 1), .val (.int (t0_66 p0_2)), .val (.int (t0_73 p0_3)), .val (.int (r2 (t0_66 p0_2) (t0_73 p0_3))), .val (.int 1), .val (.int 1), .val (.int 1)] [])) (fun _ k => XS.ifNo X18.here hx rfl (hb hby at_151) rfl ((if0 _ _).trans (feq ((by decide) : ¬ (1 : Int32) = (0 : Int32))).1) k) ?_
     refine own_s (g' := (mkF m 156 #[.val (.int p0_0), .val (.int p0_1), .val (.int p0_2), .val (.int p0_3), .val (.int (t0_6 p0_0)), .val (.int (t0_14 p0_1)), .val (.int 1), .val (.int 1), .val (.int (t0_66 p0_2)), .val (.int (t0_73 p0_3)), .val (.int (r2 (t0_66 p0_2) (t0_73 p0_3))), .val (.int 1), .val (.int 1), .val (.int 1)] [(.int 1)])) (fun _ k => XS.iload X18.here hx rfl (hb hby at_154) rfl k) ?_
     refine own_s (g' := (mkF m 159 #[.val (.int p0_0), .val (.int p0_1), .val (.int p0_2), .val (.int p0_3), .val (.int (t0_6 p0_0)), .val (.int (t0_14 p0_1)), .val (.int 1), .val (.int 1), .val (.int (t0_66 p0_2)), .val (.int (t0_73 p0_3)), .val (.int (r2 (t0_66 p0_2) (t0_73 p0_3))), .val (.int 1), .val (.int 1), .val (.int 1)] [])) (fun _ k => XS.ifNo X18.here hx rfl (hb hby at_156) rfl ((if0 _ _).trans (feq ((by decide) : ¬ (1 : Int32) = (0 : Int32))).1) k) ?_
     refine own_s (g' := (mkF m 161 #[.val (.int p0_0), .val (.int p0_1), .val (.int p0_2), .val (.int p0_3), .val (.int (t0_6 p0_0)), .val (.int (t0_14 p0_1)), .val (.int 1), .val (.int 1), .val (.int (t0_66 p0_2)), .val (.int (t0_73 p0_3)), .val (.int (r2 (t0_66 p0_2) (t0_73 p0_3))), .val (.int 1), .val (.int 1), .val (.int 1)] [(.int 1)])) (fun _ k => XS.iload X18.here hx rfl (hb hby at_159) rfl k) ?_
     refine own_s (g' := (mkF m 164 #[.val (.int p0_0), .val (.int p0_1), .val (.int p0_2), .val (.int p0_3), .val (.int (t0_6 p0_0)), .val (.int (t0_14 p0_1)), .val (.int 1), .val (.int 1), .val (.int (t0_66 p0_2)), .val (.int (t0_73 p0_3)), .val (.int (r2 (t0_66 p0_2) (t0_73 p0_3))), .val (.int 1), .val (.int 1), .val (.int 1)] [])) (fun _ k => XS.ifNo X18.here hx rfl (hb hby at_161) rfl ((if0 _ _).trans (feq ((by decide) : ¬ (1 : Int32) = (0 : Int32))).1) k) ?_
     refine own_s (g' := (mkF m 166 #[.val (.int p0_0), .val (.int p0_1), .val (.int p0_2), .val (.int p0_3), .val (.int (t0_6 p0_0)), .val (.int (t0_14 p0_1)), .val (.int 1), .val (.int 1), .val (.int (t0_66 p0_2)), .val (.int (t0_73 p0_3)), .val (.int (r2 (t0_66 p0_2) (t0_73 p0_3))), .val (.int 1), .val (.int 1), .val (.int 1)] [(.int 1)])) (fun _ k => XS.iload X18.here hx rfl (hb hby at_164) rfl k) ?_
     refine own_s (g' := (mkF m 169 #[.val (.int p0_0), .val (.int p0_1), .val (.int p0_2), .val (.int p0_3), .val (.int (t0_6 p0_0)), .val (.int (t0_14 p0_1)), .val (.int 1), .val (.int 1), .val (.int (t0_66 p0_2)), .val (.int (t0_73 p0_3)), .val (.int (r2 (t0_66 p0_2) (t0_73 p0_3))), .val (.int 1), .val (.int 1), .val (.int 1)] [])) (fun _ k => XS.ifNo X18.here hx rfl (hb hby at_166) rfl ((if0 _ _).trans (feq ((by decide) : ¬ (1 : Int32) = (0 : Int32))).1) k) ?_
     refine own_s (g' := (mkF m 170 #[.val (.int p0_0), .val (.int p0_1), .val (.int p0_2), .val (.int p0_3), .val (.int (t0_6 p0_0)), .val (.int (t0_14 p0_1)), .val (.int 1), .val (.int 1), .val (.int (t0_66 p0_2)), .val (.int (t0_73 p0_3)), .val (.int (r2 (t0_66 p0_2) (t0_73 p0_3))), .val (.int 1), .val (.int 1), .val (.int 1)] [(.int 1)])) (fun _ k => XS.iconst X18.here hx rfl (hb hby at_169) k) ?_
     refine own_s (g' := (mkF m 174 #[.val (.int p0_0), .val (.int p0_1), .val (.int p0_2), .val (.int p0_3), .val (.int (t0_6 p0_0)), .val (.int (t0_14 p0_1)), .val (.int 1), .val (.int 1), .val (.int (t0_66 p0_2)), .val (.int (t0_73 p0_3)), .val (.int (r2 (t0_66 p0_2) (t0_73 p0_3))), .val (.int 1), .val (.int 1), .val (.int 1)] [(.int 1)])) (fun _ k => XS.goto X18.here hx rfl (pc0 := 170) (pc' := 174) rfl (hb hby at_170) (by decide) (by decide) k) ?_
     refine own_retN X18 hx hlk (t := .boolean) hret (by simp) (hb hby at_174) (z' := (1 : Int32)) (by decide) (by decide) (by decide) ?_
     show Q0 Z p0_0 p0_1 p0_2 p0_3 h0 n0 _ T18.heap _
     rw [eh18]
     exact ⟨rfl, N18⟩
   ·skip
    refine own_s (g' := (mkF m 33 #[.val (.int p0_0), .val (.int p0_1), .val (.int p0_2), .val (.int p0_3), .val (.int (t0_6 p0_0)), .val (.int (t0_14 p0_1)), .unset, .unset, .unset, .unset, .unset, .unset, .unset, .unset] [])) (fun _ k => XS.icmpYes X0.here hx rfl (pc0 := 26) (pc' := 33) rfl (hb hby at_26) rfl (flt c8).2.1 (by decide) (by decide) k) ?_
    refine own_s (g' := (mkF m 34 #[.val (.int p0_0), .val (.int p0_1), .val (.int p0_2), .val (.int p0_3), .val (.int (t0_6 p0_0)), .val (.int (t0_14 p0_1)), .unset, .unset, .unset, .unset, .unset, .unset, .unset, .unset] [(.int 0)])) (fun _ k => XS.iconst X0.here hx rfl (hb hby at_33) k) ?_
    refine own_s (g' := (mkF m 36 #[.val (.int p0_0), .val (.int p0_1), .val (.int p0_2), .val (.int p0_3), .val (.int (t0_6 p0_0)), .val (.int (t0_14 p0_1)), .val (.int 0), .unset, .unset, .unset, .unset, .unset, .unset, .unset] [])) (fun _ k => XS.istore X0.here hx rfl (hb hby at_34) rfl (l' := #[.val (.int p0_0), .val (.int p0_1), .val (.int p0_2), .val (.int p0_3), .val (.int (t0_6 p0_0)), .val (.int (t0_14 p0_1)), .val (.int 0), .unset, .unset, .unset, .unset, .unset, .unset, .unset]) rfl k) ?_
    refine own_s (g' := (mkF m 38 #[.val (.int p0_0), .val (.int p0_1), .val (.int p0_2), .val (.int p0_3), .val (.int (t0_6 p0_0)), .val (.int (t0_14 p0_1)), .val (.int 0), .unset, .unset, .unset, .unset, .unset, .unset, .unset] [(.int (t0_6 p0_0))])) (fun _ k => XS.iload X0.here hx rfl (hb hby at_36) rfl k) ?_
    obtain ⟨_, _, ⟨T19, L19, k19, n19⟩, -, X19, ⟨Lc19, hQ19, l19, y19, z19⟩, st19⟩ := Jvm.LawKit.callS X0 hx (y := (⟨"com/example/junctura/junctura/model/LinearScoringIsMatchPinLaw", "base", "(I)C"⟩ : MethodName)) hown (mvT hZ ww1) (mvT hZ ww2) (mvT hZ ww3) (mvT hZ ww4) (by decide) (backOf (W := 0) (rm1 l Z a0 hw [] (t0_6 p0_0) h0 n0 Z0 ) hZ ww4 ww3 (by decide) (by decide)) (g := (mkF m 38 #[.val (.int p0_0), .val (.int p0_1), .val (.int p0_2), .val (.int p0_3), .val (.int (t0_6 p0_0)), .val (.int (t0_14 p0_1)), .val (.int 0), .unset, .unset, .unset, .unset, .unset, .unset, .unset] [(.int (t0_6 p0_0))])) rfl (by rw [hml]; rfl) (argsL := [(.int (t0_6 p0_0))]) (rest := []) (lenOf pd__I_C rfl) rfl (by show 2 * 0 + _ ≤ _; exact Nat.le_of_eq rfl) (hb hby at_38) (fun _ _ => ⟨rfl, e0, (by decide : 0 + 0 ≤ _), (by decide : 0 + 0 ≤ _)⟩)
    dsimp only [Pt.U, Pt.locs, Pt.cells, Pt.slots] at X19 l19 y19 z19 st19 hQ19
    subst l19 y19 z19
    obtain ⟨rfl, N19q, eh19⟩ := hQ19
    have N19 := Fr.app N0 N19q
    refine own_s (g' := (mkF m 41 #[.val (.int p0_0), .val (.int p0_1), .val (.int p0_2), .val (.int p0_3), .val (.int (t0_6 p0_0)), .val (.int (t0_14 p0_1)), .val (.int 0), .unset, .unset, .unset, .unset, .unset, .unset, .unset] [(.int (r1 (t0_6 p0_0)))])) st19 ?_
    refine own_s (g' := (mkF m 43 #[.val (.int p0_0), .val (.int p0_1), .val (.int p0_2), .val (.int p0_3), .val (.int (t0_6 p0_0)), .val (.int (t0_14 p0_1)), .val (.int 0), .unset, .unset, .unset, .unset, .unset, .unset, .unset] [(.int (t0_14 p0_1)), (.int (r1 (t0_6 p0_0)))])) (fun _ k => XS.iload X19.here hx rfl (hb hby at_41) rfl k) ?_
    obtain ⟨_, _, ⟨T20, L20, k20, n20⟩, -, X20, ⟨Lc20, hQ20, l20, y20, z20⟩, st20⟩ := Jvm.LawKit.callS X19 hx (y := (⟨"com/example/junctura/junctura/model/LinearScoringIsMatchPinLaw", "base", "(I)C"⟩ : MethodName)) hown (mvT hZ ww1) (mvT hZ ww2) (mvT hZ ww3) (mvT hZ ww4) (by decide) (backOf (W := 1) (rm1 l Z a0 hw [] (t0_14 p0_1) h0 n0 Z0 ) hZ ww4 ww3 (by decide) (by decide)) (g := (mkF m 43 #[.val (.int p0_0), .val (.int p0_1), .val (.int p0_2), .val (.int p0_3), .val (.int (t0_6 p0_0)), .val (.int (t0_14 p0_1)), .val (.int 0), .unset, .unset, .unset, .unset, .unset, .unset, .unset] [(.int (t0_14 p0_1)), (.int (r1 (t0_6 p0_0)))])) rfl (by rw [hml]; rfl) (argsL := [(.int (t0_14 p0_1))]) (rest := [(.int (r1 (t0_6 p0_0)))]) (lenOf pd__I_C rfl) rfl (by show 2 * 0 + _ ≤ _; exact Nat.le_of_eq rfl) (hb hby at_43) (fun _ _ => ⟨rfl, eh19, (by decide : 0 + 0 ≤ _), (by decide : 0 + 0 ≤ _)⟩)
    dsimp only [Pt.U, Pt.locs, Pt.cells, Pt.slots] at X20 l20 y20 z20 st20 hQ20
    subst l20 y20 z20
    obtain ⟨rfl, N20q, eh20⟩ := hQ20
    have N20 := Fr.app N19 N20q
    refine own_s (g' := (mkF m 46 #[.val (.int p0_0), .val (.int p0_1), .val (.int p0_2), .val (.int p0_3), .val (.int (t0_6 p0_0)), .val (.int (t0_14 p0_1)), .val (.int 0), .unset, .unset, .unset, .unset, .unset, .unset, .unset] [(.int (r1 (t0_14 p0_1))), (.int (r1 (t0_6 p0_0)))])) st20 ?_
    obtain ⟨_, _, ⟨T21, L21, k21, n21⟩, -, X21, ⟨Lc21, hQ21, l21, y21, z21⟩, st21⟩ := Jvm.LawKit.callS X20 hx (y := (⟨"com/example/junctura/junctura/model/LinearScoring", "isMatch", "(CC)Z"⟩ : MethodName)) hown (mvT hZ ww5) (mvT hZ ww6) (mvT hZ ww7) (mvT hZ ww8) (by decide) (backOf (W := 0) (rm2 l Z a0 hw [] (r1 (t0_6 p0_0)) (r1 (t0_14 p0_1)) h0 n0 Z0 ) hZ ww8 ww7 (by decide) (by decide)) (g := (mkF m 46 #[.val (.int p0_0), .val (.int p0_1), .val (.int p0_2), .val (.int p0_3), .val (.int (t0_6 p0_0)), .val (.int (t0_14 p0_1)), .val (.int 0), .unset, .unset, .unset, .unset, .unset, .unset, .unset] [(.int (r1 (t0_14 p0_1))), (.int (r1 (t0_6 p0_0)))])) rfl (by rw [hml]; rfl) (argsL := [(.int (r1 (t0_6 p0_0))), (.int (r1 (t0_14 p0_1)))]) (rest := []) (lenOf pd__CC_Z rfl) rfl (by show 2 * 0 + _ ≤ _; exact Nat.le_of_eq rfl) (hb hby at_46) (fun _ _ => ⟨rfl, eh20, (by decide : 0 + 0 ≤ _), (by decide : 0 + 0 ≤ _)⟩)
    dsimp only [Pt.U, Pt.locs, Pt.cells, Pt.slots] at X21 l21 y21 z21 st21 hQ21
    subst l21 y21 z21
    obtain ⟨rfl, N21q, eh21⟩ := hQ21
    have N21 := Fr.app N20 N21q
    refine own_s (g' := (mkF m 49 #[.val (.int p0_0), .val (.int p0_1), .val (.int p0_2), .val (.int p0_3), .val (.int (t0_6 p0_0)), .val (.int (t0_14 p0_1)), .val (.int 0), .unset, .unset, .unset, .unset, .unset, .unset, .unset] [(.int (r2 (r1 (t0_6 p0_0)) (r1 (t0_14 p0_1))))])) st21 ?_
    refine own_s (g' := (mkF m 51 #[.val (.int p0_0), .val (.int p0_1), .val (.int p0_2), .val (.int p0_3), .val (.int (t0_6 p0_0)), .val (.int (t0_14 p0_1)), .val (.int 0), .unset, .unset, .unset, .unset, .unset, .unset, .unset] [(.int 0), (.int (r2 (r1 (t0_6 p0_0)) (r1 (t0_14 p0_1))))])) (fun _ k => XS.iload X21.here hx rfl (hb hby at_49) rfl k) ?_
    refine own_s (g' := (mkF m 54 #[.val (.int p0_0), .val (.int p0_1), .val (.int p0_2), .val (.int p0_3), .val (.int (t0_6 p0_0)), .val (.int (t0_14 p0_1)), .val (.int 0), .unset, .unset, .unset, .unset, .unset, .unset, .unset] [])) (fun _ k => XS.icmpNo X21.here hx rfl (hb hby at_51) rfl (teq (((own_ex _ _ (own_p5 p0_0) (own_p5 p0_1)).trans ((if_pos c7).trans (if_neg c8))) : (r2 (r1 (t0_6 p0_0)) (r1 (t0_14 p0_1))) = (0 : Int32))).2 k) ?_
    refine own_s (g' := (mkF m 55 #[.val (.int p0_0), .val (.int p0_1), .val (.int p0_2), .val (.int p0_3), .val (.int (t0_6 p0_0)), .val (.int (t0_14 p0_1)), .val (.int 0), .unset, .unset, .unset, .unset, .unset, .unset, .unset] [(.int 1)])) (fun _ k => XS.iconst X21.here hx rfl (hb hby at_54) k) ?_
    refine own_s (g' := (mkF m 59 #[.val (.int p0_0), .val (.int p0_1), .val (.int p0_2), .val (.int p0_3), .val (.int (t0_6 p0_0)), .val (.int (t0_14 p0_1)), .val (.int 0), .unset, .unset, .unset, .unset, .unset, .unset, .unset] [(.int 1)])) (fun _ k => XS.goto X21.here hx rfl (pc0 := 55) (pc' := 59) rfl (hb hby at_55) (by decide) (by decide) k) ?_
    refine own_s (g' := (mkF m 61 #[.val (.int p0_0), .val (.int p0_1), .val (.int p0_2), .val (.int p0_3), .val (.int (t0_6 p0_0)), .val (.int (t0_14 p0_1)), .val (.int 0), .val (.int 1), .unset, .unset, .unset, .unset, .unset, .unset] [])) (fun _ k => XS.istore X21.here hx rfl (hb hby at_59) rfl (l' := #[.val (.int p0_0), .val (.int p0_1), .val (.int p0_2), .val (.int p0_3), .val (.int (t0_6 p0_0)), .val (.int (t0_14 p0_1)), .val (.int 0), .val (.int 1), .unset, .unset, .unset, .unset, .unset, .unset]) rfl k) ?_
    refine own_s (g' := (mkF m 62 #[.val (.int p0_0), .val (.int p0_1), .val (.int p0_2), .val (.int p0_3), .val (.int (t0_6 p0_0)), .val (.int (t0_14 p0_1)), .val (.int 0), .val (.int 1), .unset, .unset, .unset, .unset, .unset, .unset] [(.int p0_2)])) (fun _ k => XS.iloadN X21.here hx rfl (hb hby at_61) rfl k) ?_
    refine own_s (g' := (mkF m 64 #[.val (.int p0_0), .val (.int p0_1), .val (.int p0_2), .val (.int p0_3), .val (.int (t0_6 p0_0)), .val (.int (t0_14 p0_1)), .val (.int 0), .val (.int 1), .unset, .unset, .unset, .unset, .unset, .unset] [(.int 65535), (.int p0_2)])) (X21.ldcInt hx hown (mvT hZ ww9) (g := (mkF m 62 #[.val (.int p0_0), .val (.int p0_1), .val (.int p0_2), .val (.int p0_3), .val (.int (t0_6 p0_0)), .val (.int (t0_14 p0_1)), .val (.int 0), .val (.int 1), .unset, .unset, .unset, .unset, .unset, .unset] [(.int p0_2)])) rfl (hb hby at_62)) ?_
    refine own_s (g' := (mkF m 65 #[.val (.int p0_0), .val (.int p0_1), .val (.int p0_2), .val (.int p0_3), .val (.int (t0_6 p0_0)), .val (.int (t0_14 p0_1)), .val (.int 0), .val (.int 1), .unset, .unset, .unset, .unset, .unset, .unset] [(.int (p0_2 &&& (65535 : Int32)))])) (fun _ k => XS.iand X21.here hx rfl (hb hby at_64) rfl k) ?_
    refine own_s (g' := (mkF m 66 #[.val (.int p0_0), .val (.int p0_1), .val (.int p0_2), .val (.int p0_3), .val (.int (t0_6 p0_0)), .val (.int (t0_14 p0_1)), .val (.int 0), .val (.int 1), .unset, .unset, .unset, .unset, .unset, .unset] [(.int (p0_2 &&& (65535 : Int32)).toUInt32.toUInt16.toUInt32.toInt32)])) (fun _ k => XS.i2c X21.here hx rfl (hb hby at_65) rfl k) ?_
    refine own_s (g' := (mkF m 68 #[.val (.int p0_0), .val (.int p0_1), .val (.int p0_2), .val (.int p0_3), .val (.int (t0_6 p0_0)), .val (.int (t0_14 p0_1)), .val (.int 0), .val (.int 1), .val (.int (t0_66 p0_2)), .unset, .unset, .unset, .unset, .unset] [])) (fun _ k => XS.istore X21.here hx rfl (hb hby at_66) rfl (l' := #[.val (.int p0_0), .val (.int p0_1), .val (.int p0_2), .val (.int p0_3), .val (.int (t0_6 p0_0)), .val (.int (t0_14 p0_1)), .val (.int 0), .val (.int 1), .val (.int (t0_66 p0_2)), .unset, .unset, .unset, .unset, .unset]) rfl k) ?_
    refine own_s (g' := (mkF m 69 #[.val (.int p0_0), .val (.int p0_1), .val (.int p0_2), .val (.int p0_3), .val (.int (t0_6 p0_0)), .val (.int (t0_14 p0_1)), .val (.int 0), .val (.int 1), .val (.int (t0_66 p0_2)), .unset, .unset, .unset, .unset, .unset] [(.int p0_3)])) (fun _ k => XS.iloadN X21.here hx rfl (hb hby at_68) rfl k) ?_
    refine own_s (g' := (mkF m 71 #[.val (.int p0_0), .val (.int p0_1), .val (.int p0_2), .val (.int p0_3), .val (.int (t0_6 p0_0)), .val (.int (t0_14 p0_1)), .val (.int 0), .val (.int 1), .val (.int (t0_66 p0_2)), .unset, .unset, .unset, .unset, .unset] [(.int 65535), (.int p0_3)])) (X21.ldcInt hx hown (mvT hZ ww9) (g := (mkF m 69 #[.val (.int p0_0), .val (.int p0_1), .val (.int p0_2), .val (.int p0_3), .val (.int (t0_6 p0_0)), .val (.int (t0_14 p0_1)), .val (.int 0), .val (.int 1), .val (.int (t0_66 p0_2)), .unset, .unset, .unset, .unset, .unset] [(.int p0_3)])) rfl (hb hby at_69)) ?_
    refine own_s (g' := (mkF m 72 #[.val (.int p0_0), .val (.int p0_1), .val (.int p0_2), .val (.int p0_3), .val (.int (t0_6 p0_0)), .val (.int (t0_14 p0_1)), .val (.int 0), .val (.int 1), .val (.int (t0_66 p0_2)), .unset, .unset, .unset, .unset, .unset] [(.int (p0_3 &&& (65535 : Int32)))])) (fun _ k => XS.iand X21.here hx rfl (hb hby at_71) rfl k) ?_
    refine own_s (g' := (mkF m 73 #[.val (.int p0_0), .val (.int p0_1), .val (.int p0_2), .val (.int p0_3), .val (.int (t0_6 p0_0)), .val (.int (t0_14 p0_1)), .val (.int 0), .val (.int 1), .val (.int (t0_66 p0_2)), .unset, .unset, .unset, .unset, .unset] [(.int (p0_3 &&& (65535 : Int32)).toUInt32.toUInt16.toUInt32.toInt32)])) (fun _ k => XS.i2c X21.here hx rfl (hb hby at_72) rfl k) ?_
    refine own_s (g' := (mkF m 75 #[.val (.int p0_0), .val (.int p0_1), .val (.int p0_2), .val (.int p0_3), .val (.int (t0_6 p0_0)), .val (.int (t0_14 p0_1)), .val (.int 0), .val (.int 1), .val (.int (t0_66 p0_2)), .val (.int (t0_73 p0_3)), .unset, .unset, .unset, .unset] [])) (fun _ k => XS.istore X21.here hx rfl (hb hby at_73) rfl (l' := #[.val (.int p0_0), .val (.int p0_1), .val (.int p0_2), .val (.int p0_3), .val (.int (t0_6 p0_0)), .val (.int (t0_14 p0_1)), .val (.int 0), .val (.int 1), .val (.int (t0_66 p0_2)), .val (.int (t0_73 p0_3)), .unset, .unset, .unset, .unset]) rfl k) ?_
    refine own_s (g' := (mkF m 77 #[.val (.int p0_0), .val (.int p0_1), .val (.int p0_2), .val (.int p0_3), .val (.int (t0_6 p0_0)), .val (.int (t0_14 p0_1)), .val (.int 0), .val (.int 1), .val (.int (t0_66 p0_2)), .val (.int (t0_73 p0_3)), .unset, .unset, .unset, .unset] [(.int (t0_66 p0_2))])) (fun _ k => XS.iload X21.here hx rfl (hb hby at_75) rfl k) ?_
    refine own_s (g' := (mkF m 79 #[.val (.int p0_0), .val (.int p0_1), .val (.int p0_2), .val (.int p0_3), .val (.int (t0_6 p0_0)), .val (.int (t0_14 p0_1)), .val (.int 0), .val (.int 1), .val (.int (t0_66 p0_2)), .val (.int (t0_73 p0_3)), .unset, .unset, .unset, .unset] [(.int (t0_73 p0_3)), (.int (t0_66 p0_2))])) (fun _ k => XS.iload X21.here hx rfl (hb hby at_77) rfl k) ?_
    obtain ⟨_, _, ⟨T22, L22, k22, n22⟩, -, X22, ⟨Lc22, hQ22, l22, y22, z22⟩, st22⟩ := Jvm.LawKit.callS X21 hx (y := (⟨"com/example/junctura/junctura/model/LinearScoring", "isMatch", "(CC)Z"⟩ : MethodName)) hown (mvT hZ ww5) (mvT hZ ww6) (mvT hZ ww7) (mvT hZ ww8) (by decide) (backOf (W := 0) (rm2 l Z a0 hw [] (t0_66 p0_2) (t0_73 p0_3) h0 n0 Z0 ) hZ ww8 ww7 (by decide) (by decide)) (g := (mkF m 79 #[.val (.int p0_0), .val (.int p0_1), .val (.int p0_2), .val (.int p0_3), .val (.int (t0_6 p0_0)), .val (.int (t0_14 p0_1)), .val (.int 0), .val (.int 1), .val (.int (t0_66 p0_2)), .val (.int (t0_73 p0_3)), .unset, .unset, .unset, .unset] [(.int (t0_73 p0_3)), (.int (t0_66 p0_2))])) rfl (by rw [hml]; rfl) (argsL := [(.int (t0_66 p0_2)), (.int (t0_73 p0_3))]) (rest := []) (lenOf pd__CC_Z rfl) rfl (by show 2 * 0 + _ ≤ _; exact Nat.le_of_eq rfl) (hb hby at_79) (fun _ _ => ⟨rfl, eh21, (by decide : 0 + 0 ≤ _), (by decide : 0 + 0 ≤ _)⟩)
    dsimp only [Pt.U, Pt.locs, Pt.cells, Pt.slots] at X22 l22 y22 z22 st22 hQ22
    subst l22 y22 z22
    obtain ⟨rfl, N22q, eh22⟩ := hQ22
    have N22 := Fr.app N21 N22q
    refine own_s (g' := (mkF m 82 #[.val (.int p0_0), .val (.int p0_1), .val (.int p0_2), .val (.int p0_3), .val (.int (t0_6 p0_0)), .val (.int (t0_14 p0_1)), .val (.int 0), .val (.int 1), .val (.int (t0_66 p0_2)), .val (.int (t0_73 p0_3)), .unset, .unset, .unset, .unset] [(.int (r2 (t0_66 p0_2) (t0_73 p0_3)))])) st22 ?_
    refine own_s (g' := (mkF m 84 #[.val (.int p0_0), .val (.int p0_1), .val (.int p0_2), .val (.int p0_3), .val (.int (t0_6 p0_0)), .val (.int (t0_14 p0_1)), .val (.int 0), .val (.int 1), .val (.int (t0_66 p0_2)), .val (.int (t0_73 p0_3)), .val (.int (r2 (t0_66 p0_2) (t0_73 p0_3))), .unset, .unset, .unset] [])) (fun _ k => XS.istore X22.here hx rfl (hb hby at_82) rfl (l' := #[.val (.int p0_0), .val (.int p0_1), .val (.int p0_2), .val (.int p0_3), .val (.int (t0_6 p0_0)), .val (.int (t0_14 p0_1)), .val (.int 0), .val (.int 1), .val (.int (t0_66 p0_2)), .val (.int (t0_73 p0_3)), .val (.int (r2 (t0_66 p0_2) (t0_73 p0_3))), .unset, .unset, .unset]) rfl k) ?_
    refine own_s (g' := (mkF m 86 #[.val (.int p0_0), .val (.int p0_1), .val (.int p0_2), .val (.int p0_3), .val (.int (t0_6 p0_0)), .val (.int (t0_14 p0_1)), .val (.int 0), .val (.int 1), .val (.int (t0_66 p0_2)), .val (.int (t0_73 p0_3)), .val (.int (r2 (t0_66 p0_2) (t0_73 p0_3))), .unset, .unset, .unset] [(.int (r2 (t0_66 p0_2) (t0_73 p0_3)))])) (fun _ k => XS.iload X22.here hx rfl (hb hby at_84) rfl k) ?_
    refine own_s (g' := (mkF m 88 #[.val (.int p0_0), .val (.int p0_1), .val (.int p0_2), .val (.int p0_3), .val (.int (t0_6 p0_0)), .val (.int (t0_14 p0_1)), .val (.int 0), .val (.int 1), .val (.int (t0_66 p0_2)), .val (.int (t0_73 p0_3)), .val (.int (r2 (t0_66 p0_2) (t0_73 p0_3))), .unset, .unset, .unset] [(.int (t0_73 p0_3)), (.int (r2 (t0_66 p0_2) (t0_73 p0_3)))])) (fun _ k => XS.iload X22.here hx rfl (hb hby at_86) rfl k) ?_
    refine own_s (g' := (mkF m 90 #[.val (.int p0_0), .val (.int p0_1), .val (.int p0_2), .val (.int p0_3), .val (.int (t0_6 p0_0)), .val (.int (t0_14 p0_1)), .val (.int 0), .val (.int 1), .val (.int (t0_66 p0_2)), .val (.int (t0_73 p0_3)), .val (.int (r2 (t0_66 p0_2) (t0_73 p0_3))), .unset, .unset, .unset] [(.int (t0_66 p0_2)), (.int (t0_73 p0_3)), (.int (r2 (t0_66 p0_2) (t0_73 p0_3)))])) (fun _ k => XS.iload X22.here hx rfl (hb hby at_88) rfl k) ?_
    obtain ⟨_, _, ⟨T23, L23, k23, n23⟩, -, X23, ⟨Lc23, hQ23, l23, y23, z23⟩, st23⟩ := Jvm.LawKit.callS X22 hx (y := (⟨"com/example/junctura/junctura/model/LinearScoring", "isMatch", "(CC)Z"⟩ : MethodName)) hown (mvT hZ ww5) (mvT hZ ww6) (mvT hZ ww7) (mvT hZ ww8) (by decide) (backOf (W := 1) (rm2 l Z a0 hw [] (t0_73 p0_3) (t0_66 p0_2) h0 n0 Z0 ) hZ ww8 ww7 (by decide) (by decide)) (g := (mkF m 90 #[.val (.int p0_0), .val (.int p0_1), .val (.int p0_2), .val (.int p0_3), .val (.int (t0_6 p0_0)), .val (.int (t0_14 p0_1)), .val (.int 0), .val (.int 1), .val (.int (t0_66 p0_2)), .val (.int (t0_73 p0_3)), .val (.int (r2 (t0_66 p0_2) (t0_73 p0_3))), .unset, .unset, .unset] [(.int (t0_66 p0_2)), (.int (t0_73 p0_3)), (.int (r2 (t0_66 p0_2) (t0_73 p0_3)))])) rfl (by rw [hml]; rfl) (argsL := [(.int (t0_73 p0_3)), (.int (t0_66 p0_2))]) (rest := [(.int (r2 (t0_66 p0_2) (t0_73 p0_3)))]) (lenOf pd__CC_Z rfl) rfl (by show 2 * 0 + _ ≤ _; exact Nat.le_of_eq rfl) (hb hby at_90) (fun _ _ => ⟨rfl, eh22, (by decide : 0 + 0 ≤ _), (by decide : 0 + 0 ≤ _)⟩)
    dsimp only [Pt.U, Pt.locs, Pt.cells, Pt.slots] at X23 l23 y23 z23 st23 hQ23
    subst l23 y23 z23
    obtain ⟨rfl, N23q, eh23⟩ := hQ23
    have N23 := Fr.app N22 N23q
    refine own_s (g' := (mkF m 93 #[.val (.int p0_0), .val (.int p0_1), .val (.int p0_2), .val (.int p0_3), .val (.int (t0_6 p0_0)), .val (.int (t0_14 p0_1)), .val (.int 0), .val (.int 1), .val (.int (t0_66 p0_2)), .val (.int (t0_73 p0_3)), .val (.int (r2 (t0_66 p0_2) (t0_73 p0_3))), .unset, .unset, .unset] [(.int (r2 (t0_73 p0_3) (t0_66 p0_2))), (.int (r2 (t0_66 p0_2) (t0_73 p0_3)))])) st23 ?_
    refine own_s (g' := (mkF m 96 #[.val (.int p0_0), .val (.int p0_1), .val (.int p0_2), .val (.int p0_3), .val (.int (t0_6 p0_0)), .val (.int (t0_14 p0_1)), .val (.int 0), .val (.int 1), .val (.int (t0_66 p0_2)), .val (.int (t0_73 p0_3)), .val (.int (r2 (t0_66 p0_2) (t0_73 p0_3))), .unset, .unset, .unset] [])) (fun _ k => XS.icmpNo X23.here hx rfl (hb hby at_93) rfl (teq ((own_sym _ _) : (r2 (t0_66 p0_2) (t0_73 p0_3)) = (r2 (t0_73 p0_3) (t0_66 p0_2)))).2 k) ?_
    refine own_s (g' := (mkF m 97 #[.val (.int p0_0), .val (.int p0_1), .val (.int p0_2), .val (.int p0_3), .val (.int (t0_6 p0_0)), .val (.int (t0_14 p0_1)), .val (.int 0), .val (.int 1), .val (.int (t0_66 p0_2)), .val (.int (t0_73 p0_3)), .val (.int (r2 (t0_66 p0_2) (t0_73 p0_3))), .unset, .unset, .unset] [(.int 1)])) (fun _ k => XS.iconst X23.here hx rfl (hb hby at_96) k) ?_
    refine own_s (g' := (mkF m 101 #[.val (.int p0_0), .val (.int p0_1), .val (.int p0_2), .val (.int p0_3), .val (.int (t0_6 p0_0)), .val (.int (t0_14 p0_1)), .val (.int 0), .val (.int 1), .val (.int (t0_66 p0_2)), .val (.int (t0_73 p0_3)), .val (.int (r2 (t0_66 p0_2) (t0_73 p0_3))), .unset, .unset, .unset] [(.int 1)])) (fun _ k => XS.goto X23.here hx rfl (pc0 := 97) (pc' := 101) rfl (hb hby at_97) (by decide) (by decide) k) ?_
    refine own_s (g' := (mkF m 103 #[.val (.int p0_0), .val (.int p0_1), .val (.int p0_2), .val (.int p0_3), .val (.int (t0_6 p0_0)), .val (.int (t0_14 p0_1)), .val (.int 0), .val (.int 1), .val (.int (t0_66 p0_2)), .val (.int (t0_73 p0_3)), .val (.int (r2 (t0_66 p0_2) (t0_73 p0_3))), .val (.int 1), .unset, .unset] [])) (fun _ k => XS.istore X23.here hx rfl (hb hby at_101) rfl (l' := #[.val (.int p0_0), .val (.int p0_1), .val (.int p0_2), .val (.int p0_3), .val (.int (t0_6 p0_0)), .val (.int (t0_14 p0_1)), .val (.int 0), .val (.int 1), .val (.int (t0_66 p0_2)), .val (.int (t0_73 p0_3)), .val (.int (r2 (t0_66 p0_2) (t0_73 p0_3))), .val (.int 1), .unset, .unset]) rfl k) ?_
    refine own_s (g' := (mkF m 105 #[.val (.int p0_0), .val (.int p0_1), .val (.int p0_2), .val (.int p0_3), .val (.int (t0_6 p0_0)), .val (.int (t0_14 p0_1)), .val (.int 0), .val (.int 1), .val (.int (t0_66 p0_2)), .val (.int (t0_73 p0_3)), .val (.int (r2 (t0_66 p0_2) (t0_73 p0_3))), .val (.int 1), .unset, .unset] [(.int (r2 (t0_66 p0_2) (t0_73 p0_3)))])) (fun _ k => XS.iload X23.here hx rfl (hb hby at_103) rfl k) ?_
    by_cases c24 : (r2 (t0_66 p0_2) (t0_73 p0_3)) = (0 : Int32)
    ·skip
     refine own_s (g' := (mkF m 115 #[.val (.int p0_0), .val (.int p0_1), .val (.int p0_2), .val (.int p0_3), .val (.int (t0_6 p0_0)), .val (.int (t0_14 p0_1)), .val (.int 0), .val (.int 1), .val (.int (t0_66 p0_2)), .val (.int (t0_73 p0_3)), .val (.int (r2 (t0_66 p0_2) (t0_73 p0_3))), .val (.int 1), .unset, .unset] [])) (fun _ k => XS.ifYes X23.here hx rfl (pc0 := 105) (pc' := 115) rfl (hb hby at_105) rfl ((if0 _ _).trans (teq c24).1) (by decide) (by decide) k) ?_
     refine own_s (g' := (mkF m 116 #[.val (.int p0_0), .val (.int p0_1), .val (.int p0_2), .val (.int p0_3), .val (.int (t0_6 p0_0)), .val (.int (t0_14 p0_1)), .val (.int 0), .val (.int 1), .val (.int (t0_66 p0_2)), .val (.int (t0_73 p0_3)), .val (.int (r2 (t0_66 p0_2) (t0_73 p0_3))), .val (.int 1), .unset, .unset] [(.int 1)])) (fun _ k => XS.iconst X23.here hx rfl (hb hby at_115) k) ?_
     refine own_s (g' := (mkF m 120 #[.val (.int p0_0), .val (.int p0_1), .val (.int p0_2), .val (.int p0_3), .val (.int (t0_6 p0_0)), .val (.int (t0_14 p0_1)), .val (.int 0), .val (.int 1), .val (.int (t0_66 p0_2)), .val (.int (t0_73 p0_3)), .val (.int (r2 (t0_66 p0_2) (t0_73 p0_3))), .val (.int 1), .unset, .unset] [(.int 1)])) (fun _ k => XS.goto X23.here hx rfl (pc0 := 116) (pc' := 120) rfl (hb hby at_116) (by decide) (by decide) k) ?_
     refine own_s (g' := (mkF m 122 #[.val (.int p0_0), .val (.int p0_1), .val (.int p0_2), .val (.int p0_3), .val (.int (t0_6 p0_0)), .val (.int (t0_14 p0_1)), .val (.int 0), .val (.int 1), .val (.int (t0_66 p0_2)), .val (.int (t0_73 p0_3)), .val (.int (r2 (t0_66 p0_2) (t0_73 p0_3))), .val (.int 1), .val (.int 1), .unset] [])) (fun _ k => XS.istore X23.here hx rfl (hb hby at_120) rfl (l' := #[.val (.int p0_0), .val (.int p0_1), .val (.int p0_2), .val (.int p0_3), .val (.int (t0_6 p0_0)), .val (.int (t0_14 p0_1)), .val (.int 0), .val (.int 1), .val (.int (t0_66 p0_2)), .val (.int (t0_73 p0_3)), .val (.int (r2 (t0_66 p0_2) (t0_73 p0_3))), .val (.int 1), .val (.int 1), .unset]) rfl k) ?_
     refine own_s (g' := (mkF m 124 #[.val (.int p0_0), .val (.int p0_1), .val (.int p0_2), .val (.int p0_3), .val (.int (t0_6 p0_0)), .val (.int (t0_14 p0_1)), .val (.int 0), .val (.int 1), .val (.int (t0_66 p0_2)), .val (.int (t0_73 p0_3)), .val (.int (r2 (t0_66 p0_2) (t0_73 p0_3))), .val (.int 1), .val (.int 1), .unset] [(.int (t0_66 p0_2))])) (fun _ k => XS.iload X23.here hx rfl (hb hby at_122) rfl k) ?_
     refine own_s (g' := (mkF m 126 #[.val (.int p0_0), .val (.int p0_1), .val (.int p0_2), .val (.int p0_3), .val (.int (t0_6 p0_0)), .val (.int (t0_14 p0_1)), .val (.int 0), .val (.int 1), .val (.int (t0_66 p0_2)), .val (.int (t0_73 p0_3)), .val (.int (r2 (t0_66 p0_2) (t0_73 p0_3))), .val (.int 1), .val (.int 1), .unset] [(.int 78), (.int (t0_66 p0_2))])) (fun _ k => XS.bipush X23.here hx rfl (hb hby at_124) k) ?_
     obtain ⟨_, _, ⟨T25, L25, k25, n25⟩, -, X25, ⟨Lc25, hQ25, l25, y25, z25⟩, st25⟩ := Jvm.LawKit.callS X23 hx (y := (⟨"com/example/junctura/junctura/model/LinearScoring", "isMatch", "(CC)Z"⟩ : MethodName)) hown (mvT hZ ww5) (mvT hZ ww6) (mvT hZ ww7) (mvT hZ ww8) (by decide) (backOf (W := 0) (rm2 l Z a0 hw [] (t0_66 p0_2) (78 : Int32) h0 n0 Z0 ) hZ ww8 ww7 (by decide) (by decide)) (g := (mkF m 126 #[.val (.int p0_0), .val (.int p0_1), .val (.int p0_2), .val (.int p0_3), .val (.int (t0_6 p0_0)), .val (.int (t0_14 p0_1)), .val (.int 0), .val (.int 1), .val (.int (t0_66 p0_2)), .val (.int (t0_73 p0_3)), .val (.int (r2 (t0_66 p0_2) (t0_73 p0_3))), .val (.int 1), .val (.int 1), .unset] [(.int 78), (.int (t0_66 p0_2))])) rfl (by rw [hml]; rfl) (argsL := [(.int (t0_66 p0_2)), (.int 78)]) (rest := []) (lenOf pd__CC_Z rfl) rfl (by show 2 * 0 + _ ≤ _; exact Nat.le_of_eq rfl) (hb hby at_126) (fun _ _ => ⟨rfl, eh23, (by decide : 0 + 0 ≤ _), (by decide : 0 + 0 ≤ _)⟩)
     dsimp only [Pt.U, Pt.locs, Pt.cells, Pt.slots] at X25 l25 y25 z25 st25 hQ25
     subst l25 y25 z25
     obtain ⟨rfl, N25q, eh25⟩ := hQ25
     have N25 := Fr.app N23 N25q
     refine own_s (g' := (mkF m 129 #[.val (.int p0_0), .val (.int p0_1), .val (.int p0_2), .val (.int p0_3), .val (.int (t0_6 p0_0)), .val (.int (t0_14 p0_1)), .val (.int 0), .val (.int 1), .val (.int (t0_66 p0_2)), .val (.int (t0_73 p0_3)), .val (.int (r2 (t0_66 p0_2) (t0_73 p0_3))), .val (.int 1), .val (.int 1), .unset] [(.int (r2 (t0_66 p0_2) (78 : Int32)))])) st25 ?_
     refine own_s (g' := (mkF m 132 #[.val (.int p0_0), .val (.int p0_1), .val (.int p0_2), .val (.int p0_3), .val (.int (t0_6 p0_0)), .val (.int (t0_14 p0_1)), .val (.int 0), .val (.int 1), .val (.int (t0_66 p0_2)), .val (.int (t0_73 p0_3)), .val (.int (r2 (t0_66 p0_2) (t0_73 p0_3))), .val (.int 1), .val (.int 1), .unset] [])) (fun _ k => XS.ifNo X25.here hx rfl (hb hby at_129) rfl ((if0 _ _).trans (teq ((own_n1 _) : (r2 (t0_66 p0_2) (78 : Int32)) = (0 : Int32))).2) k) ?_
     refine own_s (g' := (mkF m 134 #[.val (.int p0_0), .val (.int p0_1), .val (.int p0_2), .val (.int p0_3), .val (.int (t0_6 p0_0)), .val (.int (t0_14 p0_1)), .val (.int 0), .val (.int 1), .val (.int (t0_66 p0_2)), .val (.int (t0_73 p0_3)), .val (.int (r2 (t0_66 p0_2) (t0_73 p0_3))), .val (.int 1), .val (.int 1), .unset] [(.int 78)])) (fun _ k => XS.bipush X25.here hx rfl (hb hby at_132) k) ?_
     refine own_s (g' := (mkF m 136 #[.val (.int p0_0), .val (.int p0_1), .val (.int p0_2), .val (.int p0_3), .val (.int (t0_6 p0_0)), .val (.int (t0_14 p0_1)), .val (.int 0), .val (.int 1), .val (.int (t0_66 p0_2)), .val (.int (t0_73 p0_3)), .val (.int (r2 (t0_66 p0_2) (t0_73 p0_3))), .val (.int 1), .val (.int 1), .unset] [(.int (t0_66 p0_2)), (.int 78)])) (fun _ k => XS.iload X25.here hx rfl (hb hby at_134) rfl k) ?_
     obtain ⟨_, _, ⟨T26, L26, k26, n26⟩, -, X26, ⟨Lc26, hQ26, l26, y26, z26⟩, st26⟩ := Jvm.LawKit.callS X25 hx (y := (⟨"com/example/junctura/junctura/model/LinearScoring", "isMatch", "(CC)Z"⟩ : MethodName)) hown (mvT hZ ww5) (mvT hZ ww6) (mvT hZ ww7) (mvT hZ ww8) (by decide) (backOf (W := 0) (rm2 l Z a0 hw [] (78 : Int32) (t0_66 p0_2) h0 n0 Z0 ) hZ ww8 ww7 (by decide) (by decide)) (g := (mkF m 136 #[.val (.int p0_0), .val (.int p0_1), .val (.int p0_2), .val (.int p0_3), .val (.int (t0_6 p0_0)), .val (.int (t0_14 p0_1)), .val (.int 0), .val (.int 1), .val (.int (t0_66 p0_2)), .val (.int (t0_73 p0_3)), .val (.int (r2 (t0_66 p0_2) (t0_73 p0_3))), .val (.int 1), .val (.int 1), .unset] [(.int (t0_66 p0_2)), (.int 78)])) rfl (by rw [hml]; rfl) (argsL := [(.int 78), (.int (t0_66 p0_2))]) (rest := []) (lenOf pd__CC_Z rfl) rfl (by show 2 * 0 + _ ≤ _; exact Nat.le_of_eq rfl) (hb hby at_136) (fun _ _ => ⟨rfl, eh25, (by decide : 0 + 0 ≤ _), (by decide : 0 + 0 ≤ _)⟩)
     dsimp only [Pt.U, Pt.locs, Pt.cells, Pt.slots] at X26 l26 y26 z26 st26 hQ26
     subst l26 y26 z26
     obtain ⟨rfl, N26q, eh26⟩ := hQ26
     have N26 := Fr.app N25 N26q
     refine own_s (g' := (mkF m 139 #[.val (.int p0_0), .val (.int p0_1), .val (.int p0_2), .val (.int p0_3), .val (.int (t0_6 p0_0)), .val (.int (t0_14 p0_1)), .val (.int 0), .val (.int 1), .val (.int (t0_66 p0_2)), .val (.int (t0_73 p0_3)), .val (.int (r2 (t0_66 p0_2) (t0_73 p0_3))), .val (.int 1), .val (.int 1), .unset] [(.int (r2 (78 : Int32) (t0_66 p0_2)))])) st26 ?_
     refine own_s (g' := (mkF m 142 #[.val (.int p0_0), .val (.int p0_1), .val (.int p0_2), .val (.int p0_3), .val (.int (t0_6 p0_0)), .val (.int (t0_14 p0_1)), .val (.int 0), .val (.int 1), .val (.int (t0_66 p0_2)), .val (.int (t0_73 p0_3)), .val (.int (r2 (t0_66 p0_2) (t0_73 p0_3))), .val (.int 1), .val (.int 1), .unset] [])) (fun _ k => XS.ifNo X26.here hx rfl (hb hby at_139) rfl ((if0 _ _).trans (teq ((own_n2 _) : (r2 (78 : Int32) (t0_66 p0_2)) = (0 : Int32))).2) k) ?_
     refine own_s (g' := (mkF m 143 #[.val (.int p0_0), .val (.int p0_1), .val (.int p0_2), .val (.int p0_3), .val (.int (t0_6 p0_0)), .val (.int (t0_14 p0_1)), .val (.int 0), .val (.int 1), .val (.int (t0_66 p0_2)), .val (.int (t0_73 p0_3)), .val (.int (r2 (t0_66 p0_2) (t0_73 p0_3))), .val (.int 1), .val (.int 1), .unset] [(.int 1)])) (fun _ k => XS.iconst X26.here hx rfl (hb hby at_142) k) ?_
     refine own_s (g' := (mkF m 147 #[.val (.int p0_0), .val (.int p0_1), .val (.int p0_2), .val (.int p0_3), .val (.int (t0_6 p0_0)), .val (.int (t0_14 p0_1)), .val (.int 0), .val (.int 1), .val (.int (t0_66 p0_2)), .val (.int (t0_73 p0_3)), .val (.int (r2 (t0_66 p0_2) (t0_73 p0_3))), .val (.int 1), .val (.int 1), .unset] [(.int 1)])) (fun _ k => XS.goto X26.here hx rfl (pc0 := 143) (pc' := 147) rfl (hb hby at_143) (by decide) (by decide) k) ?_
     refine own_s (g' := (mkF m 149 #[.val (.int p0_0), .val (.int p0_1), .val (.int p0_2), .val (.int p0_3), .val (.int (t0_6 p0_0)), .val (.int (t0_14 p0_1)), .val (.int 0), .val (.int 1), .val (.int (t0_66 p0_2)), .val (.int (t0_73 p0_3)), .val (.int (r2 (t0_66 p0_2) (t0_73 p0_3))), .val (.int 1), .val (.int 1), .val (.int 1)] [])) (fun _ k => XS.istore X26.here hx rfl (hb hby at_147) rfl (l' := #[.val (.int p0_0), .val (.int p0_1), .val (.int p0_2), .val (.int p0_3), .val (.int (t0_6 p0_0)), .val (.int (t0_14 p0_1)), .val (.int 0), .val (.int 1), .val (.int (t0_66 p0_2)), .val (.int (t0_73 p0_3)), .val (.int (r2 (t0_66 p0_2) (t0_73 p0_3))), .val (.int 1), .val (.int 1), .val (.int 1)]) rfl k) ?_
     refine own_s (g' := (mkF m 151 #[.val (.int p0_0), .val (.int p0_1), .val (.int p0_2), .val (.int p0_3), .val (.int (t0_6 p0_0)), .val (.int (t0_14 p0_1)), .val (.int 0), .val (.int 1), .val (.int (t0_66 p0_2)), .val (.int (t0_73 p0_3)), .val (.int (r2 (t0_66 p0_2) (t0_73 p0_3))), .val (.int 1), .val (.int 1), .val (.int 1)] [(.int 1)])) (fun _ k => XS.iload X26.here hx rfl (hb hby at_149) rfl k) ?_
     refine own_s (g' := (mkF m 154 #[.val (.int p0_0), .val (.int p0_1), .val (.int p0_2), .val (.int p0_3), .val (.int (t0_6 p0_0)), .val (.int (t0_14 p0_1)), .val (.int 0), .val (.int 1), .val (.int (t0_66 p0_2)), .val (.int (t0_73 p0_3)), .val (.int (r2 (t0_66 p0_2) (t0_73 p0_3))), .val (.int 1), .val (.int 1), .val (.int 1)] [])) (fun _ k => XS.ifNo X26.here hx rfl (hb hby at_151) rfl ((if0 _ _).trans (feq ((by decide) : ¬ (1 : Int32) = (0 : Int32))).1) k) ?_
     refine own_s (g' := (mkF m 156 #[.val (.int p0_0), .val (.int p0_1), .val (.int p0_2), .val (.int p0_3), .val (.int (t0_6 p0_0)), .val (.int (t0_14 p0_1)), .val (.int 0), .val (.int 1), .val (.int (t0_66 p0_2)), .val (.int (t0_73 p0_3)), .val (.int (r2 (t0_66 p0_2) (t0_73 p0_3))), .val (.int 1), .val (.int 1), .val (.int 1)] [(.int 1)])) (fun _ k => XS.iload X26.here hx rfl (hb hby at_154) rfl k) ?_
     refine own_s (g' := (mkF m 159 #[.val (.int p0_0), .val (.int p0_1), .val (.int p0_2), .val (.int p0_3), .val (.int (t0_6 p0_0)), .val (.int (t0_14 p0_1)), .val (.int 0), .val (.int 1), .val (.int (t0_66 p0_2)), .val (.int (t0_73 p0_3)), .val (.int (r2 (t0_66 p0_2) (t0_73 p0_3))), .val (.int 1), .val (.int 1), .val (.int 1)] [])) (fun _ k => XS.ifNo X26.here hx rfl (hb hby at_156) rfl ((if0 _ _).trans (feq ((by decide) : ¬ (1 : Int32) = (0 : Int32))).1) k) ?_
     refine own_s (g' := (mkF m 161 #[.val (.int p0_0), .val (.int p0_1), .val (.int p0_2), .val (.int p0_3), .val (.int (t0_6 p0_0)), .val (.int (t0_14 p0_1)), .val (.int 0), .val (.int 1), .val (.int (t0_66 p0_2)), .val (.int (t0_73 p0_3)), .val (.int (r2 (t0_66 p0_2) (t0_73 p0_3))), .val (.int 1), .val (.int 1), .val (.int 1)] [(.int 1)])) (fun _ k => XS.iload X26.here hx rfl (hb hby at_159) rfl k) ?_
     refine own_s (g' := (mkF m 164 #[.val (.int p0_0), .val (.int p0_1), .val (.int p0_2), .val (.int p0_3), .val (.int (t0_6 p0_0)), .val (.int (t0_14 p0_1)), .val (.int 0), .val (.int 1), .val (.int (t0_66 p0_2)), .val (.int (t0_73 p0_3)), .val (.int (r2 (t0_66 p0_2) (t0_73 p0_3))), .val (.int 1), .val (.int 1), .val (.int 1)] [])) (fun _ k => XS.ifNo X26.here hx rfl (hb hby at_161) rfl ((if0 _ _).trans (feq ((by decide) : ¬ (1 : Int32) = (0 : Int32))).1) k) ?_
     refine own_s (g' := (mkF m 166 #[.val (.int p0_0), .val (.int p0_1), .val (.int p0_2), .val (.int p0_3), .val (.int (t0_6 p0_0)), .val (.int (t0_14 p0_1)), .val (.int 0), .val (.int 1), .val (.int (t0_66 p0_2)), .val (.int (t0_73 p0_3)), .val (.int (r2 (t0_66 p0_2) (t0_73 p0_3))), .val (.int 1), .val (.int 1), .val (.int 1)] [(.int 1)])) (fun _ k => XS.iload X26.here hx rfl (hb hby at_164) rfl k) ?_
     refine own_s (g' := (mkF m 169 #[.val (.int p0_0), .val (.int p0_1), .val (.int p0_2), .val (.int p0_3), .val (.int (t0_6 p0_0)), .val (.int (t0_14 p0_1)), .val (.int 0), .val (.int 1), .val (.int (t0_66 p0_2)), .val (.int (t0_73 p0_3)), .val (.int (r2 (t0_66 p0_2) (t0_73 p0_3))), .val (.int 1), .val (.int 1), .val (.int 1)] [])) (fun _ k => XS.ifNo X26.here hx rfl (hb hby at_166) rfl ((if0 _ _).trans (feq ((by decide) : ¬ (1 : Int32) = (0 : Int32))).1) k) ?_
     refine own_s (g' := (mkF m 170 #[.val (.int p0_0), .val (.int p0_1), .val (.int p0_2), .val (.int p0_3), .val (.int (t0_6 p0_0)), .val (.int (t0_14 p0_1)), .val (.int 0), .val (.int 1), .val (.int (t0_66 p0_2)), .val (.int (t0_73 p0_3)), .val (.int (r2 (t0_66 p0_2) (t0_73 p0_3))), .val (.int 1), .val (.int 1), .val (.int 1)] [(.int 1)])) (fun _ k => XS.iconst X26.here hx rfl (hb hby at_169) k) ?_
     refine own_s (g' := (mkF m 174 #[.val (.int p0_0), .val (.int p0_1), .val (.int p0_2), .val (.int p0_3), .val (.int (t0_6 p0_0)), .val (.int (t0_14 p0_1)), .val (.int 0), .val (.int 1), .val (.int (t0_66 p0_2)), .val (.int (t0_73 p0_3)), .val (.int (r2 (t0_66 p0_2) (t0_73 p0_3))), .val (.int 1), .val (.int 1), .val (.int 1)] [(.int 1)])) (fun _ k => XS.goto X26.here hx rfl (pc0 := 170) (pc' := 174) rfl (hb hby at_170) (by decide) (by decide) k) ?_
     refine own_retN X26 hx hlk (t := .boolean) hret (by simp) (hb hby at_174) (z' := (1 : Int32)) (by decide) (by decide) (by decide) ?_
     show Q0 Z p0_0 p0_1 p0_2 p0_3 h0 n0 _ T26.heap _
     rw [eh26]
     exact ⟨rfl, N26⟩
    ·skip
     refine own_s (g' := (mkF m 108 #[.val (.int p0_0), .val (.int p0_1), .val (.int p0_2), .val (.int p0_3), .val (.int (t0_6 p0_0)), .val (.int (t0_14 p0_1)), .val (.int 0), .val (.int 1), .val (.int (t0_66 p0_2)), .val (.int (t0_73 p0_3)), .val (.int (r2 (t0_66 p0_2) (t0_73 p0_3))), .val (.int 1), .unset, .unset] [])) (fun _ k => XS.ifNo X23.here hx rfl (hb hby at_105) rfl ((if0 _ _).trans (feq c24).1) k) ?_
     refine own_s (g' := (mkF m 110 #[.val (.int p0_0), .val (.int p0_1), .val (.int p0_2), .val (.int p0_3), .val (.int (t0_6 p0_0)), .val (.int (t0_14 p0_1)), .val (.int 0), .val (.int 1), .val (.int (t0_66 p0_2)), .val (.int (t0_73 p0_3)), .val (.int (r2 (t0_66 p0_2) (t0_73 p0_3))), .val (.int 1), .unset, .unset] [(.int (t0_66 p0_2))])) (fun _ k => XS.iload X23.here hx rfl (hb hby at_108) rfl k) ?_
     refine own_s (g' := (mkF m 112 #[.val (.int p0_0), .val (.int p0_1), .val (.int p0_2), .val (.int p0_3), .val (.int (t0_6 p0_0)), .val (.int (t0_14 p0_1)), .val (.int 0), .val (.int 1), .val (.int (t0_66 p0_2)), .val (.int (t0_73 p0_3)), .val (.int (r2 (t0_66 p0_2) (t0_73 p0_3))), .val (.int 1), .unset, .unset] [(.int (t0_73 p0_3)), (.int (t0_66 p0_2))])) (fun _ k => XS.iload X23.here hx rfl (hb hby at_110) rfl k) ?_
     refine own_s (g' := (mkF m 115 #[.val (.int p0_0), .val (.int p0_1), .val (.int p0_2), .val (.int p0_3), .val (.int (t0_6 p0_0)), .val (.int (t0_14 p0_1)), .val (.int 0), .val (.int 1), .val (.int (t0_66 p0_2)), .val (.int (t0_73 p0_3)), .val (.int (r2 (t0_66 p0_2) (t0_73 p0_3))), .val (.int 1), .unset, .unset] [])) (fun _ k => XS.icmpNo X23.here hx rfl (hb hby at_112) rfl (teq ((own_only _ _ c24) : (t0_66 p0_2) = (t0_73 p0_3))).2 k) ?_
     refine own_s (g' := (mkF m 116 #[.val (.int p0_0), .val (.int p0_1), .val (.int p0_2), .val (.int p0_3), .val (.int (t0_6 p0_0)), .val (.int (t0_14 p0_1)), .val (.int 0), .val (.int 1), .val (.int (t0_66 p0_2)), .val (.int (t0_73 p0_3)), .val (.int (r2 (t0_66 p0_2) (t0_73 p0_3))), .val (.int 1), .unset, .unset] [(.int 1)])) (fun _ k => XS.iconst X23.here hx rfl (hb hby at_115) k) ?_
     refine own_s (g' := (mkF m 120 #[.val (.int p0_0), .val (.int p0_1), .val (.int p0_2), .val (.int p0_3), .val (.int (t0_6 p0_0)), .val (.int (t0_14 p0_1)), .val (.int 0), .val (.int 1), .val (.int (t0_66 p0_2)), .val (.int (t0_73 p0_3)), .val (.int (r2 (t0_66 p0_2) (t0_73 p0_3))), .val (.int 1), .unset, .unset] [(.int 1)])) (fun _ k => XS.goto X23.here hx rfl (pc0 := 116) (pc' := 120) rfl (hb hby at_116) (by decide) (by decide) k) ?_
     refine own_s (g' := (mkF m 122 #[.val (.int p0_0), .val (.int p0_1), .val (.int p0_2), .val (.int p0_3), .val (.int (t0_6 p0_0)), .val (.int (t0_14 p0_1)), .val (.int 0), .val (.int 1), .val (.int (t0_66 p0_2)), .val (.int (t0_73 p0_3)), .val (.int (r2 (t0_66 p0_2) (t0_73 p0_3))), .val (.int 1), .val (.int 1), .unset] [])) (fun _ k => XS.istore X23.here hx rfl (hb hby at_120) rfl (l' := #[.val (.int p0_0), .val (.int p0_1), .val (.int p0_2), .val (.int p0_3), .val (.int (t0_6 p0_0)), .val (.int (t0_14 p0_1)), .val (.int 0), .val (.int 1), .val (.int (t0_66 p0_2)), .val (.int (t0_73 p0_3)), .val (.int (r2 (t0_66 p0_2) (t0_73 p0_3))), .val (.int 1), .val (.int 1), .unset]) rfl k) ?_
     refine own_s (g' := (mkF m 124 #[.val (.int p0_0), .val (.int p0_1), .val (.int p0_2), .val (.int p0_3), .val (.int (t0_6 p0_0)), .val (.int (t0_14 p0_1)), .val (.int 0), .val (.int 1), .val (.int (t0_66 p0_2)), .val (.int (t0_73 p0_3)), .val (.int (r2 (t0_66 p0_2) (t0_73 p0_3))), .val (.int 1), .val (.int 1), .unset] [(.int (t0_66 p0_2))])) (fun _ k => XS.iload X23.here hx rfl (hb hby at_122) rfl k) ?_
     refine own_s (g' := (mkF m 126 #[.val (.int p0_0), .val (.int p0_1), .val (.int p0_2), .val (.int p0_3), .val (.int (t0_6 p0_0)), .val (.int (t0_14 p0_1)), .val (.int 0), .val (.int 1), .val (.int (t0_66 p0_2)), .val (.int (t0_73 p0_3)), .val (.int (r2 (t0_66 p0_2) (t0_73 p0_3))), .val (.int 1), .val (.int 1), .unset] [(.int 78), (.int (t0_66 p0_2))])) (fun _ k => XS.bipush X23.here hx rfl (hb hby at_124) k) ?_
     obtain ⟨_, _, ⟨T27, L27, k27, n27⟩, -, X27, ⟨Lc27, hQ27, l27, y27, z27⟩, st27⟩ := Jvm.LawKit.callS X23 hx (y := (⟨"com/example/junctura/junctura/model/LinearScoring", "isMatch", "(CC)Z"⟩ : MethodName)) hown (mvT hZ ww5) (mvT hZ ww6) (mvT hZ ww7) (mvT hZ ww8) (by decide) (backOf (W := 0) (rm2 l Z a0 hw [] (t0_66 p0_2) (78 : Int32) h0 n0 Z0 ) hZ ww8 ww7 (by decide) (by decide)) (g := (mkF m 126 #[.val (.int p0_0), .val (.int p0_1), .val (.int p0_2), .val (.int p0_3), .val (.int (t0_6 p0_0)), .val (.int (t0_14 p0_1)), .val (.int 0), .val (.int 1), .val (.int (t0_66 p0_2)), .val (.int (t0_73 p0_3)), .val (.int (r2 (t0_66 p0_2) (t0_73 p0_3))), .val (.int 1), .val (.int 1), .unset] [(.int 78), (.int (t0_66 p0_2))])) rfl (by rw [hml]; rfl) (argsL := [(.int (t0_66 p0_2)), (.int 78)]) (rest := []) (lenOf pd__CC_Z rfl) rfl (by show 2 * 0 + _ ≤ _; exact Nat.le_of_eq rfl) (hb hby at_126) (fun _ _ => ⟨rfl, eh23, (by decide : 0 + 0 ≤ _), (by decide : 0 + 0 ≤ _)⟩)
     dsimp only [Pt.U, Pt.locs, Pt.cells, Pt.slots] at X27 l27 y27 z27 st27 hQ27
     subst l27 y27 z27
     obtain ⟨rfl, N27q, eh27⟩ := hQ27
     have N27 := Fr.app N23 N27q
     refine own_s (g' := (mkF m 129 #[.val (.int p0_0), .val (.int p0_1), .val (.int p0_2), .val (.int p0_3), .val (.int (t0_6 p0_0)), .val (.int (t0_14 p0_1)), .val (.int 0), .val (.int 1), .val (.int (t0_66 p0_2)), .val (.int (t0_73 p0_3)), .val (.int (r2 (t0_66 p0_2) (t0_73 p0_3))), .val (.int 1), .val (.int 1), .unset] [(.int (r2 (t0_66 p0_2) (78 : Int32)))])) st27 ?_
     refine own_s (g' := (mkF m 132 #[.val (.int p0_0), .val (.int p0_1), .val (.int p0_2), .val (.int p0_3), .val (.int (t0_6 p0_0)), .val (.int (t0_14 p0_1)), .val (.int 0), .val (.int 1), .val (.int (t0_66 p0_2)), .val (.int (t0_73 p0_3)), .val (.int (r2 (t0_66 p0_2) (t0_73 p0_3))), .val (.int 1), .val (.int 1), .unset] [])) (fun _ k => XS.ifNo X27.here hx rfl (hb hby at_129) rfl ((if0 _ _).trans (teq ((own_n1 _) : (r2 (t0_66 p0_2) (78 : Int32)) = (0 : Int32))).2) k) ?_
     refine own_s (g' := (mkF m 134 #[.val (.int p0_0), .val (.int p0_1), .val (.int p0_2), .val (.int p0_3), .val (.int (t0_6 p0_0)), .val (.int (t0_14 p0_1)), .val (.int 0), .val (.int 1), .val (.int (t0_66 p0_2)), .val (.int (t0_73 p0_3)), .val (.int (r2 (t0_66 p0_2) (t0_73 p0_3))), .val (.int 1), .val (.int 1), .unset] [(.int 78)])) (fun _ k => XS.bipush X27.here hx rfl (hb hby at_132) k) ?_
     refine own_s (g' := (mkF m 136 #[.val (.int p0_0), .val (.int p0_1), .val (.int p0_2), .val (.int p0_3), .val (.int (t0_6 p0_0)), .val (.int (t0_14 p0_1)), .val (.int 0), .val (.int 1), .val (.int (t0_66 p0_2)), .val (.int (t0_73 p0_3)), .val (.int (r2 (t0_66 p0_2) (t0_73 p0_3))), .val (.int 1), .val (.int 1), .unset] [(.int (t0_66 p0_2)), (.int 78)])) (fun _ k => XS.iload X27.here hx rfl (hb hby at_134) rfl k) ?_
     obtain ⟨_, _, ⟨T28, L28, k28, n28⟩, -, X28, ⟨Lc28, hQ28, l28, y28, z28⟩, st28⟩ := Jvm.LawKit.callS X27 hx (y := (⟨"com/example/junctura/junctura/model/LinearScoring", "isMatch", "(CC)Z"⟩ : MethodName)) hown (mvT hZ ww5) (mvT hZ ww6) (mvT hZ ww7) (mvT hZ ww8) (by decide) (backOf (W := 0) (rm2 l Z a0 hw [] (78 : Int32) (t0_66 p0_2) h0 n0 Z0 ) hZ ww8 ww7 (by decide) (by decide)) (g := (mkF m 136 #[.val (.int p0_0), .val (.int p0_1), .val (.int p0_2), .val (.int p0_3), .val (.int (t0_6 p0_0)), .val (.int (t0_14 p0_1)), .val (.int 0), .val (.int 1), .val (.int (t0_66 p0_2)), .val (.int (t0_73 p0_3)), .val (.int (r2 (t0_66 p0_2) (t0_73 p0_3))), .val (.int 1), .val (.int 1), .unset] [(.int (t0_66 p0_2)), (.int 78)])) rfl (by rw [hml]; rfl) (argsL := [(.int 78), (.int (t0_66 p0_2))]) (rest := []) (lenOf pd__CC_Z rfl) rfl (by show 2 * 0 + _ ≤ _; exact Nat.le_of_eq rfl) (hb hby at_136) (fun _ _ => ⟨rfl, eh27, (by decide : 0 + 0 ≤ _), (by decide : 0 + 0 ≤ _)⟩)
     dsimp only [Pt.U, Pt.locs, Pt.cells, Pt.slots] at X28 l28 y28 z28 st28 hQ28
     subst l28 y28 z28
     obtain ⟨rfl, N28q, eh28⟩ := hQ28
     have N28 := Fr.app N27 N28q
     refine own_s (g' := (mkF m 139 #[.val (.int p0_0), .val (.int p0_1), .val (.int p0_2), .val (.int p0_3), .val (.int (t0_6 p0_0)), .val (.int (t0_14 p0_1)), .val (.int 0), .val (.int 1), .val (.int (t0_66 p0_2)), .val (.int (t0_73 p0_3)), .val (.int (r2 (t0_66 p0_2) (t0_73 p0_3))), .val (.int 1), .val (.int 1), .unset] [(.int (r2 (78 : Int32) (t0_66 p0_2)))])) st28 ?_
     refine own_s (g' := (mkF m 142 #[.val (.int p0_0), .val (.int p0_1), .val (.int p0_2), .val (.int p0_3), .val (.int (t0_6 p0_0)), .val (.int (t0_14 p0_1)), .val (.int 0), .val (.int 1), .val (.int (t0_66 p0_2)), .val (.int (t0_73 p0_3)), .val (.int (r2 (t0_66 p0_2) (t0_73 p0_3))), .val (.int 1), .val (.int 1), .unset] [])) (fun _ k => XS.ifNo X28.here hx rfl (hb hby at_139) rfl ((if0 _ _).trans (teq ((own_n2 _) : (r2 (78 : Int32) (t0_66 p0_2)) = (0 : Int32))).2) k) ?_
     refine own_s (g' := (mkF m 143 #[.val (.int p0_0), .val (.int p0_1), .val (.int p0_2), .val (.int p0_3), .val (.int (t0_6 p0_0)), .val (.int (t0_14 p0_1)), .val (.int 0), .val (.int 1), .val (.int (t0_66 p0_2)), .val (.int (t0_73 p0_3)), .val (.int (r2 (t0_66 p0_2) (t0_73 p0_3))), .val (.int 1), .val (.int 1), .unset] [(.int 1)])) (fun _ k => XS.iconst X28.here hx rfl (hb hby at_142) k) ?_
     refine own_s (g' := (mkF m 147 #[.val (.int p0_0), .val (.int p0_1), .val (.int p0_2), .val (.int p0_3), .val (.int (t0_6 p0_0)), .val (.int (t0_14 p0_1)), .val (.int 0), .val (.int 1), .val (.int (t0_66 p0_2)), .val (.int (t0_73 p0_3)), .val (.int (r2 (t0_66 p0_2) (t0_73 p0_3))), .val (.int 1), .val (.int 1), .unset] [(.int 1)])) (fun _ k => XS.goto X28.here hx rfl (pc0 := 143) (pc' := 147) rfl (hb hby at_143) (by decide) (by decide) k) ?_
     refine own_s (g' := (mkF m 149 #[.val (.int p0_0), .val (.int p0_1), .val (.int p0_2), .val (.int p0_3), .val (.int (t0_6 p0_0)), .val (.int (t0_14 p0_1)), .val (.int 0), .val (.int 1), .val (.int (t0_66 p0_2)), .val (.int (t0_73 p0_3)), .val (.int (r2 (t0_66 p0_2) (t0_73 p0_3))), .val (.int 1), .val (.int 1), .val (.int 1)] [])) (fun _ k => XS.istore X28.here hx rfl (hb hby at_147) rfl (l' := #[.val (.int p0_0), .val (.int p0_1), .val (.int p0_2), .val (.int p0_3), .val (.int (t0_6 p0_0)), .val (.int (t0_14 p0_1)), .val (.int 0), .val (.int 1), .val (.int (t0_66 p0_2)), .val (.int (t0_73 p0_3)), .val (.int (r2 (t0_66 p0_2) (t0_73 p0_3))), .val (.int 1), .val (.int 1), .val (.int 1)]) rfl k) ?_
     refine own_s (g' := (mkF m 151 #[.val (.int p0_0), .val (.int p0_1), .val (.int p0_2), .val (.int p0_3), .val (.int (t0_6 p0_0)), .val (.int (t0_14 p0_1)), .val (.int 0), .val (.int 1), .val (.int (t0_66 p0_2)), .val (.int (t0_73 p0_3)), .val (.int (r2 (t0_66 p0_2) (t0_73 p0_3))), .val (.int 1), .val (.int 1), .val (.int 1)] [(.int 1)])) (fun _ k => XS.iload X28.here hx rfl (hb hby at_149) rfl k) ?_
     refine own_s (g' := (mkF m 154 #[.val (.int p0_0), .val (.int p0_1), .val (.int p0_2), .val (.int p0_3), .val (.int (t0_6 p0_0)), .val (.int (t0_14 p0_1)), .val (.int 0), .val (.int 1), .val (.int (t0_66 p0_2)), .val (.int (t0_73 p0_3)), .val (.int (r2 (t0_66 p0_2) (t0_73 p0_3))), .val (.int 1), .val (.int 1), .val (.int 1)] [])) (fun _ k => XS.ifNo X28.here hx rfl (hb hby at_151) rfl ((if0 _ _).trans (feq ((by decide) : ¬ (1 : Int32) = (0 : Int32))).1) k) ?_
     refine own_s (g' := (mkF m 156 #[.val (.int p0_0), .val (.int p0_1), .val (.int p0_2), .val (.int p0_3), .val (.int (t0_6 p0_0)), .val (.int (t0_14 p0_1)), .val (.int 0), .val (.int 1), .val (.int (t0_66 p0_2)), .val (.int (t0_73 p0_3)), .val (.int (r2 (t0_66 p0_2) (t0_73 p0_3))), .val (.int 1), .val (.int 1), .val (.int 1)] [(.int 1)])) (fun _ k => XS.iload X28.here hx rfl (hb hby at_154) rfl k) ?_
     refine own_s (g' := (mkF m 159 #[.val (.int p0_0), .val (.int p0_1), .val (.int p0_2), .val (.int p0_3), .val (.int (t0_6 p0_0)), .val (.int (t0_14 p0_1)), .val (.int 0), .val (.int 1), .val (.int (t0_66 p0_2)), .val (.int (t0_73 p0_3)), .val (.int (r2 (t0_66 p0_2) (t0_73 p0_3))), .val (.int 1), .val (.int 1), .val (.int 1)] [])) (fun _ k => XS.ifNo X28.here hx rfl (hb hby at_156) rfl ((if0 _ _).trans (feq ((by decide) : ¬ (1 : Int32) = (0 : Int32))).1) k) ?_
     refine own_s (g' := (mkF m 161 #[.val (.int p0_0), .val (.int p0_1), .val (.int p0_2), .val (.int p0_3), .val (.int (t0_6 p0_0)), .val (.int (t0_14 p0_1)), .val (.int 0), .val (.int 1), .val (.int (t0_66 p0_2)), .val (.int (t0_73 p0_3)), .val (.int (r2 (t0_66 p0_2) (t0_73 p0_3))), .val (.int 1), .val (.int 1), .val (.int 1)] [(.int 1)])) (fun _ k => XS.iload X28.here hx rfl (hb hby at_159) rfl k) ?_
     refine own_s (g' := (mkF m 164 #[.val (.int p0_0), .val (.int p0_1), .val (.int p0_2), .val (.int p0_3), .val (.int (t0_6 p0_0)), .val (.int (t0_14 p0_1)), .val (.int 0), .val (.int 1), .val (.int (t0_66 p0_2)), .val (.int (t0_73 p0_3)), .val (.int (r2 (t0_66 p0_2) (t0_73 p0_3))), .val (.int 1), .val (.int 1), .val (.int 1)] [])) (fun _ k => XS.ifNo X28.here hx rfl (hb hby at_161) rfl ((if0 _ _).trans (feq ((by decide) : ¬ (1 : Int32) = (0 : Int32))).1) k) ?_
     refine own_s (g' := (mkF m 166 #[.val (.int p0_0), .val (.int p0_1), .val (.int p0_2), .val (.int p0_3), .val (.int (t0_6 p0_0)), .val (.int (t0_14 p0_1)), .val (.int 0), .val (.int 1), .val (.int (t0_66 p0_2)), .val (.int (t0_73 p0_3)), .val (.int (r2 (t0_66 p0_2) (t0_73 p0_3))), .val (.int 1), .val (.int 1), .val (.int 1)] [(.int 1)])) (fun _ k => XS.iload X28.here hx rfl (hb hby at_164) rfl k) ?_
     refine own_s (g' := (mkF m 169 #[.val (.int p0_0), .val (.int p0_1), .val (.int p0_2), .val (.int p0_3), .val (.int (t0_6 p0_0)), .val (.int (t0_14 p0_1)), .val (.int 0), .val (.int 1), .val (.int (t0_66 p0_2)), .val (.int (t0_73 p0_3)), .val (.int (r2 (t0_66 p0_2) (t0_73 p0_3))), .val (.int 1), .val (.int 1), .val (.int 1)] [])) (fun _ k => XS.ifNo X28.here hx rfl (hb hby at_166) rfl ((if0 _ _).trans (feq ((by decide) : ¬ (1 : Int32) = (0 : Int32))).1) k) ?_
     refine own_s (g' := (mkF m 170 #[.val (.int p0_0), .val (.int p0_1), .val (.int p0_2), .val (.int p0_3), .val (.int (t0_6 p0_0)), .val (.int (t0_14 p0_1)), .val (.int 0), .val (.int 1), .val (.int (t0_66 p0_2)), .val (.int (t0_73 p0_3)), .val (.int (r2 (t0_66 p0_2) (t0_73 p0_3))), .val (.int 1), .val (.int 1), .val (.int 1)] [(.int 1)])) (fun _ k => XS.iconst X28.here hx rfl (hb hby at_169) k) ?_
     refine own_s (g' := (mkF m 174 #[.val (.int p0_0), .val (.int p0_1), .val (.int p0_2), .val (.int p0_3), .val (.int (t0_6 p0_0)), .val (.int (t0_14 p0_1)), .val (.int 0), .val (.int 1), .val (.int (t0_66 p0_2)), .val (.int (t0_73 p0_3)), .val (.int (r2 (t0_66 p0_2) (t0_73 p0_3))), .val (.int 1), .val (.int 1), .val (.int 1)] [(.int 1)])) (fun _ k => XS.goto X28.here hx rfl (pc0 := 170) (pc' := 174) rfl (hb hby at_170) (by decide) (by decide) k) ?_
     refine own_retN X28 hx hlk (t := .boolean) hret (by simp) (hb hby at_174) (z' := (1 : Int32)) (by decide) (by decide) (by decide) ?_
     show Q0 Z p0_0 p0_1 p0_2 p0_3 h0 n0 _ T28.heap _
     rw [eh28]
     exact ⟨rfl, N28⟩
  ·skip
   refine own_s (g' := (mkF m 33 #[.val (.int p0_0), .val (.int p0_1), .val (.int p0_2), .val (.int p0_3), .val (.int (t0_6 p0_0)), .val (.int (t0_14 p0_1)), .unset, .unset, .unset, .unset, .unset, .unset, .unset, .unset] [])) (fun _ k => XS.icmpYes X0.here hx rfl (pc0 := 20) (pc' := 33) rfl (hb hby at_20) rfl (feq c7).2 (by decide) (by decide) k) ?_
   refine own_s (g' := (mkF m 34 #[.val (.int p0_0), .val (.int p0_1), .val (.int p0_2), .val (.int p0_3), .val (.int (t0_6 p0_0)), .val (.int (t0_14 p0_1)), .unset, .unset, .unset, .unset, .unset, .unset, .unset, .unset] [(.int 0)])) (fun _ k => XS.iconst X0.here hx rfl (hb hby at_33) k) ?_
   refine own_s (g' := (mkF m 36 #[.val (.int p0_0), .val (.int p0_1), .val (.int p0_2), .val (.int p0_3), .val (.int (t0_6 p0_0)), .val (.int (t0_14 p0_1)), .val (.int 0), .unset, .unset, .unset, .unset, .unset, .unset, .unset] [])) (fun _ k => XS.istore X0.here hx rfl (hb hby at_34) rfl (l' := #[.val (.int p0_0), .val (.int p0_1), .val (.int p0_2), .val (.int p0_3), .val (.int (t0_6 p0_0)), .val (.int (t0_14 p0_1)), .val (.int 0), .unset, .unset, .unset, .unset, .unset, .unset, .unset]) rfl k) ?_
   refine own_s (g' := (mkF m 38 #[.val (.int p0_0), .val (.int p0_1), .val (.int p0_2), .val (.int p0_3), .val (.int (t0_6 p0_0)), .val (.int (t0_14 p0_1)), .val (.int 0), .unset, .unset, .unset, .unset, .unset, .unset, .unset] [(.int (t0_6 p0_0))])) (fun _ k => XS.iload X0.here hx rfl (hb hby at_36) rfl k) ?_
   obtain ⟨_, _, ⟨T29, L29, k29, n29⟩, -, X29, ⟨Lc29, hQ29, l29, y29, z29⟩, st29⟩ := Jvm.LawKit.callS X0 hx (y := (⟨"com/example/junctura/junctura/model/LinearScoringIsMatchPinLaw", "base", "(I)C"⟩ : MethodName)) hown (mvT hZ ww1) (mvT hZ ww2) (mvT hZ ww3) (mvT hZ ww4) (by decide) (backOf (W := 0) (rm1 l Z a0 hw [] (t0_6 p0_0) h0 n0 Z0 ) hZ ww4 ww3 (by decide) (by decide)) (g := (mkF m 38 #[.val (.int p0_0), .val (.int p0_1), .val (.int p0_2), .val (.int p0_3), .val (.int (t0_6 p0_0)), .val (.int (t0_14 p0_1)), .val (.int 0), .unset, .unset, .unset, .unset, .unset, .unset, .unset] [(.int (t0_6 p0_0))])) rfl (by rw [hml]; rfl) (argsL := [(.int (t0_6 p0_0))]) (rest := []) (lenOf pd__I_C rfl) rfl (by show 2 * 0 + _ ≤ _; exact Nat.le_of_eq rfl) (hb hby at_38) (fun _ _ => ⟨rfl, e0, (by decide : 0 + 0 ≤ _), (by decide : 0 + 0 ≤ _)⟩)
   dsimp only [Pt.U, Pt.locs, Pt.cells, Pt.slots] at X29 l29 y29 z29 st29 hQ29
   subst l29 y29 z29
   obtain ⟨rfl, N29q, eh29⟩ := hQ29
   have N29 := Fr.app N0 N29q
   refine own_s (g' := (mkF m 41 #[.val (.int p0_0), .val (.int p0_1), .val (.int p0_2), .val (.int p0_3), .val (.int (t0_6 p0_0)), .val (.int (t0_14 p0_1)), .val (.int 0), .unset, .unset, .unset, .unset, .unset, .unset, .unset] [(.int (r1 (t0_6 p0_0)))])) st29 ?_
   refine own_s (g' := (mkF m 43 #[.val (.int p0_0), .val (.int p0_1), .val (.int p0_2), .val (.int p0_3), .val (.int (t0_6 p0_0)), .val (.int (t0_14 p0_1)), .val (.int 0), .unset, .unset, .unset, .unset, .unset, .unset, .unset] [(.int (t0_14 p0_1)), (.int (r1 (t0_6 p0_0)))])) (fun _ k => XS.iload X29.here hx rfl (hb hby at_41) rfl k) ?_
   obtain ⟨_, _, ⟨T30, L30, k30, n30⟩, -, X30, ⟨Lc30, hQ30, l30, y30, z30⟩, st30⟩ := Jvm.LawKit.callS X29 hx (y := (⟨"com/example/junctura/junctura/model/LinearScoringIsMatchPinLaw", "base", "(I)C"⟩ : MethodName)) hown (mvT hZ ww1) (mvT hZ ww2) (mvT hZ ww3) (mvT hZ ww4) (by decide) (backOf (W := 1) (rm1 l Z a0 hw [] (t0_14 p0_1) h0 n0 Z0 ) hZ ww4 ww3 (by decide) (by decide)) (g := (mkF m 43 #[.val (.int p0_0), .val (.int p0_1), .val (.int p0_2), .val (.int p0_3), .val (.int (t0_6 p0_0)), .val (.int (t0_14 p0_1)), .val (.int 0), .unset, .unset, .unset, .unset, .unset, .unset, .unset] [(.int (t0_14 p0_1)), (.int (r1 (t0_6 p0_0)))])) rfl (by rw [hml]; rfl) (argsL := [(.int (t0_14 p0_1))]) (rest := [(.int (r1 (t0_6 p0_0)))]) (lenOf pd__I_C rfl) rfl (by show 2 * 0 + _ ≤ _; exact Nat.le_of_eq rfl) (hb hby at_43) (fun _ _ => ⟨rfl, eh29, (by decide : 0 + 0 ≤ _), (by decide : 0 + 0 ≤ _)⟩)
   dsimp only [Pt.U, Pt.locs, Pt.cells, Pt.slots] at X30 l30 y30 z30 st30 hQ30
   subst l30 y30 z30
   obtain ⟨rfl, N30q, eh30⟩ := hQ30
   have N30 := Fr.app N29 N30q
   refine own_s (g' := (mkF m 46 #[.val (.int p0_0), .val (.int p0_1), .val (.int p0_2), .val (.int p0_3), .val (.int (t0_6 p0_0)), .val (.int (t0_14 p0_1)), .val (.int 0), .unset, .unset, .unset, .unset, .unset, .unset, .unset] [(.int (r1 (t0_14 p0_1))), (.int (r1 (t0_6 p0_0)))])) st30 ?_
   obtain ⟨_, _, ⟨T31, L31, k31, n31⟩, -, X31, ⟨Lc31, hQ31, l31, y31, z31⟩, st31⟩ := Jvm.LawKit.callS X30 hx (y := (⟨"com/example/junctura/junctura/model/LinearScoring", "isMatch", "(CC)Z"⟩ : MethodName)) hown (mvT hZ ww5) (mvT hZ ww6) (mvT hZ ww7) (mvT hZ ww8) (by decide) (backOf (W := 0) (rm2 l Z a0 hw [] (r1 (t0_6 p0_0)) (r1 (t0_14 p0_1)) h0 n0 Z0 ) hZ ww8 ww7 (by decide) (by decide)) (g := (mkF m 46 #[.val (.int p0_0), .val (.int p0_1), .val (.int p0_2), .val (.int p0_3), .val (.int (t0_6 p0_0)), .val (.int (t0_14 p0_1)), .val (.int 0), .unset, .unset, .unset, .unset, .unset, .unset, .unset] [(.int (r1 (t0_14 p0_1))), (.int (r1 (t0_6 p0_0)))])) rfl (by rw [hml]; rfl) (argsL := [(.int (r1 (t0_6 p0_0))), (.int (r1 (t0_14 p0_1)))]) (rest := []) (lenOf pd__CC_Z rfl) rfl (by show 2 * 0 + _ ≤ _; exact Nat.le_of_eq rfl) (hb hby at_46) (fun _ _ => ⟨rfl, eh30, (by decide : 0 + 0 ≤ _), (by decide : 0 + 0 ≤ _)⟩)
   dsimp only [Pt.U, Pt.locs, Pt.cells, Pt.slots] at X31 l31 y31 z31 st31 hQ31
   subst l31 y31 z31
   obtain ⟨rfl, N31q, eh31⟩ := hQ31
   have N31 := Fr.app N30 N31q
   refine own_s (g' := (mkF m 49 #[.val (.int p0_0), .val (.int p0_1), .val (.int p0_2), .val (.int p0_3), .val (.int (t0_6 p0_0)), .val (.int (t0_14 p0_1)), .val (.int 0), .unset, .unset, .unset, .unset, .unset, .unset, .unset] [(.int (r2 (r1 (t0_6 p0_0)) (r1 (t0_14 p0_1))))])) st31 ?_
   refine own_s (g' := (mkF m 51 #[.val (.int p0_0), .val (.int p0_1), .val (.int p0_2), .val (.int p0_3), .val (.int (t0_6 p0_0)), .val (.int (t0_14 p0_1)), .val (.int 0), .unset, .unset, .unset, .unset, .unset, .unset, .unset] [(.int 0), (.int (r2 (r1 (t0_6 p0_0)) (r1 (t0_14 p0_1))))])) (fun _ k => XS.iload X31.here hx rfl (hb hby at_49) rfl k) ?_
   refine own_s (g' := (mkF m 54 #[.val (.int p0_0), .val (.int p0_1), .val (.int p0_2), .val (.int p0_3), .val (.int (t0_6 p0_0)), .val (.int (t0_14 p0_1)), .val (.int 0), .unset, .unset, .unset, .unset, .unset, .unset, .unset] [])) (fun _ k => XS.icmpNo X31.here hx rfl (hb hby at_51) rfl (teq (((own_ex _ _ (own_p5 p0_0) (own_p5 p0_1)).trans (if_neg c7)) : (r2 (r1 (t0_6 p0_0)) (r1 (t0_14 p0_1))) = (0 : Int32))).2 k) ?_
   refine own_s (g' := (mkF m 55 #[.val (.int p0_0), .val (.int p0_1), .val (.int p0_2), .val (.int p0_3), .val (.int (t0_6 p0_0)), .val (.int (t0_14 p0_1)), .val (.int 0), .unset, .unset, .unset, .unset, .unset, .unset, .unset] [(.int 1)])) (fun _ k => XS.iconst X31.here hx rfl (hb hby at_54) k) ?_
   refine own_s (g' := (mkF m 59 #[.val (.int p0_0), .val (.int p0_1), .val (.int p0_2), .val (.int p0_3), .val (.int (t0_6 p0_0)), .val (.int (t0_14 p0_1)), .val (.int 0), .unset, .unset, .unset, .unset, .unset, .unset, .unset] [(.int 1)])) (fun _ k => XS.goto X31.here hx rfl (pc0 := 55) (pc' := 59) rfl (hb hby at_55) (by decide) (by decide) k) ?_
   refine own_s (g' := (mkF m 61 #[.val (.int p0_0), .val (.int p0_1), .val (.int p0_2), .val (.int p0_3), .val (.int (t0_6 p0_0)), .val (.int (t0_14 p0_1)), .val (.int 0), .val (.int 1), .unset, .unset, .unset, .unset, .unset, .unset] [])) (fun _ k => XS.istore X31.here hx rfl (hb hby at_59) rfl (l' := #[.val (.int p0_0), .val (.int p0_1), .val (.int p0_2), .val (.int p0_3), .val (.int (t0_6 p0_0)), .val (.int (t0_14 p0_1)), .val (.int 0), .val (.int 1), .unset, .unset, .unset, .unset, .unset, .unset]) rfl k) ?_
   refine own_s (g' := (mkF m 62 #[.val (.int p0_0), .val (.int p0_1), .val (.int p0_2), .val (.int p0_3), .val (.int (t0_6 p0_0)), .val (.int (t0_14 p0_1)), .val (.int 0), .val (.int 1), .unset, .unset, .unset, .unset, .unset, .unset] [(.int p0_2)])) (fun _ k => XS.iloadN X31.here hx rfl (hb hby at_61) rfl k) ?_
   refine own_s (g' := (mkF m 64 #[.val (.int p0_0), .val (.int p0_1), .val (.int p0_2), .val (.int p0_3), .val (.int (t0_6 p0_0)), .val (.int (t0_14 p0_1)), .val (.int 0), .val (.int 1), .unset, .unset, .unset, .unset, .unset, .unset] [(.int 65535), (.int p0_2)])) (X31.ldcInt hx hown (mvT hZ ww9) (g := (mkF m 62 #[.val (.int p0_0), .val (.int p0_1), .val (.int p0_2), .val (.int p0_3), .val (.int (t0_6 p0_0)), .val (.int (t0_14 p0_1)), .val (.int 0), .val (.int 1), .unset, .unset, .unset, .unset, .unset, .unset] [(.int p0_2)])) rfl (hb hby at_62)) ?_
   refine own_s (g' := (mkF m 65 #[.val (.int p0_0), .val (.int p0_1), .val (.int p0_2), .val (.int p0_3), .val (.int (t0_6 p0_0)), .val (.int (t0_14 p0_1)), .val (.int 0), .val (.int 1), .unset, .unset, .unset, .unset, .unset, .unset] [(.int (p0_2 &&& (65535 : Int32)))])) (fun _ k => XS.iand X31.here hx rfl (hb hby at_64) rfl k) ?_
   refine own_s (g' := (mkF m 66 #[.val (.int p0_0), .val (.int p0_1), .val (.int p0_2), .val (.int p0_3), .val (.int (t0_6 p0_0)), .val (.int (t0_14 p0_1)), .val (.int 0), .val (.int 1), .unset, .unset, .unset, .unset, .unset, .unset] [(.int (p0_2 &&& (65535 : Int32)).toUInt32.toUInt16.toUInt32.toInt32)])) (fun _ k => XS.i2c X31.here hx rfl (hb hby at_65) rfl k) ?_
   refine own_s (g' := (mkF m 68 #[.val (.int p0_0), .val (.int p0_1), .val (.int p0_2), .val (.int p0_3), .val (.int (t0_6 p0_0)), .val (.int (t0_14 p0_1)), .val (.int 0), .val (.int 1), .val (.int (t0_66 p0_2)), .unset, .unset, .unset, .unset, .unset] [])) (fun _ k => XS.istore X31.here hx rfl (hb hby at_66) rfl (l' := #[.val (.int p0_0), .val (.int p0_1), .val (.int p0_2), .val (.int p0_3), .val (.int (t0_6 p0_0)), .val (.int (t0_14 p0_1)), .val (.int 0), .val (.int 1), .val (.int (t0_66 p0_2)), .unset, .unset, .unset, .unset, .unset]) rfl k) ?_
   refine own_s (g' := (mkF m 69 #[.val (.int p0_0), .val (.int p0_1), .val (.int p0_2), .val (.int p0_3), .val (.int (t0_6 p0_0)), .val (.int (t0_14 p0_1)), .val (.int 0), .val (.int 1), .val (.int (t0_66 p0_2)), .unset, .unset, .unset, .unset, .unset] [(.int p0_3)])) (fun _ k => XS.iloadN X31.here hx rfl (hb hby at_68) rfl k) ?_
   refine own_s (g' := (mkF m 71 #[.val (.int p0_0), .val (.int p0_1), .val (.int p0_2), .val (.int p0_3), .val (.int (t0_6 p0_0)), .val (.int (t0_14 p0_1)), .val (.int 0), .val (.int 1), .val (.int (t0_66 p0_2)), .unset, .unset, .unset, .unset, .unset] [(.int 65535), (.int p0_3)])) (X31.ldcInt hx hown (mvT hZ ww9) (g := (mkF m 69 #[.val (.int p0_0), .val (.int p0_1), .val (.int p0_2), .val (.int p0_3), .val (.int (t0_6 p0_0)), .val (.int (t0_14 p0_1)), .val (.int 0), .val (.int 1), .val (.int (t0_66 p0_2)), .unset, .unset, .unset, .unset, .unset] [(.int p0_3)])) rfl (hb hby at_69)) ?_
   refine own_s (g' := (mkF m 72 #[.val (.int p0_0), .val (.int p0_1), .val (.int p0_2), .val (.int p0_3), .val (.int (t0_6 p0_0)), .val (.int (t0_14 p0_1)), .val (.int 0), .val (.int 1), .val (.int (t0_66 p0_2)), .unset, .unset, .unset, .unset, .unset] [(.int (p0_3 &&& (65535 : Int32)))])) (fun _ k => XS.iand X31.here hx rfl (hb hby at_71) rfl k) ?_
   refine own_s (g' := (mkF m 73 #[.val (.int p0_0), .val (.int p0_1), .val (.int p0_2), .val (.int p0_3), .val (.int (t0_6 p0_0)), .val (.int (t0_14 p0_1)), .val (.int 0), .val (.int 1), .val (.int (t0_66 p0_2)), .unset, .unset, .unset, .unset, .unset] [(.int (p0_3 &&& (65535 : Int32)).toUInt32.toUInt16.toUInt32.toInt32)])) (fun _ k => XS.i2c X31.here hx rfl (hb hby at_72) rfl k) ?_
   refine own_s (g' := (mkF m 75 #[.val (.int p0_0), .val (.int p0_1), .val (.int p0_2), .val (.int p0_3), .val (.int (t0_6 p0_0)), .val (.int (t0_14 p0_1)), .val (.int 0), .val (.int 1), .val (.int (t0_66 p0_2)), .val (.int (t0_73 p0_3)), .unset, .unset, .unset, .unset] [])) (fun _ k => XS.istore X31.here hx rfl (hb hby at_73) rfl (l' := #[.val (.int p0_0), .val (.int p0_1), .val (.int p0_2), .val (.int p0_3), .val (.int (t0_6 p0_0)), .val (.int (t0_14 p0_1)), .val (.int 0), .val (.int 1), .val (.int (t0_66 p0_2)), .val (.int (t0_73 p0_3)), .unset, .unset, .unset, .unset]) rfl k) ?_
   refine own_s (g' := (mkF m 77 #[.val (.int p0_0), .val (.int p0_1), .val (.int p0_2), .val (.int p0_3), .val (.int (t0_6 p0_0)), .val (.int (t0_14 p0_1)), .val (.int 0), .val (.int 1), .val (.int (t0_66 p0_2)), .val (.int (t0_73 p0_3)), .unset, .unset, .unset, .unset] [(.int (t0_66 p0_2))])) (fun _ k => XS.iload X31.here hx rfl (hb hby at_75) rfl k) ?_
   refine own_s (g' := (mkF m 79 #[.val (.int p0_0), .val (.int p0_1), .val (.int p0_2), .val (.int p0_3), .val (.int (t0_6 p0_0)), .val (.int (t0_14 p0_1)), .val (.int 0), .val (.int 1), .val (.int (t0_66 p0_2)), .val (.int (t0_73 p0_3)), .unset, .unset, .unset, .unset] [(.int (t0_73 p0_3)), (.int (t0_66 p0_2))])) (fun _ k => XS.iload X31.here hx rfl (hb hby at_77) rfl k) ?_
   obtain ⟨_, _, ⟨T32, L32, k32, n32⟩, -, X32, ⟨Lc32, hQ32, l32, y32, z32⟩, st32⟩ := Jvm.LawKit.callS X31 hx (y := (⟨"com/example/junctura/junctura/model/LinearScoring", "isMatch", "(CC)Z"⟩ : MethodName)) hown (mvT hZ ww5) (mvT hZ ww6) (mvT hZ ww7) (mvT hZ ww8) (by decide) (backOf (W := 0) (rm2 l Z a0 hw [] (t0_66 p0_2) (t0_73 p0_3) h0 n0 Z0 ) hZ ww8 ww7 (by decide) (by decide)) (g := (mkF m 79 #[.val (.int p0_0), .val (.int p0_1), .val (.int p0_2), .val (.int p0_3), .val (.int (t0_6 p0_0)), .val (.int (t0_14 p0_1)), .val (.int 0), .val (.int 1), .val (.int (t0_66 p0_2)), .val (.int (t0_73 p0_3)), .unset, .unset, .unset, .unset] [(.int (t0_73 p0_3)), (.int (t0_66 p0_2))])) rfl (by rw [hml]; rfl) (argsL := [(.int (t0_66 p0_2)), (.int (t0_73 p0_3))]) (rest := []) (lenOf pd__CC_Z rfl) rfl (by show 2 * 0 + _ ≤ _; exact Nat.le_of_eq rfl) (hb hby at_79) (fun _ _ => ⟨rfl, eh31, (by decide : 0 + 0 ≤ _), (by decide : 0 + 0 ≤ _)⟩)
   dsimp only [Pt.U, Pt.locs, Pt.cells, Pt.slots] at X32 l32 y32 z32 st32 hQ32
   subst l32 y32 z32
   obtain ⟨rfl, N32q, eh32⟩ := hQ32
   have N32 := Fr.app N31 N32q
   refine own_s (g' := (mkF m 82 #[.val (.int p0_0), .val (.int p0_1), .val (.int p0_2), .val (.int p0_3), .val (.int (t0_6 p0_0)), .val (.int (t0_14 p0_1)), .val (.int 0), .val (.int 1), .val (.int (t0_66 p0_2)), .val (.int (t0_73 p0_3)), .unset, .unset, .unset, .unset] [(.int (r2 (t0_66 p0_2) (t0_73 p0_3)))])) st32 ?_
   refine own_s (g' := (mkF m 84 #[.val (.int p0_0), .val (.int p0_1), .val (.int p0_2), .val (.int p0_3), .val (.int (t0_6 p0_0)), .val (.int (t0_14 p0_1)), .val (.int 0), .val (.int 1), .val (.int (t0_66 p0_2)), .val (.int (t0_73 p0_3)), .val (.int (r2 (t0_66 p0_2) (t0_73 p0_3))), .unset, .unset, .unset] [])) (fun _ k => XS.istore X32.here hx rfl (hb hby at_82) rfl (l' := #[.val (.int p0_0), .val (.int p0_1), .val (.int p0_2), .val (.int p0_3), .val (.int (t0_6 p0_0)), .val (.int (t0_14 p0_1)), .val (.int 0), .val (.int 1), .val (.int (t0_66 p0_2)), .val (.int (t0_73 p0_3)), .val (.int (r2 (t0_66 p0_2) (t0_73 p0_3))), .unset, .unset, .unset]) rfl k) ?_
   refine own_s (g' := (mkF m 86 #[.val (.int p0_0), .val (.int p0_1), .val (.int p0_2), .val (.int p0_3), .val (.int (t0_6 p0_0)), .val (.int (t0_14 p0_1)), .val (.int 0), .val (.int 1), .val (.int (t0_66 p0_2)), .val (.int (t0_73 p0_3)), .val (.int (r2 (t0_66 p0_2) (t0_73 p0_3))), .unset, .unset, .unset] [(.int (r2 (t0_66 p0_2) (t0_73 p0_3)))])) (fun _ k => XS.iload X32.here hx rfl (hb hby at_84) rfl k) ?_
   refine own_s (g' := (mkF m 88 #[.val (.int p0_0), .val (.int p0_1), .val (.int p0_2), .val (.int p0_3), .val (.int (t0_6 p0_0)), .val (.int (t0_14 p0_1)), .val (.int 0), .val (.int 1), .val (.int (t0_66 p0_2)), .val (.int (t0_73 p0_3)), .val (.int (r2 (t0_66 p0_2) (t0_73 p0_3))), .unset, .unset, .unset] [(.int (t0_73 p0_3)), (.int (r2 (t0_66 p0_2) (t0_73 p0_3)))])) (fun _ k => XS.iload X32.here hx rfl (hb hby at_86) rfl k) ?_
   refine own_s (g' := (mkF m 90 #[.val (.int p0_0), .val (.int p0_1), .val (.int p0_2), .val (.int p0_3), .val (.int (t0_6 p0_0)), .val (.int (t0_14 p0_1)), .val (.int 0), .val (.int 1), .val (.int (t0_66 p0_2)), .val (.int (t0_73 p0_3)), .val (.int (r2 (t0_66 p0_2) (t0_73 p0_3))), .unset, .unset, .unset] [(.int (t0_66 p0_2)), (.int (t0_73 p0_3)), (.int (r2 (t0_66 p0_2) (t0_73 p0_3)))])) (fun _ k => XS.iload X32.here hx rfl (hb hby at_88) rfl k) ?_
   obtain ⟨_, _, ⟨T33, L33, k33, n33⟩, -, X33, ⟨Lc33, hQ33, l33, y33, z33⟩, st33⟩ := Jvm.LawKit.callS X32 hx (y := (⟨"com/example/junctura/junctura/model/LinearScoring", "isMatch", "(CC)Z"⟩ : MethodName)) hown (mvT hZ ww5) (mvT hZ ww6) (mvT hZ ww7) (mvT hZ ww8) (by decide) (backOf (W := 1) (rm2 l Z a0 hw [] (t0_73 p0_3) (t0_66 p0_2) h0 n0 Z0 ) hZ ww8 ww7 (by decide) (by decide)) (g := (mkF m 90 #[.val (.int p0_0), .val (.int p0_1), .val (.int p0_2), .val (.int p0_3), .val (.int (t0_6 p0_0)), .val (.int (t0_14 p0_1)), .val (.int 0), .val (.int 1), .val (.int (t0_66 p0_2)), .val (.int (t0_73 p0_3)), .val (.int (r2 (t0_66 p0_2) (t0_73 p0_3))), .unset, .unset, .unset] [(.int (t0_66 p0_2)), (.int (t0_73 p0_3)), (.int (r2 (t0_66 p0_2) (t0_73 p0_3)))])) rfl (by rw [hml]; rfl) (argsL := [(.int (t0_73 p0_3)), (.int (t0_66 p0_2))]) (rest := [(.int (r2 (t0_66 p0_2) (t0_73 p0_3)))]) (lenOf pd__CC_Z rfl) rfl (by show 2 * 0 + _ ≤ _; exact Nat.le_of_eq rfl) (hb hby at_90) (fun _ _ => ⟨rfl, eh32, (by decide : 0 + 0 ≤ _), (by decide : 0 + 0 ≤ _)⟩)
   dsimp only [Pt.U, Pt.locs, Pt.cells, Pt.slots] at X33 l33 y33 z33 st33 hQ33
   subst l33 y33 z33
   obtain ⟨rfl, N33q, eh33⟩ := hQ33
   have N33 := Fr.app N32 N33q
   refine own_s (g' := (mkF m 93 #[.val (.int p0_0), .val (.int p0_1), .val (.int p0_2), .val (.int p0_3), .val (.int (t0_6 p0_0)), .val (.int (t0_14 p0_1)), .val (.int 0), .val (.int 1), .val (.int (t0_66 p0_2)), .val (.int (t0_73 p0_3)), .val (.int (r2 (t0_66 p0_2) (t0_73 p0_3))), .unset, .unset, .unset] [(.int (r2 (t0_73 p0_3) (t0_66 p0_2))), (.int (r2 (t0_66 p0_2) (t0_73 p0_3)))])) st33 ?_
   refine own_s (g' := (mkF m 96 #[.val (.int p0_0), .val (.int p0_1), .val (.int p0_2), .val (.int p0_3), .val (.int (t0_6 p0_0)), .val (.int (t0_14 p0_1)), .val (.int 0), .val (.int 1), .val (.int (t0_66 p0_2)), .val (.int (t0_73 p0_3)), .val (.int (r2 (t0_66 p0_2) (t0_73 p0_3))), .unset, .unset, .unset] [])) (fun _ k => XS.icmpNo X33.here hx rfl (hb hby at_93) rfl (teq ((own_sym _ _) : (r2 (t0_66 p0_2) (t0_73 p0_3)) = (r2 (t0_73 p0_3) (t0_66 p0_2)))).2 k) ?_
   refine own_s (g' := (mkF m 97 #[.val (.int p0_0), .val (.int p0_1), .val (.int p0_2), .val (.int p0_3), .val (.int (t0_6 p0_0)), .val (.int (t0_14 p0_1)), .val (.int 0), .val (.int 1), .val (.int (t0_66 p0_2)), .val (.int (t0_73 p0_3)), .val (.int (r2 (t0_66 p0_2) (t0_73 p0_3))), .unset, .unset, .unset] [(.int 1)])) (fun _ k => XS.iconst X33.here hx rfl (hb hby at_96) k) ?_
   refine own_s (g' := (mkF m 101 #[.val (.int p0_0), .val (.int p0_1), .val (.int p0_2), .val (.int p0_3), .val (.int (t0_6 p0_0)), .val (.int (t0_14 p0_1)), .val (.int 0), .val (.int 1), .val (.int (t0_66 p0_2)), .val (.int (t0_73 p0_3)), .val (.int (r2 (t0_66 p0_2) (t0_73 p0_3))), .unset, .unset, .unset] [(.int 1)])) (fun _ k => XS.goto X33.here hx rfl (pc0 := 97) (pc' := 101) rfl (hb hby at_97) (by decide) (by decide) k) ?_
   refine own_s (g' := (mkF m 103 #[.val (.int p0_0), .val (.int p0_1), .val (.int p0_2), .val (.int p0_3), .val (.int (t0_6 p0_0)), .val (.int (t0_14 p0_1)), .val (.int 0), .val (.int 1), .val (.int (t0_66 p0_2)), .val (.int (t0_73 p0_3)), .val (.int (r2 (t0_66 p0_2) (t0_73 p0_3))), .val (.int 1), .unset, .unset] [])) (fun _ k => XS.istore X33.here hx rfl (hb hby at_101) rfl (l' := #[.val (.int p0_0), .val (.int p0_1), .val (.int p0_2), .val (.int p0_3), .val (.int (t0_6 p0_0)), .val (.int (t0_14 p0_1)), .val (.int 0), .val (.int 1), .val (.int (t0_66 p0_2)), .val (.int (t0_73 p0_3)), .val (.int (r2 (t0_66 p0_2) (t0_73 p0_3))), .val (.int 1), .unset, .unset]) rfl k) ?_
   refine own_s (g' := (mkF m 105 #[.val (.int p0_0), .val (.int p0_1), .val (.int p0_2), .val (.int p0_3), .val (.int (t0_6 p0_0)), .val (.int (t0_14 p0_1)), .val (.int 0), .val (.int 1), .val (.int (t0_66 p0_2)), .val (.int (t0_73 p0_3)), .val (.int (r2 (t0_66 p0_2) (t0_73 p0_3))), .val (.int 1), .unset, .unset] [(.int (r2 (t0_66 p0_2) (t0_73 p0_3)))])) (fun _ k => XS.iload X33.here hx rfl (hb hby at_103) rfl k) ?_
   by_cases c34 : (r2 (t0_66 p0_2) (t0_73 p0_3)) = (0 : Int32)
   ·skip
    refine own_s (g' := (mkF m 115 #[.val (.int p0_0), .val (.int p0_1), .val (.int p0_2), .val (.int p0_3), .val (.int (t0_6 p0_0)), .val (.int (t0_14 p0_1)), .val (.int 0), .val (.int 1), .val (.int (t0_66 p0_2)), .val (.int (t0_73 p0_3)), .val (.int (r2 (t0_66 p0_2) (t0_73 p0_3))), .val (.int 1), .unset, .unset] [])) (fun _ k => XS.ifYes X33.here hx rfl (pc0 := 105) (pc' := 115) rfl (hb hby at_105) rfl ((if0 _ _).trans (teq c34).1) (by decide) (by decide) k) ?_
    refine own_s (g' := (mkF m 116 #[.val (.int p0_0), .val (.int p0_1), .val (.int p0_2), .val (.int p0_3), .val (.int (t0_6 p0_0)), .val (.int (t0_14 p0_1)), .val (.int 0), .val (.int 1), .val (.int (t0_66 p0_2)), .val (.int (t0_73 p0_3)), .val (.int (r2 (t0_66 p0_2) (t0_73 p0_3))), .val (.int 1), .unset, .unset] [(.int 1)])) (fun _ k => XS.iconst X33.here hx rfl (hb hby at_115) k) ?_
    refine own_s (g' := (mkF m 120 #[.val (.int p0_0), .val (.int p0_1), .val (.int p0_2), .val (.int p0_3), .val (.int (t0_6 p0_0)), .val (.int (t0_14 p0_1)), .val (.int 0), .val (.int 1), .val (.int (t0_66 p0_2)), .val (.int (t0_73 p0_3)), .val (.int (r2 (t0_66 p0_2) (t0_73 p0_3))), .val (.int 1), .unset, .unset] [(.int 1)])) (fun _ k => XS.goto X33.here hx rfl (pc0 := 116) (pc' := 120) rfl (hb hby at_116) (by decide) (by decide) k) ?_
    refine own_s (g' := (mkF m 122 #[.val (.int p0_0), .val (.int p0_1), .val (.int p0_2), .val (.int p0_3), .val (.int (t0_6 p0_0)), .val (.int (t0_14 p0_1)), .val (.int 0), .val (.int 1), .val (.int (t0_66 p0_2)), .val (.int (t0_73 p0_3)), .val (.int (r2 (t0_66 p0_2) (t0_73 p0_3))), .val (.int 1), .val (.int 1), .unset] [])) (fun _ k => XS.istore X33.here hx rfl (hb hby at_120) rfl (l' := #[.val (.int p0_0), .val (.int p0_1), .val (.int p0_2), .val (.int p0_3), .val (.int (t0_6 p0_0)), .val (.int (t0_14 p0_1)), .val (.int 0), .val (.int 1), .val (.int (t0_66 p0_2)), .val (.int (t0_73 p0_3)), .val (.int (r2 (t0_66 p0_2) (t0_73 p0_3))), .val (.int 1), .val (.int 1), .unset]) rfl k) ?_
    refine own_s (g' := (mkF m 124 #[.val (.int p0_0), .val (.int p0_1), .val (.int p0_2), .val (.int p0_3), .val (.int (t0_6 p0_0)), .val (.int (t0_14 p0_1)), .val (.int 0), .val (.int 1), .val (.int (t0_66 p0_2)), .val (.int (t0_73 p0_3)), .val (.int (r2 (t0_66 p0_2) (t0_73 p0_3))), .val (.int 1), .val (.int 1), .unset] [(.int (t0_66 p0_2))])) (fun _ k => XS.iload X33.here hx rfl (hb hby at_122) rfl k) ?_
    refine own_s (g' := (mkF m 126 #[.val (.int p0_0), .val (.int p0_1), .val (.int p0_2), .val (.int p0_3), .val (.int (t0_6 p0_0)), .val (.int (t0_14 p0_1)), .val (.int 0), .val (.int 1), .val (.int (t0_66 p0_2)), .val (.int (t0_73 p0_3)), .val (.int (r2 (t0_66 p0_2) (t0_73 p0_3))), .val (.int 1), .val (.int 1), .unset] [(.int 78), (.int (t0_66 p0_2))])) (fun _ k => XS.bipush X33.here hx rfl (hb hby at_124) k) ?_
    obtain ⟨_, _, ⟨T35, L35, k35, n35⟩, -, X35, ⟨Lc35, hQ35, l35, y35, z35⟩, st35⟩ := Jvm.LawKit.callS X33 hx (y := (⟨"com/example/junctura/junctura/model/LinearScoring", "isMatch", "(CC)Z"⟩ : MethodName)) hown (mvT hZ ww5) (mvT hZ ww6) (mvT hZ ww7) (mvT hZ ww8) (by decide) (backOf (W := 0) (rm2 l Z a0 hw [] (t0_66 p0_2) (78 : Int32) h0 n0 Z0 ) hZ ww8 ww7 (by decide) (by decide)) (g := (mkF m 126 #[.val (.int p0_0), .val (.int p0_1), .val (.int p0_2), .val (.int p0_3), .val (.int (t0_6 p0_0)), .val (.int (t0_14 p0_1)), .val (.int 0), .val (.int 1), .val (.int (t0_66 p0_2)), .val (.int (t0_73 p0_3)), .val (.int (r2 (t0_66 p0_2) (t0_73 p0_3))), .val (.int 1), .val (.int 1), .unset] [(.int 78), (.int (t0_66 p0_2))])) rfl (by rw [hml]; rfl) (argsL := [(.int (t0_66 p0_2)), (.int 78)]) (rest := []) (lenOf pd__CC_Z rfl) rfl (by show 2 * 0 + _ ≤ _; exact Nat.le_of_eq rfl) (hb hby at_126) (fun _ _ => ⟨rfl, eh33, (by decide : 0 + 0 ≤ _), (by decide : 0 + 0 ≤ _)⟩)
    dsimp only [Pt.U, Pt.locs, Pt.cells, Pt.slots] at X35 l35 y35 z35 st35 hQ35
    subst l35 y35 z35
    obtain ⟨rfl, N35q, eh35⟩ := hQ35
    have N35 := Fr.app N33 N35q
    refine own_s (g' := (mkF m 129 #[.val (.int p0_0), .val (.int p0_1), .val (.int p0_2), .val (.int p0_3), .val (.int (t0_6 p0_0)), .val (.int (t0_14 p0_1)), .val (.int 0), .val (.int 1), .val (.int (t0_66 p0_2)), .val (.int (t0_73 p0_3)), .val (.int (r2 (t0_66 p0_2) (t0_73 p0_3))), .val (.int 1), .val (.int 1), .unset] [(.int (r2 (t0_66 p0_2) (78 : Int32)))])) st35 ?_
    refine own_s (g' := (mkF m 132 #[.val (.int p0_0), .val (.int p0_1), .val (.int p0_2), .val (.int p0_3), .val (.int (t0_6 p0_0)), .val (.int (t0_14 p0_1)), .val (.int 0), .val (.int 1), .val (.int (t0_66 p0_2)), .val (.int (t0_73 p0_3)), .val (.int (r2 (t0_66 p0_2) (t0_73 p0_3))), .val (.int 1), .val (.int 1), .unset] [])) (fun _ k => XS.ifNo X35.here hx rfl (hb hby at_129) rfl ((if0 _ _).trans (teq ((own_n1 _) : (r2 (t0_66 p0_2) (78 : Int32)) = (0 : Int32))).2) k) ?_
    refine own_s (g' := (mkF m 134 #[.val (.int p0_0), .val (.int p0_1), .val (.int p0_2), .val (.int p0_3), .val (.int (t0_6 p0_0)), .val (.int (t0_14 p0_1)), .val (.int 0), .val (.int 1), .val (.int (t0_66 p0_2)), .val (.int (t0_73 p0_3)), .val (.int (r2 (t0_66 p0_2) (t0_73 p0_3))), .val (.int 1), .val (.int 1), .unset] [(.int 78)])) (fun _ k => XS.bipush X35.here hx rfl (hb hby at_132) k) ?_
    refine own_s (g' := (mkF m 136 #[.val (.int p0_0), .val (.int p0_1), .val (.int p0_2), .val (.int p0_3), .val (.int (t0_6 p0_0)), .val (.int (t0_14 p0_1)), .val (.int 0), .val (.int 1), .val (.int (t0_66 p0_2)), .val (.int (t0_73 p0_3)), .val (.int (r2 (t0_66 p0_2) (t0_73 p0_3))), .val (.int 1), .val (.int 1), .unset] [(.int (t0_66 p0_2)), (.int 78)])) (fun _ k => XS.iload X35.here hx rfl (hb hby at_134) rfl k) ?_
    obtain ⟨_, _, ⟨T36, L36, k36, n36⟩, -, X36, ⟨Lc36, hQ36, l36, y36, z36⟩, st36⟩ := Jvm.LawKit.callS X35 hx (y := (⟨"com/example/junctura/junctura/model/LinearScoring", "isMatch", "(CC)Z"⟩ : MethodName)) hown (mvT hZ ww5) (mvT hZ ww6) (mvT hZ ww7) (mvT hZ ww8) (by decide) (backOf (W := 0) (rm2 l Z a0 hw [] (78 : Int32) (t0_66 p0_2) h0 n0 Z0 ) hZ ww8 ww7 (by decide) (by decide)) (g := (mkF m 136 #[.val (.int p0_0), .val (.int p0_1), .val (.int p0_2), .val (.int p0_3), .val (.int (t0_6 p0_0)), .val (.int (t0_14 p0_1)), .val (.int 0), .val (.int 1), .val (.int (t0_66 p0_2)), .val (.int (t0_73 p0_3)), .val (.int (r2 (t0_66 p0_2) (t0_73 p0_3))), .val (.int 1), .val (.int 1), .unset] [(.int (t0_66 p0_2)), (.int 78)])) rfl (by rw [hml]; rfl) (argsL := [(.int 78), (.int (t0_66 p0_2))]) (rest := []) (lenOf pd__CC_Z rfl) rfl (by show 2 * 0 + _ ≤ _; exact Nat.le_of_eq rfl) (hb hby at_136) (fun _ _ => ⟨rfl, eh35, (by decide : 0 + 0 ≤ _), (by decide : 0 + 0 ≤ _)⟩)
    dsimp only [Pt.U, Pt.locs, Pt.cells, Pt.slots] at X36 l36 y36 z36 st36 hQ36
    subst l36 y36 z36
    obtain ⟨rfl, N36q, eh36⟩ := hQ36
    have N36 := Fr.app N35 N36q
    refine own_s (g' := (mkF m 139 #[.val (.int p0_0), .val (.int p0_1), .val (.int p0_2), .val (.int p0_3), .val (.int (t0_6 p0_0)), .val (.int (t0_14 p0_1)), .val (.int 0), .val (.int 1), .val (.int (t0_66 p0_2)), .val (.int (t0_73 p0_3)), .val (.int (r2 (t0_66 p0_2) (t0_73 p0_3))), .val (.int 1), .val (.int 1), .unset] [(.int (r2 (78 : Int32) (t0_66 p0_2)))])) st36 ?_
    refine own_s (g' := (mkF m 142 #[.val (.int p0_0), .val (.int p0_1), .val (.int p0_2), .val (.int p0_3), .val (.int (t0_6 p0_0)), .val (.int (t0_14 p0_1)), .val (.int 0), .val (.int 1), .val (.int (t0_66 p0_2)), .val (.int (t0_73 p0_3)), .val (.int (r2 (t0_66 p0_2) (t0_73 p0_3))), .val (.int 1), .val (.int 1), .unset] [])) (fun _ k => XS.ifNo X36.here hx rfl (hb hby at_139) rfl ((if0 _ _).trans (teq ((own_n2 _) : (r2 (78 : Int32) (t0_66 p0_2)) = (0 : Int32))).2) k) ?_
    refine own_s (g' := (mkF m 143 #[.val (.int p0_0), .val (.int p0_1), .val (.int p0_2), .val (.int p0_3), .val (.int (t0_6 p0_0)), .val (.int (t0_14 p0_1)), .val (.int 0), .val (.int 1), .val (.int (t0_66 p0_2)), .val (.int (t0_73 p0_3)), .val (.int (r2 (t0_66 p0_2) (t0_73 p0_3))), .val (.int 1), .val (.int 1), .unset] [(.int 1)])) (fun _ k => XS.iconst X36.here hx rfl (hb hby at_142) k) ?_
    refine own_s (g' := (mkF m 147 #[.val (.int p0_0), .val (.int p0_1), .val (.int p0_2), .val (.int p0_3), .val (.int (t0_6 p0_0)), .val (.int (t0_14 p0_1)), .val (.int 0), .val (.int 1), .val (.int (t0_66 p0_2)), .val (.int (t0_73 p0_3)), .val (.int (r2 (t0_66 p0_2) (t0_73 p0_3))), .val (.int 1), .val (.int 1), .unset] [(.int 1)])) (fun _ k => XS.goto X36.here hx rfl (pc0 := 143) (pc' := 147) rfl (hb hby at_143) (by decide) (by decide) k) ?_
    refine own_s (g' := (mkF m 149 #[.val (.int p0_0), .val (.int p0_1), .val (.int p0_2), .val (.int p0_3), .val (.int (t0_6 p0_0)), .val (.int (t0_14 p0_1)), .val (.int 0), .val (.int 1), .val (.int (t0_66 p0_2)), .val (.int (t0_73 p0_3)), .val (.int (r2 (t0_66 p0_2) (t0_73 p0_3))), .val (.int 1), .val (.int 1), .val (.int 1)] [])) (fun _ k => XS.istore X36.here hx rfl (hb hby at_147) rfl (l' := #[.val (.int p0_0), .val (.int p0_1), .val (.int p0_2), .val (.int p0_3), .val (.int (t0_6 p0_0)), .val (.int (t0_14 p0_1)), .val (.int 0), .val (.int 1), .val (.int (t0_66 p0_2)), .val (.int (t0_73 p0_3)), .val (.int (r2 (t0_66 p0_2) (t0_73 p0_3))), .val (.int 1), .val (.int 1), .val (.int 1)]) rfl k) ?_
    refine own_s (g' := (mkF m 151 #[.val (.int p0_0), .val (.int p0_1), .val (.int p0_2), .val (.int p0_3), .val (.int (t0_6 p0_0)), .val (.int (t0_14 p0_1)), .val (.int 0), .val (.int 1), .val (.int (t0_66 p0_2)), .val (.int (t0_73 p0_3)), .val (.int (r2 (t0_66 p0_2) (t0_73 p0_3))), .val (.int 1), .val (.int 1), .val (.int 1)] [(.int 1)])) (fun _ k => XS.iload X36.here hx rfl (hb hby at_149) rfl k) ?_
    refine own_s (g' := (mkF m 154 #[.val (.int p0_0), .val (.int p0_1), .val (.int p0_2), .val (.int p0_3), .val (.int (t0_6 p0_0)), .val (.int (t0_14 p0_1)), .val (.int 0), .val (.int 1), .val (.int (t0_66 p0_2)), .val (.int (t0_73 p0_3)), .val (.int (r2 (t0_66 p0_2) (t0_73 p0_3))), .val (.int 1), .val (.int 1), .val (.int 1)] [])) (fun _ k => XS.ifNo X36.here hx rfl (hb hby at_151) rfl ((if0 _ _).trans (feq ((by decide) : ¬ (1 : Int32) = (0 : Int32))).1) k) ?_
    refine own_s (g' := (mkF m 156 #[.val (.int p0_0), .val (.int p0_1), .val (.int p0_2), .val (.int p0_3), .val (.int (t0_6 p0_0)), .val (.int (t0_14 p0_1)), .val (.int 0), .val (.int 1), .val (.int (t0_66 p0_2)), .val (.int (t0_73 p0_3)), .val (.int (r2 (t0_66 p0_2) (t0_73 p0_3))), .val (.int 1), .val (.int 1), .val (.int 1)] [(.int 1)])) (fun _ k => XS.iload X36.here hx rfl (hb hby at_154) rfl k) ?_
    refine own_s (g' := (mkF m 159 #[.val (.int p0_0), .val (.int p0_1), .val (.int p0_2), .val (.int p0_3), .val (.int (t0_6 p0_0)), .val (.int (t0_14 p0_1)), .val (.int 0), .val (.int 1), .val (.int (t0_66 p0_2)), .val (.int (t0_73 p0_3)), .val (.int (r2 (t0_66 p0_2) (t0_73 p0_3))), .val (.int 1), .val (.int 1), .val (.int 1)] [])) (fun _ k => XS.ifNo X36.here hx rfl (hb hby at_156) rfl ((if0 _ _).trans (feq ((by decide) : ¬ (1 : Int32) = (0 : Int32))).1) k) ?_
    refine own_s (g' := (mkF m 161 #[.val (.int p0_0), .val (.int p0_1), .val (.int p0_2), .val (.int p0_3), .val (.int (t0_6 p0_0)), .val (.int (t0_14 p0_1)), .val (.int 0), .val (.int 1), .val (.int (t0_66 p0_2)), .val (.int (t0_73 p0_3)), .val (.int (r2 (t0_66 p0_2) (t0_73 p0_3))), .val (.int 1), .val (.int 1), .val (.int 1)] [(.int 1)])) (fun _ k => XS.iload X36.here hx rfl (hb hby at_159) rfl k) ?_
    refine own_s (g' := (mkF m 164 #[.val (.int p0_0), .val (.int p0_1), .val (.int p0_2), .val (.int p0_3), .val (.int (t0_6 p0_0)), .val (.int (t0_14 p0_1)), .val (.int 0), .val (.int 1), .val (.int (t0_66 p0_2)), .val (.int (t0_73 p0_3)), .val (.int (r2 (t0_66 p0_2) (t0_73 p0_3))), .val (.int 1), .val (.int 1), .val (.int 1)] [])) (fun _ k => XS.ifNo X36.here hx rfl (hb hby at_161) rfl ((if0 _ _).trans (feq ((by decide) : ¬ (1 : Int32) = (0 : Int32))).1) k) ?_
    refine own_s (g' := (mkF m 166 #[.val (.int p0_0), .val (.int p0_1), .val (.int p0_2), .val (.int p0_3), .val (.int (t0_6 p0_0)), .val (.int (t0_14 p0_1)), .val (.int 0), .val (.int 1), .val (.int (t0_66 p0_2)), .val (.int (t0_73 p0_3)), .val (.int (r2 (t0_66 p0_2) (t0_73 p0_3))), .val (.int 1), .val (.int 1), .val (.int 1)] [(.int 1)])) (fun _ k => XS.iload X36.here hx rfl (hb hby at_164) rfl k) ?_
    refine own_s (g' := (mkF m 169 #[.val (.int p0_0), .val (.int p0_1), .val (.int p0_2), .val (.int p0_3), .val (.int (t0_6 p0_0)), .val (.int (t0_14 p0_1)), .val (.int 0), .val (.int 1), .val (.int (t0_66 p0_2)), .val (.int (t0_73 p0_3)), .val (.int (r2 (t0_66 p0_2) (t0_73 p0_3))), .val (.int 1), .val (.int 1), .val (.int 1)] [])) (fun _ k => XS.ifNo X36.here hx rfl (hb hby at_166) rfl ((if0 _ _).trans (feq ((by decide) : ¬ (1 : Int32) = (0 : Int32))).1) k) ?_
    refine own_s (g' := (mkF m 170 #[.val (.int p0_0), .val (.int p0_1), .val (.int p0_2), .val (.int p0_3), .val (.int (t0_6 p0_0)), .val (.int (t0_14 p0_1)), .val (.int 0), .val (.int 1), .val (.int (t0_66 p0_2)), .val (.int (t0_73 p0_3)), .val (.int (r2 (t0_66 p0_2) (t0_73 p0_3))), .val (.int 1), .val (.int 1), .val (.int 1)] [(.int 1)])) (fun _ k => XS.iconst X36.here hx rfl (hb hby at_169) k) ?_
    refine own_s (g' := (mkF m 174 #[.val (.int p0_0), .val (.int p0_1), .val (.int p0_2), .val (.int p0_3), .val (.int (t0_6 p0_0)), .val (.int (t0_14 p0_1)), .val (.int 0), .val (.int 1), .val (.int (t0_66 p0_2)), .val (.int (t0_73 p0_3)), .val (.int (r2 (t0_66 p0_2) (t0_73 p0_3))), .val (.int 1), .val (.int 1), .val (.int 1)] [(.int 1)])) (fun _ k => XS.goto X36.here hx rfl (pc0 := 170) (pc' := 174) rfl (hb hby at_170) (by decide) (by decide) k) ?_
    refine own_retN X36 hx hlk (t := .boolean) hret (by simp) (hb hby at_174) (z' := (1 : Int32)) (by decide) (by decide) (by decide) ?_
    show Q0 Z p0_0 p0_1 p0_2 p0_3 h0 n0 _ T36.heap _
    rw [eh36]
    exact ⟨rfl, N36⟩
   ·skip
    refine own_s (g' := (mkF m 108 #[.val (.int p0_0), .val (.int p0_1), .val (.int p0_2), .val (.int p0_3), .val (.int (t0_6 p0_0)), .val (.int (t0_14 p0_1)), .val (.int 0), .val (.int 1), .val (.int (t0_66 p0_2)), .val (.int (t0_73 p0_3)), .val (.int (r2 (t0_66 p0_2) (t0_73 p0_3))), .val (.int 1), .unset, .unset] [])) (fun _ k => XS.ifNo X33.here hx rfl (hb hby at_105) rfl ((if0 _ _).trans (feq c34).1) k) ?_
    refine own_s (g' := (mkF m 110 #[.val (.int p0_0), .val (.int p0_1), .val (.int p0_2), .val (.int p0_3), .val (.int (t0_6 p0_0)), .val (.int (t0_14 p0_1)), .val (.int 0), .val (.int 1), .val (.int (t0_66 p0_2)), .val (.int (t0_73 p0_3)), .val (.int (r2 (t0_66 p0_2) (t0_73 p0_3))), .val (.int 1), .unset, .unset] [(.int (t0_66 p0_2))])) (fun _ k => XS.iload X33.here hx rfl (hb hby at_108) rfl k) ?_
    refine own_s (g' := (mkF m 112 #[.val (.int p0_0), .val (.int p0_1), .val (.int p0_2), .val (.int p0_3), .val (.int (t0_6 p0_0)), .val (.int (t0_14 p0_1)), .val (.int 0), .val (.int 1), .val (.int (t0_66 p0_2)), .val (.int (t0_73 p0_3)), .val (.int (r2 (t0_66 p0_2) (t0_73 p0_3))), .val (.int 1), .unset, .unset] [(.int (t0_73 p0_3)), (.int (t0_66 p0_2))])) (fun _ k => XS.iload X33.here hx rfl (hb hby at_110) rfl k) ?_
    refine own_s (g' := (mkF m 115 #[.val (.int p0_0), .val (.int p0_1), .val (.int p0_2), .val (.int p0_3), .val (.int (t0_6 p0_0)), .val (.int (t0_14 p0_1)), .val (.int 0), .val (.int 1), .val (.int (t0_66 p0_2)), .val (.int (t0_73 p0_3)), .val (.int (r2 (t0_66 p0_2) (t0_73 p0_3))), .val (.int 1), .unset, .unset] [])) (fun _ k => XS.icmpNo X33.here hx rfl (hb hby at_112) rfl (teq ((own_only _ _ c34) : (t0_66 p0_2) = (t0_73 p0_3))).2 k) ?_
    refine own_s (g' := (mkF m 116 #[.val (.int p0_0), .val (.int p0_1), .val (.int p0_2), .val (.int p0_3), .val (.int (t0_6 p0_0)), .val (.int (t0_14 p0_1)), .val (.int 0), .val (.int 1), .val (.int (t0_66 p0_2)), .val (.int (t0_73 p0_3)), .val (.int (r2 (t0_66 p0_2) (t0_73 p0_3))), .val (.int 1), .unset, .unset] [(.int 1)])) (fun _ k => XS.iconst X33.here hx rfl (hb hby at_115) k) ?_
    refine own_s (g' := (mkF m 120 #[.val (.int p0_0), .val (.int p0_1), .val (.int p0_2), .val (.int p0_3), .val (.int (t0_6 p0_0)), .val (.int (t0_14 p0_1)), .val (.int 0), .val (.int 1), .val (.int (t0_66 p0_2)), .val (.int (t0_73 p0_3)), .val (.int (r2 (t0_66 p0_2) (t0_73 p0_3))), .val (.int 1), .unset, .unset] [(.int 1)])) (fun _ k => XS.goto X33.here hx rfl (pc0 := 116) (pc' := 120) rfl (hb hby at_116) (by decide) (by decide) k) ?_
    refine own_s (g' := (mkF m 122 #[.val (.int p0_0), .val (.int p0_1), .val (.int p0_2), .val (.int p0_3), .val (.int (t0_6 p0_0)), .val (.int (t0_14 p0_1)), .val (.int 0), .val (.int 1), .val (.int (t0_66 p0_2)), .val (.int (t0_73 p0_3)), .val (.int (r2 (t0_66 p0_2) (t0_73 p0_3))), .val (.int 1), .val (.int 1), .unset] [])) (fun _ k => XS.istore X33.here hx rfl (hb hby at_120) rfl (l' := #[.val (.int p0_0), .val (.int p0_1), .val (.int p0_2), .val (.int p0_3), .val (.int (t0_6 p0_0)), .val (.int (t0_14 p0_1)), .val (.int 0), .val (.int 1), .val (.int (t0_66 p0_2)), .val (.int (t0_73 p0_3)), .val (.int (r2 (t0_66 p0_2) (t0_73 p0_3))), .val (.int 1), .val (.int 1), .unset]) rfl k) ?_
    refine own_s (g' := (mkF m 124 #[.val (.int p0_0), .val (.int p0_1), .val (.int p0_2), .val (.int p0_3), .val (.int (t0_6 p0_0)), .val (.int (t0_14 p0_1)), .val (.int 0), .val (.int 1), .val (.int (t0_66 p0_2)), .val (.int (t0_73 p0_3)), .val (.int (r2 (t0_66 p0_2) (t0_73 p0_3))), .val (.int 1), .val (.int 1), .unset] [(.int (t0_66 p0_2))])) (fun _ k => XS.iload X33.here hx rfl (hb hby at_122) rfl k) ?_
    refine own_s (g' := (mkF m 126 #[.val (.int p0_0), .val (.int p0_1), .val (.int p0_2), .val (.int p0_3), .val (.int (t0_6 p0_0)), .val (.int (t0_14 p0_1)), .val (.int 0), .val (.int 1), .val (.int (t0_66 p0_2)), .val (.int (t0_73 p0_3)), .val (.int (r2 (t0_66 p0_2) (t0_73 p0_3))), .val (.int 1), .val (.int 1), .unset] [(.int 78), (.int (t0_66 p0_2))])) (fun _ k => XS.bipush X33.here hx rfl (hb hby at_124) k) ?_
    obtain ⟨_, _, ⟨T37, L37, k37, n37⟩, -, X37, ⟨Lc37, hQ37, l37, y37, z37⟩, st37⟩ := Jvm.LawKit.callS X33 hx (y := (⟨"com/example/junctura/junctura/model/LinearScoring", "isMatch", "(CC)Z"⟩ : MethodName)) hown (mvT hZ ww5) (mvT hZ ww6) (mvT hZ ww7) (mvT hZ ww8) (by decide) (backOf (W := 0) (rm2 l Z a0 hw [] (t0_66 p0_2) (78 : Int32) h0 n0 Z0 ) hZ ww8 ww7 (by decide) (by decide)) (g := (mkF m 126 #[.val (.int p0_0), .val (.int p0_1), .val (.int p0_2), .val (.int p0_3), .val (.int (t0_6 p0_0)), .val (.int (t0_14 p0_1)), .val (.int 0), .val (.int 1), .val (.int (t0_66 p0_2)), .val (.int (t0_73 p0_3)), .val (.int (r2 (t0_66 p0_2) (t0_73 p0_3))), .val (.int 1), .val (.int 1), .unset] [(.int 78), (.int (t0_66 p0_2))])) rfl (by rw [hml]; rfl) (argsL := [(.int (t0_66 p0_2)), (.int 78)]) (rest := []) (lenOf pd__CC_Z rfl) rfl (by show 2 * 0 + _ ≤ _; exact Nat.le_of_eq rfl) (hb hby at_126) (fun _ _ => ⟨rfl, eh33, (by decide : 0 + 0 ≤ _), (by decide : 0 + 0 ≤ _)⟩)
    dsimp only [Pt.U, Pt.locs, Pt.cells, Pt.slots] at X37 l37 y37 z37 st37 hQ37
    subst l37 y37 z37
    obtain ⟨rfl, N37q, eh37⟩ := hQ37
    have N37 := Fr.app N33 N37q
    refine own_s (g' := (mkF m 129 #[.val (.int p0_0), .val (.int p0_1), .val (.int p0_2), .val (.int p0_3), .val (.int (t0_6 p0_0)), .val (.int (t0_14 p0_1)), .val (.int 0), .val (.int 1), .val (.int (t0_66 p0_2)), .val (.int (t0_73 p0_3)), .val (.int (r2 (t0_66 p0_2) (t0_73 p0_3))), .val (.int 1), .val (.int 1), .unset] [(.int (r2 (t0_66 p0_2) (78 : Int32)))])) st37 ?_
    refine own_s (g' := (mkF m 132 #[.val (.int p0_0), .val (.int p0_1), .val (.int p0_2), .val (.int p0_3), .val (.int (t0_6 p0_0)), .val (.int (t0_14 p0_1)), .val (.int 0), .val (.int 1), .val (.int (t0_66 p0_2)), .val (.int (t0_73 p0_3)), .val (.int (r2 (t0_66 p0_2) (t0_73 p0_3))), .val (.int 1), .val (.int 1), .unset] [])) (fun _ k => XS.ifNo X37.here hx rfl (hb hby at_129) rfl ((if0 _ _).trans (teq ((own_n1 _) : (r2 (t0_66 p0_2) (78 : Int32)) = (0 : Int32))).2) k) ?_
    refine own_s (g' := (mkF m 134 #[.val (.int p0_0), .val (.int p0_1), .val (.int p0_2), .val (.int p0_3), .val (.int (t0_6 p0_0)), .val (.int (t0_14 p0_1)), .val (.int 0), .val (.int 1), .val (.int (t0_66 p0_2)), .val (.int (t0_73 p0_3)), .val (.int (r2 (t0_66 p0_2) (t0_73 p0_3))), .val (.int 1), .val (.int 1), .unset] [(.int 78)])) (fun _ k => XS.bipush X37.here hx rfl (hb hby at_132) k) ?_
    refine own_s (g' := (mkF m 136 #[.val (.int p0_0), .val (.int p0_1), .val (.int p0_2), .val (.int p0_3), .val (.int (t0_6 p0_0)), .val (.int (t0_14 p0_1)), .val (.int 0), .val (.int 1), .val (.int (t0_66 p0_2)), .val (.int (t0_73 p0_3)), .val (.int (r2 (t0_66 p0_2) (t0_73 p0_3))), .val (.int 1), .val (.int 1), .unset] [(.int (t0_66 p0_2)), (.int 78)])) (fun _ k => XS.iload X37.here hx rfl (hb hby at_134) rfl k) ?_
    obtain ⟨_, _, ⟨T38, L38, k38, n38⟩, -, X38, ⟨Lc38, hQ38, l38, y38, z38⟩, st38⟩ := Jvm.LawKit.callS X37 hx (y := (⟨"com/example/junctura/junctura/model/LinearScoring", "isMatch", "(CC)Z"⟩ : MethodName)) hown (mvT hZ ww5) (mvT hZ ww6) (mvT hZ ww7) (mvT hZ ww8) (by decide) (backOf (W := 0) (rm2 l Z a0 hw [] (78 : Int32) (t0_66 p0_2) h0 n0 Z0 ) hZ ww8 ww7 (by decide) (by decide)) (g := (mkF m 136 #[.val (.int p0_0), .val (.int p0_1), .val (.int p0_2), .val (.int p0_3), .val (.int (t0_6 p0_0)), .val (.int (t0_14 p0_1)), .val (.int 0), .val (.int 1), .val (.int (t0_66 p0_2)), .val (.int (t0_73 p0_3)), .val (.int (r2 (t0_66 p0_2) (t0_73 p0_3))), .val (.int 1), .val (.int 1), .unset] [(.int (t0_66 p0_2)), (.int 78)])) rfl (by rw [hml]; rfl) (argsL := [(.int 78), (.int (t0_66 p0_2))]) (rest := []) (lenOf pd__CC_Z rfl) rfl (by show 2 * 0 + _ ≤ _; exact Nat.le_of_eq rfl) (hb hby at_136) (fun _ _ => ⟨rfl, eh37, (by decide : 0 + 0 ≤ _), (by decide : 0 + 0 ≤ _)⟩)
    dsimp only [Pt.U, Pt.locs, Pt.cells, Pt.slots] at X38 l38 y38 z38 st38 hQ38
    subst l38 y38 z38
    obtain ⟨rfl, N38q, eh38⟩ := hQ38
    have N38 := Fr.app N37 N38q
    refine own_s (g' := (mkF m 139 #[.val (.int p0_0), .val (.int p0_1), .val (.int p0_2), .val (.int p0_3), .val (.int (t0_6 p0_0)), .val (.int (t0_14 p0_1)), .val (.int 0), .val (.int 1), .val (.int (t0_66 p0_2)), .val (.int (t0_73 p0_3)), .val (.int (r2 (t0_66 p0_2) (t0_73 p0_3))), .val (.int 1), .val (.int 1), .unset] [(.int (r2 (78 : Int32) (t0_66 p0_2)))])) st38 ?_
    refine own_s (g' := (mkF m 142 #[.val (.int p0_0), .val (.int p0_1), .val (.int p0_2), .val (.int p0_3), .val (.int (t0_6 p0_0)), .val (.int (t0_14 p0_1)), .val (.int 0), .val (.int 1), .val (.int (t0_66 p0_2)), .val (.int (t0_73 p0_3)), .val (.int (r2 (t0_66 p0_2) (t0_73 p0_3))), .val (.int 1), .val (.int 1), .unset] [])) (fun _ k => XS.ifNo X38.here hx rfl (hb hby at_139) rfl ((if0 _ _).trans (teq ((own_n2 _) : (r2 (78 : Int32) (t0_66 p0_2)) = (0 : Int32))).2) k) ?_
    refine own_s (g' := (mkF m 143 #[.val (.int p0_0), .val (.int p0_1), .val (.int p0_2), .val (.int p0_3), .val (.int (t0_6 p0_0)), .val (.int (t0_14 p0_1)), .val (.int 0), .val (.int 1), .val (.int (t0_66 p0_2)), .val (.int (t0_73 p0_3)), .val (.int (r2 (t0_66 p0_2) (t0_73 p0_3))), .val (.int 1), .val (.int 1), .unset] [(.int 1)])) (fun _ k => XS.iconst X38.here hx rfl (hb hby at_142) k) ?_
    refine own_s (g' := (mkF m 147 #[.val (.int p0_0), .val (.int p0_1), .val (.int p0_2), .val (.int p0_3), .val (.int (t0_6 p0_0)), .val (.int (t0_14 p0_1)), .val (.int 0), .val (.int 1), .val (.int (t0_66 p0_2)), .val (.int (t0_73 p0_3)), .val (.int (r2 (t0_66 p0_2) (t0_73 p0_3))), .val (.int 1), .val (.int 1), .unset] [(.int 1)])) (fun _ k => XS.goto X38.here hx rfl (pc0 := 143) (pc' := 147) rfl (hb hby at_143) (by decide) (by decide) k) ?_
    refine own_s (g' := (mkF m 149 #[.val (.int p0_0), .val (.int p0_1), .val (.int p0_2), .val (.int p0_3), .val (.int (t0_6 p0_0)), .val (.int (t0_14 p0_1)), .val (.int 0), .val (.int 1), .val (.int (t0_66 p0_2)), .val (.int (t0_73 p0_3)), .val (.int (r2 (t0_66 p0_2) (t0_73 p0_3))), .val (.int 1), .val (.int 1), .val (.int 1)] [])) (fun _ k => XS.istore X38.here hx rfl (hb hby at_147) rfl (l' := #[.val (.int p0_0), .val (.int p0_1), .val (.int p0_2), .val (.int p0_3), .val (.int (t0_6 p0_0)), .val (.int (t0_14 p0_1)), .val (.int 0), .val (.int 1), .val (.int (t0_66 p0_2)), .val (.int (t0_73 p0_3)), .val (.int (r2 (t0_66 p0_2) (t0_73 p0_3))), .val (.int 1), .val (.int 1), .val (.int 1)]) rfl k) ?_
    refine own_s (g' := (mkF m 151 #[.val (.int p0_0), .val (.int p0_1), .val (.int p0_2), .val (.int p0_3), .val (.int (t0_6 p0_0)), .val (.int (t0_14 p0_1)), .val (.int 0), .val (.int 1), .val (.int (t0_66 p0_2)), .val (.int (t0_73 p0_3)), .val (.int (r2 (t0_66 p0_2) (t0_73 p0_3))), .val (.int 1), .val (.int 1), .val (.int 1)] [(.int 1)])) (fun _ k => XS.iload X38.here hx rfl (hb hby at_149) rfl k) ?_
    refine own_s (g' := (mkF m 154 #[.val (.int p0_0), .val (.int p0_1), .val (.int p0_2), .val (.int p0_3), .val (.int (t0_6 p0_0)), .val (.int (t0_14 p0_1)), .val (.int 0), .val (.int 1), .val (.int (t0_66 p0_2)), .val (.int (t0_73 p0_3)), .val (.int (r2 (t0_66 p0_2) (t0_73 p0_3))), .val (.int 1), .val (.int 1), .val (.int 1)] [])) (fun _ k => XS.ifNo X38.here hx rfl (hb hby at_151) rfl ((if0 _ _).trans (feq ((by decide) : ¬ (1 : Int32) = (0 : Int32))).1) k) ?_
    refine own_s (g' := (mkF m 156 #[.val (.int p0_0), .val (.int p0_1), .val (.int p0_2), .val (.int p0_3), .val (.int (t0_6 p0_0)), .val (.int (t0_14 p0_1)), .val (.int 0), .val (.int 1), .val (.int (t0_66 p0_2)), .val (.int (t0_73 p0_3)), .val (.int (r2 (t0_66 p0_2) (t0_73 p0_3))), .val (.int 1), .val (.int 1), .val (.int 1)] [(.int 1)])) (fun _ k => XS.iload X38.here hx rfl (hb hby at_154) rfl k) ?_
    refine own_s (g' := (mkF m 159 #[.val (.int p0_0), .val (.int p0_1), .val (.int p0_2), .val (.int p0_3), .val (.int (t0_6 p0_0)), .val (.int (t0_14 p0_1)), .val (.int 0), .val (.int 1), .val (.int (t0_66 p0_2)), .val (.int (t0_73 p0_3)), .val (.int (r2 (t0_66 p0_2) (t0_73 p0_3))), .val (.int 1), .val (.int 1), .val (.int 1)] [])) (fun _ k => XS.ifNo X38.here hx rfl (hb hby at_156) rfl ((if0 _ _).trans (feq ((by decide) : ¬ (1 : Int32) = (0 : Int32))).1) k) ?_
    refine own_s (g' := (mkF m 161 #[.val (.int p0_0), .val (.int p0_1), .val (.int p0_2), .val (.int p0_3), .val (.int (t0_6 p0_0)), .val (.int (t0_14 p0_1)), .val (.int 0), .val (.int 1), .val (.int (t0_66 p0_2)), .val (.int (t0_73 p0_3)), .val (.int (r2 (t0_66 p0_2) (t0_73 p0_3))), .val (.int 1), .val (.int 1), .val (.int 1)] [(.int 1)])) (fun _ k => XS.iload X38.here hx rfl (hb hby at_159) rfl k) ?_
    refine own_s (g' := (mkF m 164 #[.val (.int p0_0), .val (.int p0_1), .val (.int p0_2), .val (.int p0_3), .val (.int (t0_6 p0_0)), .val (.int (t0_14 p0_1)), .val (.int 0), .val (.int 1), .val (.int (t0_66 p0_2)), .val (.int (t0_73 p0_3)), .val (.int (r2 (t0_66 p0_2) (t0_73 p0_3))), .val (.int 1), .val (.int 1), .val (.int 1)] [])) (fun _ k => XS.ifNo X38.here hx rfl (hb hby at_161) rfl ((if0 _ _).trans (feq ((by decide) : ¬ (1 : Int32) = (0 : Int32))).1) k) ?_
    refine own_s (g' := (mkF m 166 #[.val (.int p0_0), .val (.int p0_1), .val (.int p0_2), .val (.int p0_3), .val (.int (t0_6 p0_0)), .val (.int (t0_14 p0_1)), .val (.int 0), .val (.int 1), .val (.int (t0_66 p0_2)), .val (.int (t0_73 p0_3)), .val (.int (r2 (t0_66 p0_2) (t0_73 p0_3))), .val (.int 1), .val (.int 1), .val (.int 1)] [(.int 1)])) (fun _ k => XS.iload X38.here hx rfl (hb hby at_164) rfl k) ?_
    refine own_s (g' := (mkF m 169 #[.val (.int p0_0), .val (.int p0_1), .val (.int p0_2), .val (.int p0_3), .val (.int (t0_6 p0_0)), .val (.int (t0_14 p0_1)), .val (.int 0), .val (.int 1), .val (.int (t0_66 p0_2)), .val (.int (t0_73 p0_3)), .val (.int (r2 (t0_66 p0_2) (t0_73 p0_3))), .val (.int 1), .val (.int 1), .val (.int 1)] [])) (fun _ k => XS.ifNo X38.here hx rfl (hb hby at_166) rfl ((if0 _ _).trans (feq ((by decide) : ¬ (1 : Int32) = (0 : Int32))).1) k) ?_
    refine own_s (g' := (mkF m 170 #[.val (.int p0_0), .val (.int p0_1), .val (.int p0_2), .val (.int p0_3), .val (.int (t0_6 p0_0)), .val (.int (t0_14 p0_1)), .val (.int 0), .val (.int 1), .val (.int (t0_66 p0_2)), .val (.int (t0_73 p0_3)), .val (.int (r2 (t0_66 p0_2) (t0_73 p0_3))), .val (.int 1), .val (.int 1), .val (.int 1)] [(.int 1)])) (fun _ k => XS.iconst X38.here hx rfl (hb hby at_169) k) ?_
    refine own_s (g' := (mkF m 174 #[.val (.int p0_0), .val (.int p0_1), .val (.int p0_2), .val (.int p0_3), .val (.int (t0_6 p0_0)), .val (.int (t0_14 p0_1)), .val (.int 0), .val (.int 1), .val (.int (t0_66 p0_2)), .val (.int (t0_73 p0_3)), .val (.int (r2 (t0_66 p0_2) (t0_73 p0_3))), .val (.int 1), .val (.int 1), .val (.int 1)] [(.int 1)])) (fun _ k => XS.goto X38.here hx rfl (pc0 := 170) (pc' := 174) rfl (hb hby at_170) (by decide) (by decide) k) ?_
    refine own_retN X38 hx hlk (t := .boolean) hret (by simp) (hb hby at_174) (z' := (1 : Int32)) (by decide) (by decide) (by decide) ?_
    show Q0 Z p0_0 p0_1 p0_2 p0_3 h0 n0 _ T38.heap _
    rw [eh38]
    exact ⟨rfl, N38⟩
set_option maxRecDepth 65536 in
set_option maxHeartbeats 40000000 in
theorem comes_1 {Post : Tables → Env → Array Value → State → Outcome → State → Prop} (hpost : ∀ tb e args s v u, (limb_1_1.after args s (.returned v) u = true ∧ limb_1_2.after args s (.returned v) u = true ∧ True) → FrameEnd s (.returned v) u (Jvm.fieldLocs frame_1_writes args s ++ Jvm.arrayLocs frame_1_arrays args s ++ Jvm.staticLocs frame_1_statics s) 0 0 → Post tb e args s (.returned v) u) :
    ArmFor flags0 classFile x code maxLocals ret World_1 tables_1 room_1 Calls_1 rest_1 Pre_1 Post := by
  intro l hfl _ _ p e ha hc hk s m args below hf hA hF happ hP
  obtain ⟨hcalls, hrest, hpre⟩ := hP
  obtain ⟨-, -, -, hnamed, -, -, -, hat⟩ := (Spec.applies_iff hf).mp happ
  obtain ⟨hg, hn⟩ := and_e (Cond.before_iff.mp (show (Jvm.Cond.and given_1 narrow_1).before args s = true from hpre))
  obtain ⟨gc, hg⟩ := and_e hg
  obtain ⟨gi0, hg⟩ := and_e hg
  obtain ⟨gi1, hg⟩ := and_e hg
  obtain ⟨gi2, hg⟩ := and_e hg
  obtain ⟨w0, w1, w2, w3, rfl⟩ : ∃ w0 w1 w2 w3 : Value, args = #[w0, w1, w2, w3] := by
    have hs : args.size = 4 := by simpa [Cond.value, given_1] using gc
    obtain ⟨L⟩ := args
    match L, hs with
    | [w0, w1, w2, w3], _ => exact ⟨w0, w1, w2, w3, rfl⟩
  have hw := fun d (hd : d ∈ tables_1) => atoms_spec (ws := Jvm.Cond.code x code maxLocals ret :: tables_1) hat d (List.mem_cons_of_mem _ hd)
  obtain ⟨i0, ei0⟩ := is_v gi0
  obtain rfl : w0 = (.int i0) := Option.some.inj ei0
  obtain ⟨i1, ei1⟩ := is_v gi1
  obtain rfl : w1 = (.int i1) := Option.some.inj ei1
  obtain ⟨i2, ei2⟩ := is_v gi2
  obtain rfl : w2 = (.int i2) := Option.some.inj ei2
  obtain ⟨i3, ei3⟩ := is_v hg
  obtain rfl : w3 = (.int i3) := Option.some.inj ei3
  obtain ⟨n, o, h1, h2, h3, _, L, rfl, ⟨rfl, N⟩, hq⟩ := rm0 l s _ hw tables_1 i0 i1 i2 i3 s.heap s.heap.size (Nat.le_refl _)  p e ha hc hk s m _ below hf ((Spec.applies_iff_loose hf).mp happ).1 ⟨rfl, State.Warmed39.refl s, rfl⟩ trivial
  refine ⟨n, _, h1, h2, h3, hpost _ _ _ _ _ _ ⟨Cond.after_iff.mpr rfl, Cond.after_iff.mpr (eq_i res_at (Term.int_eval (1)) rfl), trivial⟩ ⟨hq.1, hq.2.1, (hq.2.2.sift fun y hy => Or.inr (N y hy)).mono (by decide) (by decide)⟩⟩
theorem main_1_1 : Claimed_1_1 := comes_1 fun _ _ _ _ _ _ h hF => ⟨h.1, hF⟩
theorem main_1_2 : Claimed_1_2 := comes_1 fun _ _ _ _ _ _ h hF => ⟨h.2.1, hF⟩
end Jvm.Pilot.@@N@@
namespace Jvm.Pilot.@@N@@
open Jvm Jvm.ClassFile Sem Op Lib Jvm.Free Jvm.Stand Jvm.Pilot.@@N@@.Jvm.D
/-! MADE BY PROGRAM (witnessworld.py) out of the Statement's table words and the real class files: 10 classes; the members and pool entries that the words name. The judged class is class 1, her method 2. -/
namespace start1
open Jvm.ClassFile
def u (s : String) : CpInfo := .utf8 (stringToUtf16 s)
/-- a pool by its gaps: so many unusable entries, then the entry; so many at the end -/
def gap : Nat → List CpInfo → List CpInfo
  | 0, r => r
  | n + 1, r => .unusable :: gap n r
def poolList (es : List (Nat × CpInfo)) (last : Nat) : List CpInfo := es.foldr (fun e r => gap e.1 (e.2 :: r)) (gap last [])
def pool (es : List (Nat × CpInfo)) (last : Nat) : Array CpInfo := ⟨poolList es last⟩
def fileOf (pool : Array CpInfo) (this : Nat) (attrs : Array Attribute := #[]) (ms : Array MethodInfo := #[]) (fl : Nat := 33) (sup : Nat := 0) (ifs : Array Nat := #[]) (fds : Array FieldInfo := #[]) : ClassFile where
  minorVersion := 0
  majorVersion := 65
  constantPool := pool
  accessFlags := fl
  thisClass := this
  superClass := sup
  interfaces := ifs
  fields := fds
  methods := ms
  attributes := attrs
def plain (name : String) (sup : Option ClassId) : Class where
  name := name
  kind := .ordinary
  loader := none
  accessFlags := 33
  super := sup
  interfaces := #[]
  cf := none
  fields := #[]
  methods := #[]
  instanceTypes := #[]
  staticTypes := #[]
  resolved := #[]
  callSites := []
  init := .initialized
  statics := none
  mirror := none

def pool0 : Array CpInfo := pool [(5, u "<init>"), (0, u "()V"), (1, .class_ 10), (1, u "java/lang/Object")] 113

def k0m0 : Method := { name := "<init>", desc := "()V", sig := { parameters := [], returnType := none }, accessFlags := 1, code := none }
/-- java/lang/Object -/
def k0 : Class := { plain "java/lang/Object" none with
  accessFlags := 33
  interfaces := #[]
  cf := some (fileOf pool0 8 #[] #[{ accessFlags := 1, nameIndex := 5, descriptorIndex := 6, attributes := #[] }] 33 0 #[] #[])
  fields := #[]
  methods := #[k0m0]
  instanceTypes := #[]
  staticTypes := #[]
  resolved := Array.replicate 124 none
  statics := none }

def pool1 : Array CpInfo := pool [(2, .class_ 4), (1, u "java/lang/Object"), (0, u "<init>"), (0, u "()V"), (0, .integer 2147483647), (0, .methodref 9 10), (0, .class_ 11), (0, .nameAndType 12 13), (0, u "com/example/junctura/junctura/model/LinearScoringIsMatchPinLaw"), (0, u "base"), (0, u "(I)C"), (0, .methodref 15 16), (0, .class_ 17), (0, .nameAndType 18 19), (0, u "com/example/junctura/junctura/model/LinearScoring"), (0, u "isMatch"), (0, u "(CC)Z"), (0, .integer 65535), (3, u "law"), (0, u "(IIII)Z")] 2

def k1m0 : Method := { name := "<init>", desc := "()V", sig := { parameters := [], returnType := none }, accessFlags := 1, code := none }
def k1c1 : Code := { maxStack := 2, maxLocals := 1, code := method_2_code, exceptionTable := #[], attributes := #[] }
def k1m1 : Method := { name := "base", desc := "(I)C", sig := { parameters := [.int], returnType := some .char }, accessFlags := 10, code := some k1c1 }
def k1c2 : Code := { maxStack := 3, maxLocals := 14, code := code, exceptionTable := #[], attributes := #[] }
def k1m2 : Method := { name := "law", desc := "(IIII)Z", sig := { parameters := [.int, .int, .int, .int], returnType := some .boolean }, accessFlags := 9, code := some k1c2 }
/-- com/example/junctura/junctura/model/LinearScoringIsMatchPinLaw -/
def k1 : Class := { plain "com/example/junctura/junctura/model/LinearScoringIsMatchPinLaw" (some 0) with
  accessFlags := 49
  interfaces := #[]
  cf := some (fileOf pool1 9 #[] #[{ accessFlags := 1, nameIndex := 5, descriptorIndex := 6, attributes := #[] }, { accessFlags := 10, nameIndex := 12, descriptorIndex := 13, attributes := #[] }, { accessFlags := 9, nameIndex := 24, descriptorIndex := 25, attributes := #[] }] 49 2 #[] #[])
  fields := #[]
  methods := #[k1m0, k1m1, k1m2]
  instanceTypes := #[]
  staticTypes := #[]
  resolved := Array.replicate 28 none
  statics := none }

def pool2 : Array CpInfo := pool [(2, .class_ 4), (1, u "java/lang/Object"), (0, u "<init>"), (0, u "()V"), (0, .class_ 8), (0, u "java/lang/Record")] 13

def k2m0 : Method := { name := "<init>", desc := "()V", sig := { parameters := [], returnType := none }, accessFlags := 4, code := none }
/-- java/lang/Record -/
def k2 : Class := { plain "java/lang/Record" (some 0) with
  accessFlags := 1057
  interfaces := #[]
  cf := some (fileOf pool2 7 #[] #[{ accessFlags := 4, nameIndex := 5, descriptorIndex := 6, attributes := #[] }] 1057 2 #[] #[])
  fields := #[]
  methods := #[k2m0]
  instanceTypes := #[]
  staticTypes := #[]
  resolved := Array.replicate 22 none
  statics := none }

def pool3 : Array CpInfo := pool [(2, .class_ 4), (1, u "java/lang/Record"), (3, u "subsMatrix"), (16, .class_ 27), (1, u "com/example/junctura/junctura/model/LinearScoring"), (0, u "Lcom/example/junctura/junctura/model/LinearScoring$SubstitutionMatrix;"), (2, u "gapPenalty"), (0, u "I"), (1, .class_ 36), (1, u "com/example/junctura/junctura/model/LinearScoring$SubstitutionMatrix"), (25, u "DEFAULT"), (0, u "Lcom/example/junctura/junctura/model/LinearScoring;"), (4, u "isMatch"), (0, u "(CC)Z")] 35

def k3c0 : Code := { maxStack := 2, maxLocals := 2, code := prog_114_method_4_code, exceptionTable := #[], attributes := #[] }
def k3m0 : Method := { name := "isMatch", desc := "(CC)Z", sig := { parameters := [.char, .char], returnType := some .boolean }, accessFlags := 9, code := some k3c0 }
/-- com/example/junctura/junctura/model/LinearScoring -/
def k3 : Class := { plain "com/example/junctura/junctura/model/LinearScoring" (some 2) with
  accessFlags := 49
  interfaces := #[]
  cf := some (fileOf pool3 25 #[.nestMembers #[34]] #[{ accessFlags := 9, nameIndex := 68, descriptorIndex := 69, attributes := #[] }] 49 2 #[] #[{ accessFlags := 18, nameIndex := 8, descriptorIndex := 28, attributes := #[] }, { accessFlags := 18, nameIndex := 31, descriptorIndex := 32, attributes := #[] }, { accessFlags := 25, nameIndex := 62, descriptorIndex := 63, attributes := #[] }])
  fields := #[{ name := "subsMatrix", type := (.object "com/example/junctura/junctura/model/LinearScoring$SubstitutionMatrix"), accessFlags := 18, slot := 0, constantValue := 0 }, { name := "gapPenalty", type := .int, accessFlags := 18, slot := 1, constantValue := 0 }, { name := "DEFAULT", type := (.object "com/example/junctura/junctura/model/LinearScoring"), accessFlags := 25, slot := 0, constantValue := 0 }]
  methods := #[k3m0]
  instanceTypes := #[(.object "com/example/junctura/junctura/model/LinearScoring$SubstitutionMatrix"), .int]
  staticTypes := #[(.object "com/example/junctura/junctura/model/LinearScoring")]
  resolved := Array.replicate 105 none
  statics := none }

def pool4 : Array CpInfo := pool [(1, u "java/lang/Cloneable"), (0, .class_ 1), (0, u "java/lang/Object"), (0, .class_ 3)] 3

/-- java/lang/Cloneable -/
def k4 : Class := { plain "java/lang/Cloneable" (some 0) with
  accessFlags := 1537
  interfaces := #[]
  cf := some (fileOf pool4 2 #[] #[] 1537 4 #[] #[])
  fields := #[]
  methods := #[]
  instanceTypes := #[]
  staticTypes := #[]
  resolved := Array.replicate 8 none
  statics := none }

def pool5 : Array CpInfo := pool [(1, u "java/io/Serializable"), (0, .class_ 1), (0, u "java/lang/Object"), (0, .class_ 3)] 3

/-- java/io/Serializable -/
def k5 : Class := { plain "java/io/Serializable" (some 0) with
  accessFlags := 1537
  interfaces := #[]
  cf := some (fileOf pool5 2 #[] #[] 1537 4 #[] #[])
  fields := #[]
  methods := #[]
  instanceTypes := #[]
  staticTypes := #[]
  resolved := Array.replicate 8 none
  statics := none }

/-- the primitive byte -/
def k6 : Class := { plain "byte" none with kind := .primitive 'B', accessFlags := 0x411 }
/-- [B -/
def k7 : Class := { plain "[B" (some 0) with kind := .array 6 .byte, interfaces := #[4, 5], accessFlags := 1041 }

/-- the primitive int -/
def k8 : Class := { plain "int" none with kind := .primitive 'I', accessFlags := 0x411 }
/-- [I -/
def k9 : Class := { plain "[I" (some 0) with kind := .array 8 .int, interfaces := #[4, 5], accessFlags := 1041 }

def heap : Heap := #[]
def classes : Array Class := #[k0, k1, k2, k3, k4, k5, k6, k7, k8, k9]
def interned : List (Array UInt16 × Addr) := []
def slotsUsed : Nat := 0
def theMethod : MethodId := ⟨1, 2⟩
def args0 : Array Value := #[.int 5, .int 5, .int 5, .int 5]
def aboutOver (below : List Frame) : State where
  vm := { classes := classes, interned := interned.toArray }
  heap := heap
  slotsUsed := slotsUsed
  threads := #[{ frames := .invoking theMethod args0 :: below }]
def below0 : List Frame := [.native { method := ⟨0, 0⟩, args := #[] }]
def about1 : State := aboutOver below0
def p0 : Program := .bare "" "" ""
def e0 : Env := launch0.env 0 0 0
theorem w_frames : about1.frames = Frame.invoking theMethod args0 :: below0 := rfl
set_option maxRecDepth 65536 in
theorem w_args : argsFit about1.vm theMethod args0 = true := by decide +kernel
set_option maxRecDepth 65536 in
theorem w_heap : heapFits about1 = true := by decide +kernel
set_option maxRecDepth 65536 in
theorem w_runnable : about1.curStatus? = some .runnable := by decide +kernel
set_option maxRecDepth 65536 in
theorem w_alone : about1.alone = true := by decide +kernel
set_option maxRecDepth 65536 in
theorem w_named : about1.methodNamed? x = some theMethod := by decide +kernel
set_option maxRecDepth 65536 in
theorem w_hears : about1.hears theMethod below0 = true := by decide +kernel
set_option maxRecDepth 65536 in
theorem w_ripe : about1.ripe theMethod args0 below0 = true := by decide +kernel
theorem w_running : about1.status = .running := rfl
set_option maxRecDepth 65536 in
theorem w_room : about1.hasRoom e0.platform room_1 = true :=
  launch0.hasRoom_least _ room_1 (by decide +kernel) (by decide +kernel) (by decide +kernel) (by decide +kernel) (by decide +kernel) (by decide +kernel)
theorem allAtoms_all (ts : List Jvm.Cond) (a : Array Jvm.Value) (st : Jvm.State) : (allAtoms ts).before a st = ts.all (fun c => c.before a st) := by
  induction ts with
  | nil => rfl
  | cons c t ih =>
    show (Jvm.Cond.and c (allAtoms t)).before a st = _
    rw [Jvm.Cond.before_and, ih, List.all_cons]
def words1 : List Jvm.Cond := Jvm.Cond.code x code maxLocals ret :: tables_1
/-- a 'code' word, met by the world's own term for the bytes: nothing is compared byte by byte -/
theorem code_word {y : MethodName} {bytes : ByteArray} {mx : Nat} {rt : Option FieldType} {a : Array Value} {s : State} {m : MethodId} {meth : Method} {c : Code} (h1 : s.methodNamed? y = some m) (h2 : s.vm.method? m = some meth) (h3 : meth.code = some c) (h4 : c.code = bytes)
    (h5 : (c.maxLocals == mx && c.exceptionTable.isEmpty && decide (c.maxStack ≤ mostOperands) && decide (meth.sig.returnType = rt) && !meth.locks && decide (parseMethodDescriptor y.desc = some meth.sig)) = true) : (Jvm.Cond.code y bytes mx rt).before a s = true := by
  simp only [Bool.and_eq_true, beq_iff_eq, Bool.not_eq_true', decide_eq_true_eq] at h5
  obtain ⟨⟨⟨⟨⟨g1, g2⟩, g3⟩, g4⟩, g5⟩, g6⟩ := h5
  simp [Cond.before, Cond.holds, Cond.value, h1, h2, h3, h4, g1, g2, g3, g4, g5, g6]
def isCode : Jvm.Cond → Bool
  | .code _ _ _ _ => true
  | _ => false
theorem all_split {L : List Jvm.Cond} {P : Jvm.Cond → Bool} (h1 : L.all (fun c => isCode c || P c) = true) (h2 : ∀ c ∈ L.filter isCode, P c = true) : L.all P = true := by
  refine List.all_eq_true.mpr fun c hc => ?_
  have h := List.all_eq_true.mp h1 c hc
  rcases Bool.eq_false_or_eq_true (isCode c) with hi | hi
  · exact h2 c (List.mem_filter.mpr ⟨hc, hi⟩)
  · simpa [hi] using h
set_option maxRecDepth 65536 in
theorem w_c0 : (Jvm.Cond.code x code maxLocals ret).before args0 about1 = true := code_word (m := ⟨1, 2⟩) (meth := k1m2) (c := k1c2) (by decide +kernel) rfl rfl rfl (by decide +kernel)
set_option maxRecDepth 65536 in
theorem w_c1 : (Jvm.Cond.code ({ cls := "com/example/junctura/junctura/model/LinearScoringIsMatchPinLaw", name := "base", desc := "(I)C" } : Jvm.MethodName) method_2_code (1 : Nat) (Option.some Jvm.ClassFile.FieldType.char)).before args0 about1 = true := code_word (m := ⟨1, 1⟩) (meth := k1m1) (c := k1c1) (by decide +kernel) rfl rfl rfl (by decide +kernel)
set_option maxRecDepth 65536 in
theorem w_c2 : (Jvm.Cond.code ({ cls := "com/example/junctura/junctura/model/LinearScoring", name := "isMatch", desc := "(CC)Z" } : Jvm.MethodName) prog_114_method_4_code (2 : Nat) (Option.some Jvm.ClassFile.FieldType.boolean)).before args0 about1 = true := code_word (m := ⟨3, 0⟩) (meth := k3m0) (c := k3c0) (by decide +kernel) rfl rfl rfl (by decide +kernel)
def codes1 : List Jvm.Cond := [Jvm.Cond.code x code maxLocals ret, Jvm.Cond.code ({ cls := "com/example/junctura/junctura/model/LinearScoringIsMatchPinLaw", name := "base", desc := "(I)C" } : Jvm.MethodName) method_2_code (1 : Nat) (Option.some Jvm.ClassFile.FieldType.char), Jvm.Cond.code ({ cls := "com/example/junctura/junctura/model/LinearScoring", name := "isMatch", desc := "(CC)Z" } : Jvm.MethodName) prog_114_method_4_code (2 : Nat) (Option.some Jvm.ClassFile.FieldType.boolean)]
set_option maxRecDepth 65536 in
theorem codes_eq : words1.filter isCode = codes1 := rfl
theorem w_codes : ∀ c ∈ words1.filter isCode, c.before args0 about1 = true := by
  rw [codes_eq]
  intro c hc
  simp only [codes1, List.mem_cons, List.not_mem_nil, or_false] at hc
  rcases hc with rfl | rfl | rfl
  · exact w_c0
  · exact w_c1
  · exact w_c2
set_option maxRecDepth 65536 in
theorem w_t1 : words1.all (fun c => isCode c || c.before args0 about1) = true := by decide +kernel
theorem w_tables : (allAtoms (Jvm.Cond.code x code maxLocals ret :: tables_1)).before args0 about1 = true := by
  rw [allAtoms_all]
  show words1.all (fun c => c.before args0 about1) = true
  refine all_split ?_ w_codes
  rw [w_t1]
set_option maxRecDepth 65536 in
theorem w_case : (Jvm.Cond.and given_1 narrow_1).before args0 about1 = true := by decide +kernel
theorem w_applies : (headSpec (Jvm.Cond.code x code maxLocals ret :: tables_1) room_1).applies x e0.platform about1 = true :=
  (Spec.applies_iff w_frames).mpr ⟨w_running, w_runnable, w_alone, w_named, w_hears, w_ripe, w_room, w_tables⟩
theorem atStart : AtStart classFile x code maxLocals ret World_1 tables_1 room_1 Calls_1 rest_1 Pre_1 launch0 p0 e0 about1 theMethod args0 below0 :=
  ⟨lists_1, trivial, launch0.admits_env _ _ _, launch0.least_env, fairChoices_fair.cas, fairChoices_fair.clock, w_frames, w_args, w_heap, w_applies, trivial, trivial, w_case⟩
end start1
theorem witness_1 : WitnessClaimed_1 := ⟨start1.p0, start1.e0, start1.about1, start1.theMethod, start1.args0, start1.below0, start1.atStart⟩
end Jvm.Pilot.@@N@@
