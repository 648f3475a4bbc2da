import JvmDerived
import JvmDerived.Pilot.@@N@@Statement
import JvmDerived.Pilot.@@N@@Code
set_option linter.unusedVariables false
set_option linter.unusedSimpArgs false
namespace Jvm.Pilot.@@N@@
open Jvm Jvm.ClassFile Sem Op Lib Jvm.Free Jvm.Stand Jvm.LawKit Jvm.RoadKit Bundle Jvm.Pilot.@@N@@.Jvm.D
/-- what is left of a walk: from the frame g on, the run ends as K says -/
def own_G (p : Program) (e : Env) (below : List Frame) (s : State) (K : Option Value → Heap → List Loc → Prop) (nc ns : Nat) (T : State) (g : JFrame) : Prop :=
  ∃ s₂ o, Steps p.tables e below (T.setTop g) s₂ ∧ s₂.status = .running ∧ Ended s₂ below o ∧ ∃ v L, o = .returned v ∧ K v s₂.heap L ∧ FrameEnd s o s₂ L nc ns
section Own
variable {p : Program} {l : Launch} {e : Env} {R : Room} {s : State} {m : MethodId} {args : Array Value} {below : List Frame} {meth : Method} {c : Code} {T T' : State} {locs : List Loc} {cells slots : Nat} {K : Option Value → Heap → List Loc → Prop} {nc ns : Nat} {g g' : JFrame}
theorem own_s (h : ∀ t, Steps p.tables e below (T'.setTop g') t → Steps p.tables e below (T.setTop g) t) (k : own_G p e below s K nc ns T' g') : own_G p e below s K nc ns T g := by
  obtain ⟨s₂, o, h1, r⟩ := k
  exact ⟨s₂, o, h _ h1, r⟩
theorem own_trans (h : Steps p.tables e below (T.setTop g) (T'.setTop g')) (k : own_G p e below s K nc ns T' g') : own_G p e below s K nc ns T g := by
  obtain ⟨s₂, o, h1, r⟩ := k
  exact ⟨s₂, o, h.trans h1, r⟩
theorem own_cast (q : g = g') (k : own_G p e below s K nc ns T g') : own_G p e below s K nc ns T g := q ▸ k
theorem own_leave (X : Stand p l e R s m args below meth c T locs cells slots) {v : Option Value} (hlk : meth.locks = false) (hv : meth.sig.returnType = none → v = none) (hc : cells ≤ nc) (hn : slots ≤ ns) (hq : K v T.heap locs)
    (st : ∀ fs, (∀ (f : JFrame) (acts : List Action), f.method = m → f.locked = none → f.entered = [] → (doReturn e (T.setTop f) acts v).1 = T.setFrames fs) → Steps p.tables e below (T.setTop g) (T.setFrames fs)) : own_G p e below s K nc ns T g := by
  obtain ⟨fs, hr, hrun, hended, hW, hsame⟩ := X.leave (v := v) hv hlk
  exact ⟨_, _, st fs hr, hrun, hended, _, _, rfl, hq, ⟨_, rfl⟩, hW, hsame.mono hc hn⟩
theorem own_retN (X : Stand p l e R s m args below meth c T locs cells slots) (hx : p.tables.exec = Jvm.exec) (hlk : meth.locks = false) {pc : Nat} {Ls : Array Slot} {z z' : Int32} {t : FieldType} {rest : List Value} (hret : meth.sig.returnType = some t) (ht : t = .boolean ∨ t = .byte ∨ t = .char ∨ t = .short)
    (hd : decode c.code pc = .ok (.ireturn, 1)) (hz : nar t z = z') (hc : cells ≤ nc) (hn : slots ≤ ns) (hq : K (some (.int z')) T.heap locs) : own_G p e below s K nc ns T (mkF m pc Ls (.int z :: rest)) := by
  subst hz
  exact own_leave X hlk (fun h => by rw [hret] at h; cases h) hc hn hq fun fs hr => retN X hx hret ht hd hr
theorem own_retI (X : Stand p l e R s m args below meth c T locs cells slots) (hx : p.tables.exec = Jvm.exec) (hlk : meth.locks = false) {pc : Nat} {Ls : Array Slot} {z : Int32} {rest : List Value} (hret : meth.sig.returnType = some .int)
    (hd : decode c.code pc = .ok (.ireturn, 1)) (hc : cells ≤ nc) (hn : slots ≤ ns) (hq : K (some (.int z)) T.heap locs) : own_G p e below s K nc ns T (mkF m pc Ls (.int z :: rest)) :=
  own_leave X hlk (fun h => by rw [hret] at h; cases h) hc hn hq fun fs hr => retOut X hx hret rfl (Or.inl ⟨rfl, Or.inl rfl, _, rfl⟩) hd hr
theorem own_retJ (X : Stand p l e R s m args below meth c T locs cells slots) (hx : p.tables.exec = Jvm.exec) (hlk : meth.locks = false) {pc : Nat} {Ls : Array Slot} {z : Int64} {rest : List Value} (hret : meth.sig.returnType = some .long)
    (hd : decode c.code pc = .ok (.lreturn, 1)) (hc : cells ≤ nc) (hn : slots ≤ ns) (hq : K (some (.long z)) T.heap locs) : own_G p e below s K nc ns T (mkF m pc Ls (.long z :: rest)) :=
  own_leave X hlk (fun h => by rw [hret] at h; cases h) hc hn hq fun fs hr => retOut X hx hret rfl (Or.inr (Or.inl ⟨rfl, rfl, _, rfl⟩)) hd hr
theorem own_retR (X : Stand p l e R s m args below meth c T locs cells slots) (hx : p.tables.exec = Jvm.exec) (hlk : meth.locks = false) {pc : Nat} {Ls : Array Slot} {v : Value} {t : FieldType} {rest : List Value} (hret : meth.sig.returnType = some t) (ht : t.isReference = true) (hv : v.isRef = true) (hnv : narrow t v = v)
    (hd : decode c.code pc = .ok (.areturn, 1)) (hc : cells ≤ nc) (hn : slots ≤ ns) (hq : K (some v) T.heap locs) : own_G p e below s K nc ns T (mkF m pc Ls (v :: rest)) :=
  own_leave X hlk (fun h => by rw [hret] at h; cases h) hc hn hq fun fs hr => retOut X hx hret hnv (Or.inr (Or.inr (Or.inr (Or.inr ⟨rfl, ht, hv⟩)))) hd hr
theorem own_retV (X : Stand p l e R s m args below meth c T locs cells slots) (hx : p.tables.exec = Jvm.exec) (hlk : meth.locks = false) {pc : Nat} {Ls : Array Slot} (hret : meth.sig.returnType = none)
    (hd : decode c.code pc = .ok (.return_, 1)) (hc : cells ≤ nc) (hn : slots ≤ ns) (hq : K none T.heap locs) : own_G p e below s K nc ns T (mkF m pc Ls []) :=
  own_leave X hlk (fun _ => rfl) hc hn hq fun fs hr => X.returnOut hx hret hd hr
theorem own_selp {s : State} {args : Array Value} {y : MethodName} {n : Nat} (wi : (Jvm.Cond.instantiable y.cls n).before args s = true) (hp : (Jvm.Cond.privateMethod y).before args s = true) (hi : (Jvm.Cond.instanceMethod y).before args s = true)
    (hy : y.cls ≠ "java/lang/invoke/MethodHandle" ∧ y.cls ≠ "java/lang/invoke/VarHandle") : (Jvm.Cond.selects y.cls y y).before args s = true := by
  obtain ⟨c, k, h1, h2, h3, h4, -⟩ := Cond.instantiable_spec wi
  exact Jvm.Stand.selects_self_of_private h1 h2 (Bool.or_eq_false_iff.mp h4).1 (Cond.privateMethod_at hp) hi hy
theorem own_miss {k : Int32} (i : Int) (n : Int32) (e : n.toInt = i) (hc : ¬ k = n) : i ≠ k.toInt := fun h => hc (Int32.toInt_inj.mp (h.symm.trans e.symm))
theorem own_posI {x : Int32} (h : (0 : Int32) < x) : x ≠ 0 := fun q => by rw [q] at h; exact absurd h (by decide)
theorem own_posJ {x : Int64} (h : (0 : Int64) < x) : x ≠ 0 := fun q => by rw [q] at h; exact absurd h (by decide)
theorem own_asI {x y : Int32} (h : y < x) : ¬ x < y := fun q => Int32.lt_irrefl (Int32.lt_trans h q)
theorem own_asJ {x y : Int64} (h : y < x) : ¬ x < y := fun q => Int64.lt_irrefl (Int64.lt_trans h q)
theorem own_eqltI {x y : Int32} (h : x = y) : ¬ x < y := fun q => by rw [h] at q; exact Int32.lt_irrefl q
theorem own_eqltJ {x y : Int64} (h : x = y) : ¬ x < y := fun q => by rw [h] at q; exact Int64.lt_irrefl q
theorem own_triI {x y : Int32} (h : ¬ x = y) (q : ¬ y < x) : x < y := by
  rw [Int32.lt_iff_toInt_lt] at *
  rw [← Int32.toInt_inj] at h
  omega
theorem own_triJ {x y : Int64} (h : ¬ x = y) (q : ¬ y < x) : x < y := by
  rw [Int64.lt_iff_toInt_lt] at *
  rw [← Int64.toInt_inj] at h
  omega
theorem own_ltneI {x y : Int32} (h : x < y) : ¬ x = y := fun q => by rw [q] at h; exact Int32.lt_irrefl h
theorem own_ltneJ {x y : Int64} (h : x < y) : ¬ x = y := fun q => by rw [q] at h; exact Int64.lt_irrefl h
theorem own_ltne'I {x y : Int32} (h : y < x) : ¬ x = y := fun q => by rw [q] at h; exact Int32.lt_irrefl h
theorem own_ltne'J {x y : Int64} (h : y < x) : ¬ x = y := fun q => by rw [q] at h; exact Int64.lt_irrefl h
theorem own_nnI {x y : Int32} (h : ¬ x < y) (q : ¬ y < x) : x = y := by
  rw [Int32.lt_iff_toInt_lt] at *
  rw [← Int32.toInt_inj]
  omega
theorem own_nnJ {x y : Int64} (h : ¬ x < y) (q : ¬ y < x) : x = y := by
  rw [Int64.lt_iff_toInt_lt] at *
  rw [← Int64.toInt_inj]
  omega
end Own
theorem d1_0 : decode jdk_29_method_70_code 0 = .ok (.lload_n 0, 1) := by decide +kernel
theorem d1_1 : decode jdk_29_method_70_code 1 = .ok (.lload_n 2, 1) := by decide +kernel
theorem d1_2 : decode jdk_29_method_70_code 2 = .ok (.lcmp, 1) := by decide +kernel
theorem d1_3 : decode jdk_29_method_70_code 3 = .ok (.ifCond .gt 7, 3) := by decide +kernel
theorem d1_6 : decode jdk_29_method_70_code 6 = .ok (.lload_n 0, 1) := by decide +kernel
theorem d1_7 : decode jdk_29_method_70_code 7 = .ok (.goto 4, 3) := by decide +kernel
theorem d1_10 : decode jdk_29_method_70_code 10 = .ok (.lload_n 2, 1) := by decide +kernel
theorem d1_11 : decode jdk_29_method_70_code 11 = .ok (.lreturn, 1) := by decide +kernel
theorem ef_1 (m : MethodId) (q1_0 : Int64) (q1_1 : Int64) : entryFrame m #[(.long q1_0), (.long q1_1)] 4 = mkF m 0 #[.val (.long q1_0), .second, .val (.long q1_1), .second] [] := by first | (simp [entryFrame, mkF, argsToLocals, Value.category]; done) | rfl
def r1 (q1_0 : Int64) (q1_1 : Int64) : Int64 := (if q1_1 < q1_0 then q1_1 else q1_0)
def Q1 (Z : State) (q1_0 : Int64) (q1_1 : Int64) (h0 : Heap) (n0 : Nat) (v : Option Value) (h : Heap) (L : List Loc) : Prop := v = some (.long (r1 q1_0 q1_1)) ∧ Fr n0 L ∧ h = h0
set_option maxRecDepth 65536 in
set_option maxHeartbeats 40000000 in
theorem rm1 (l : Launch) (Z : State) (a0 : Array Value) (hw : ∀ d ∈ tables_1, d.before a0 Z = true) (ws : List Jvm.Cond) (q1_0 : Int64) (q1_1 : Int64) (h0 : Heap) (n0 : Nat) (Z0 : n0 ≤ h0.size) :
    MetFree l (⟨"java/lang/Math", "min", "(JJ)J"⟩ : MethodName) (head1 (Jvm.Cond.code (⟨"java/lang/Math", "min", "(JJ)J"⟩ : MethodName) jdk_29_method_70_code 4 (some .long) :: ws) ({ frames := 0, cells := 0, slots := 0, locals := 0 } : Room)) (fun a U => a = #[(.long q1_0), (.long q1_1)] ∧ Z.Warmed39 U.vm ∧ U.heap = h0) (fun _ _ _ _ _ => True) (fun _ U o U' => ∃ v L, o = .returned v ∧ Q1 Z q1_0 q1_1 h0 n0 v U'.heap L ∧ FrameEnd U o U' L ({ frames := 0, cells := 0, slots := 0, locals := 0 } : Room).cells ({ frames := 0, cells := 0, slots := 0, locals := 0 } : Room).slots) := by
  refine MetFree.of_bodySF (Jvm.Free.JP.mathPlain rfl (by decide +kernel)) hisR ?_
  intro p e s m args below meth c s₁ Bd hml0 hP hK
  obtain ⟨rfl, hZ, hh⟩ := hP
  have hx := Bd.exec
  have hby := Bd.bytes
  have hlk := Bd.notSynchronized
  have hret := Bd.returns
  have hml : c.maxLocals = 4 := hml0
  have hown : s.vm.findClass "java/lang/Math" = some m.cls := findClass_of_methodNamed Bd.named
  have hnm := (name_of_methodNamed Bd.named Bd.method).1
  have X0 : Stand p l e ({ frames := 0, cells := 0, slots := 0, locals := 0 } : Room) s m #[(.long q1_0), (.long q1_1)] below meth c s₁ [] 0 0 := Stand.of_body Bd
  have e0 : s₁.heap = h0 := by rw [← hh, Bd.state]; rfl
  have N0 := Fr.nil n0
  have K0 : Keep h0 h0 [] := Keep.refl _ _
  show own_G p e below s (Q1 Z q1_0 q1_1 h0 n0) ({ frames := 0, cells := 0, slots := 0, locals := 0 } : Room).cells ({ frames := 0, cells := 0, slots := 0, locals := 0 } : Room).slots s₁ (entryFrame m #[(.long q1_0), (.long q1_1)] 4)
  refine own_cast (ef_1 m q1_0 q1_1) ?_
  refine own_s (g' := (mkF m 1 #[.val (.long q1_0), .second, .val (.long q1_1), .second] [(.long q1_0)])) (fun _ k => XS.lloadN X0.here hx rfl (hb hby d1_0) rfl k) ?_
  refine own_s (g' := (mkF m 2 #[.val (.long q1_0), .second, .val (.long q1_1), .second] [(.long q1_1), (.long q1_0)])) (fun _ k => XS.lloadN X0.here hx rfl (hb hby d1_1) rfl k) ?_
  refine own_s (g' := (mkF m 3 #[.val (.long q1_0), .second, .val (.long q1_1), .second] [(.int (lcmpW q1_0 q1_1))])) (fun _ k => XS.lcmp X0.here hx rfl (hb hby d1_2) rfl k) ?_
  by_cases c1 : q1_1 < q1_0
  ·skip
   refine own_s (g' := (mkF m 10 #[.val (.long q1_0), .second, .val (.long q1_1), .second] [])) (fun _ k => XS.ifYes X0.here hx rfl (pc0 := 3) (pc' := 10) rfl (hb hby d1_3) rfl ((if0 _ _).trans (tlt ((lw_gt q1_0 q1_1).mpr c1)).2.2.1) (by decide) (by decide) k) ?_
   refine own_s (g' := (mkF m 11 #[.val (.long q1_0), .second, .val (.long q1_1), .second] [(.long q1_1)])) (fun _ k => XS.lloadN X0.here hx rfl (hb hby d1_10) rfl k) ?_
   refine own_retJ X0 hx hlk hret (hb hby d1_11) (by decide) (by decide) ?_
   show Q1 Z q1_0 q1_1 h0 n0 _ s₁.heap _
   rw [e0]
   exact ⟨(congrArg (fun z => some (Value.long z)) (show q1_1 = (r1 q1_0 q1_1) from (Eq.symm (if_pos c1)))), N0, rfl⟩
  ·skip
   refine own_s (g' := (mkF m 6 #[.val (.long q1_0), .second, .val (.long q1_1), .second] [])) (fun _ k => XS.ifNo X0.here hx rfl (hb hby d1_3) rfl ((if0 _ _).trans (flt (mt (lw_gt q1_0 q1_1).mp c1)).2.2.1) k) ?_
   refine own_s (g' := (mkF m 7 #[.val (.long q1_0), .second, .val (.long q1_1), .second] [(.long q1_0)])) (fun _ k => XS.lloadN X0.here hx rfl (hb hby d1_6) rfl k) ?_
   refine own_s (g' := (mkF m 11 #[.val (.long q1_0), .second, .val (.long q1_1), .second] [(.long q1_0)])) (fun _ k => XS.goto X0.here hx rfl (pc0 := 7) (pc' := 11) rfl (hb hby d1_7) (by decide) (by decide) k) ?_
   refine own_retJ X0 hx hlk hret (hb hby d1_11) (by decide) (by decide) ?_
   show Q1 Z q1_0 q1_1 h0 n0 _ s₁.heap _
   rw [e0]
   exact ⟨(congrArg (fun z => some (Value.long z)) (show q1_0 = (r1 q1_0 q1_1) from (Eq.symm (if_neg c1)))), N0, rfl⟩
theorem d2_0 : decode jdk_29_method_66_code 0 = .ok (.lload_n 0, 1) := by decide +kernel
theorem d2_1 : decode jdk_29_method_66_code 1 = .ok (.lload_n 2, 1) := by decide +kernel
theorem d2_2 : decode jdk_29_method_66_code 2 = .ok (.lcmp, 1) := by decide +kernel
theorem d2_3 : decode jdk_29_method_66_code 3 = .ok (.ifCond .lt 7, 3) := by decide +kernel
theorem d2_6 : decode jdk_29_method_66_code 6 = .ok (.lload_n 0, 1) := by decide +kernel
theorem d2_7 : decode jdk_29_method_66_code 7 = .ok (.goto 4, 3) := by decide +kernel
theorem d2_10 : decode jdk_29_method_66_code 10 = .ok (.lload_n 2, 1) := by decide +kernel
theorem d2_11 : decode jdk_29_method_66_code 11 = .ok (.lreturn, 1) := by decide +kernel
theorem ef_2 (m : MethodId) (q2_0 : Int64) (q2_1 : Int64) : entryFrame m #[(.long q2_0), (.long q2_1)] 4 = mkF m 0 #[.val (.long q2_0), .second, .val (.long q2_1), .second] [] := by first | (simp [entryFrame, mkF, argsToLocals, Value.category]; done) | rfl
def r2 (q2_0 : Int64) (q2_1 : Int64) : Int64 := (if q2_0 < q2_1 then q2_1 else q2_0)
def Q2 (Z : State) (q2_0 : Int64) (q2_1 : Int64) (h0 : Heap) (n0 : Nat) (v : Option Value) (h : Heap) (L : List Loc) : Prop := v = some (.long (r2 q2_0 q2_1)) ∧ Fr n0 L ∧ h = h0
set_option maxRecDepth 65536 in
set_option maxHeartbeats 40000000 in
theorem rm2 (l : Launch) (Z : State) (a0 : Array Value) (hw : ∀ d ∈ tables_1, d.before a0 Z = true) (ws : List Jvm.Cond) (q2_0 : Int64) (q2_1 : Int64) (h0 : Heap) (n0 : Nat) (Z0 : n0 ≤ h0.size) :
    MetFree l (⟨"java/lang/Math", "max", "(JJ)J"⟩ : MethodName) (head1 (Jvm.Cond.code (⟨"java/lang/Math", "max", "(JJ)J"⟩ : MethodName) jdk_29_method_66_code 4 (some .long) :: ws) ({ frames := 0, cells := 0, slots := 0, locals := 0 } : Room)) (fun a U => a = #[(.long q2_0), (.long q2_1)] ∧ Z.Warmed39 U.vm ∧ U.heap = h0) (fun _ _ _ _ _ => True) (fun _ U o U' => ∃ v L, o = .returned v ∧ Q2 Z q2_0 q2_1 h0 n0 v U'.heap L ∧ FrameEnd U o U' L ({ frames := 0, cells := 0, slots := 0, locals := 0 } : Room).cells ({ frames := 0, cells := 0, slots := 0, locals := 0 } : Room).slots) := by
  refine MetFree.of_bodySF (Jvm.Free.JP.mathPlain rfl (by decide +kernel)) hisR ?_
  intro p e s m args below meth c s₁ Bd hml0 hP hK
  obtain ⟨rfl, hZ, hh⟩ := hP
  have hx := Bd.exec
  have hby := Bd.bytes
  have hlk := Bd.notSynchronized
  have hret := Bd.returns
  have hml : c.maxLocals = 4 := hml0
  have hown : s.vm.findClass "java/lang/Math" = some m.cls := findClass_of_methodNamed Bd.named
  have hnm := (name_of_methodNamed Bd.named Bd.method).1
  have X0 : Stand p l e ({ frames := 0, cells := 0, slots := 0, locals := 0 } : Room) s m #[(.long q2_0), (.long q2_1)] below meth c s₁ [] 0 0 := Stand.of_body Bd
  have e0 : s₁.heap = h0 := by rw [← hh, Bd.state]; rfl
  have N0 := Fr.nil n0
  have K0 : Keep h0 h0 [] := Keep.refl _ _
  show own_G p e below s (Q2 Z q2_0 q2_1 h0 n0) ({ frames := 0, cells := 0, slots := 0, locals := 0 } : Room).cells ({ frames := 0, cells := 0, slots := 0, locals := 0 } : Room).slots s₁ (entryFrame m #[(.long q2_0), (.long q2_1)] 4)
  refine own_cast (ef_2 m q2_0 q2_1) ?_
  refine own_s (g' := (mkF m 1 #[.val (.long q2_0), .second, .val (.long q2_1), .second] [(.long q2_0)])) (fun _ k => XS.lloadN X0.here hx rfl (hb hby d2_0) rfl k) ?_
  refine own_s (g' := (mkF m 2 #[.val (.long q2_0), .second, .val (.long q2_1), .second] [(.long q2_1), (.long q2_0)])) (fun _ k => XS.lloadN X0.here hx rfl (hb hby d2_1) rfl k) ?_
  refine own_s (g' := (mkF m 3 #[.val (.long q2_0), .second, .val (.long q2_1), .second] [(.int (lcmpW q2_0 q2_1))])) (fun _ k => XS.lcmp X0.here hx rfl (hb hby d2_2) rfl k) ?_
  by_cases c2 : q2_0 < q2_1
  ·skip
   refine own_s (g' := (mkF m 10 #[.val (.long q2_0), .second, .val (.long q2_1), .second] [])) (fun _ k => XS.ifYes X0.here hx rfl (pc0 := 3) (pc' := 10) rfl (hb hby d2_3) rfl ((if0 _ _).trans (tlt ((lw_lt q2_0 q2_1).mpr c2)).1) (by decide) (by decide) k) ?_
   refine own_s (g' := (mkF m 11 #[.val (.long q2_0), .second, .val (.long q2_1), .second] [(.long q2_1)])) (fun _ k => XS.lloadN X0.here hx rfl (hb hby d2_10) rfl k) ?_
   refine own_retJ X0 hx hlk hret (hb hby d2_11) (by decide) (by decide) ?_
   show Q2 Z q2_0 q2_1 h0 n0 _ s₁.heap _
   rw [e0]
   exact ⟨(congrArg (fun z => some (Value.long z)) (show q2_1 = (r2 q2_0 q2_1) from (Eq.symm (if_pos c2)))), N0, rfl⟩
  ·skip
   refine own_s (g' := (mkF m 6 #[.val (.long q2_0), .second, .val (.long q2_1), .second] [])) (fun _ k => XS.ifNo X0.here hx rfl (hb hby d2_3) rfl ((if0 _ _).trans (flt (mt (lw_lt q2_0 q2_1).mp c2)).1) k) ?_
   refine own_s (g' := (mkF m 7 #[.val (.long q2_0), .second, .val (.long q2_1), .second] [(.long q2_0)])) (fun _ k => XS.lloadN X0.here hx rfl (hb hby d2_6) rfl k) ?_
   refine own_s (g' := (mkF m 11 #[.val (.long q2_0), .second, .val (.long q2_1), .second] [(.long q2_0)])) (fun _ k => XS.goto X0.here hx rfl (pc0 := 7) (pc' := 11) rfl (hb hby d2_7) (by decide) (by decide) k) ?_
   refine own_retJ X0 hx hlk hret (hb hby d2_11) (by decide) (by decide) ?_
   show Q2 Z q2_0 q2_1 h0 n0 _ s₁.heap _
   rw [e0]
   exact ⟨(congrArg (fun z => some (Value.long z)) (show q2_0 = (r2 q2_0 q2_1) from (Eq.symm (if_neg c2)))), N0, rfl⟩
theorem d3_0 : decode prog_61_method_10_code 0 = .ok (.lload 4, 2) := by decide +kernel
theorem d3_2 : decode prog_61_method_10_code 2 = .ok (.lload_n 2, 1) := by decide +kernel
theorem d3_3 : decode prog_61_method_10_code 3 = .ok (.lsub, 1) := by decide +kernel
theorem d3_4 : decode prog_61_method_10_code 4 = .ok (.lstore 6, 2) := by decide +kernel
theorem d3_6 : decode prog_61_method_10_code 6 = .ok (.lload 6, 2) := by decide +kernel
theorem d3_8 : decode prog_61_method_10_code 8 = .ok (.lload 6, 2) := by decide +kernel
theorem d3_10 : decode prog_61_method_10_code 10 = .ok (.lconst 1, 1) := by decide +kernel
theorem d3_11 : decode prog_61_method_10_code 11 = .ok (.lsub, 1) := by decide +kernel
theorem d3_12 : decode prog_61_method_10_code 12 = .ok (.land, 1) := by decide +kernel
theorem d3_13 : decode prog_61_method_10_code 13 = .ok (.lconst 0, 1) := by decide +kernel
theorem d3_14 : decode prog_61_method_10_code 14 = .ok (.lcmp, 1) := by decide +kernel
theorem d3_15 : decode prog_61_method_10_code 15 = .ok (.ifCond .ne 14, 3) := by decide +kernel
theorem d3_18 : decode prog_61_method_10_code 18 = .ok (.lload_n 0, 1) := by decide +kernel
theorem d3_19 : decode prog_61_method_10_code 19 = .ok (.lload 6, 2) := by decide +kernel
theorem d3_21 : decode prog_61_method_10_code 21 = .ok (.lconst 1, 1) := by decide +kernel
theorem d3_22 : decode prog_61_method_10_code 22 = .ok (.lsub, 1) := by decide +kernel
theorem d3_23 : decode prog_61_method_10_code 23 = .ok (.land, 1) := by decide +kernel
theorem d3_24 : decode prog_61_method_10_code 24 = .ok (.lstore 8, 2) := by decide +kernel
theorem d3_26 : decode prog_61_method_10_code 26 = .ok (.goto 67, 3) := by decide +kernel
theorem d3_29 : decode prog_61_method_10_code 29 = .ok (.lload 6, 2) := by decide +kernel
theorem d3_31 : decode prog_61_method_10_code 31 = .ok (.lconst 0, 1) := by decide +kernel
theorem d3_32 : decode prog_61_method_10_code 32 = .ok (.lcmp, 1) := by decide +kernel
theorem d3_33 : decode prog_61_method_10_code 33 = .ok (.ifCond .le 37, 3) := by decide +kernel
theorem d3_36 : decode prog_61_method_10_code 36 = .ok (.lload_n 0, 1) := by decide +kernel
theorem d3_37 : decode prog_61_method_10_code 37 = .ok (.iconst 1, 1) := by decide +kernel
theorem d3_38 : decode prog_61_method_10_code 38 = .ok (.lushr, 1) := by decide +kernel
theorem d3_39 : decode prog_61_method_10_code 39 = .ok (.lstore 10, 2) := by decide +kernel
theorem d3_41 : decode prog_61_method_10_code 41 = .ok (.lload 10, 2) := by decide +kernel
theorem d3_43 : decode prog_61_method_10_code 43 = .ok (.lload 6, 2) := by decide +kernel
theorem d3_45 : decode prog_61_method_10_code 45 = .ok (.lrem, 1) := by decide +kernel
theorem d3_46 : decode prog_61_method_10_code 46 = .ok (.lstore 8, 2) := by decide +kernel
theorem d3_48 : decode prog_61_method_10_code 48 = .ok (.lload 10, 2) := by decide +kernel
theorem d3_50 : decode prog_61_method_10_code 50 = .ok (.lload 6, 2) := by decide +kernel
theorem d3_52 : decode prog_61_method_10_code 52 = .ok (.lconst 1, 1) := by decide +kernel
theorem d3_53 : decode prog_61_method_10_code 53 = .ok (.lsub, 1) := by decide +kernel
theorem d3_54 : decode prog_61_method_10_code 54 = .ok (.ladd, 1) := by decide +kernel
theorem d3_55 : decode prog_61_method_10_code 55 = .ok (.lload 8, 2) := by decide +kernel
theorem d3_57 : decode prog_61_method_10_code 57 = .ok (.lsub, 1) := by decide +kernel
theorem d3_58 : decode prog_61_method_10_code 58 = .ok (.lconst 0, 1) := by decide +kernel
theorem d3_59 : decode prog_61_method_10_code 59 = .ok (.lcmp, 1) := by decide +kernel
theorem d3_60 : decode prog_61_method_10_code 60 = .ok (.ifCond .ge 7, 3) := by decide +kernel
theorem d3_63 : decode prog_61_method_10_code 63 = .ok (.ldc2_w 35, 3) := by decide +kernel
theorem d3_66 : decode prog_61_method_10_code 66 = .ok (.lreturn, 1) := by decide +kernel
theorem d3_67 : decode prog_61_method_10_code 67 = .ok (.goto 26, 3) := by decide +kernel
theorem d3_70 : decode prog_61_method_10_code 70 = .ok (.lload_n 0, 1) := by decide +kernel
theorem d3_71 : decode prog_61_method_10_code 71 = .ok (.lload_n 2, 1) := by decide +kernel
theorem d3_72 : decode prog_61_method_10_code 72 = .ok (.lcmp, 1) := by decide +kernel
theorem d3_73 : decode prog_61_method_10_code 73 = .ok (.ifCond .lt 16, 3) := by decide +kernel
theorem d3_76 : decode prog_61_method_10_code 76 = .ok (.lload_n 0, 1) := by decide +kernel
theorem d3_77 : decode prog_61_method_10_code 77 = .ok (.lload 4, 2) := by decide +kernel
theorem d3_79 : decode prog_61_method_10_code 79 = .ok (.lcmp, 1) := by decide +kernel
theorem d3_80 : decode prog_61_method_10_code 80 = .ok (.ifCond .ge 9, 3) := by decide +kernel
theorem d3_83 : decode prog_61_method_10_code 83 = .ok (.lload_n 0, 1) := by decide +kernel
theorem d3_84 : decode prog_61_method_10_code 84 = .ok (.lload_n 2, 1) := by decide +kernel
theorem d3_85 : decode prog_61_method_10_code 85 = .ok (.lsub, 1) := by decide +kernel
theorem d3_86 : decode prog_61_method_10_code 86 = .ok (.goto 6, 3) := by decide +kernel
theorem d3_89 : decode prog_61_method_10_code 89 = .ok (.ldc2_w 35, 3) := by decide +kernel
theorem d3_92 : decode prog_61_method_10_code 92 = .ok (.lreturn, 1) := by decide +kernel
theorem d3_93 : decode prog_61_method_10_code 93 = .ok (.lload 8, 2) := by decide +kernel
theorem d3_95 : decode prog_61_method_10_code 95 = .ok (.ldc2_w 51, 3) := by decide +kernel
theorem d3_98 : decode prog_61_method_10_code 98 = .ok (.land, 1) := by decide +kernel
theorem d3_99 : decode prog_61_method_10_code 99 = .ok (.lreturn, 1) := by decide +kernel
theorem pn_com_example_forkstream_forkstream_WordGenerator : plainName "com/example/forkstream/forkstream/WordGenerator" = true := by first | (simp [plainName, overriddenIn]; done) | decide +kernel
theorem ef_3 (m : MethodId) (q3_0 : Int64) (q3_1 : Int64) (q3_2 : Int64) : entryFrame m #[(.long q3_0), (.long q3_1), (.long q3_2)] 12 = mkF m 0 #[.val (.long q3_0), .second, .val (.long q3_1), .second, .val (.long q3_2), .second, .unset, .unset, .unset, .unset, .unset, .unset] [] := by first | (simp [entryFrame, mkF, argsToLocals, Value.category]; done) | rfl
def t3_4 (q3_1 : Int64) (q3_2 : Int64) : Int64 := (q3_2 - q3_1)
def r3 (q3_0 : Int64) (q3_1 : Int64) (q3_2 : Int64) : Int64 := (if ((t3_4 q3_1 q3_2) &&& ((t3_4 q3_1 q3_2) - (1 : Int64))) = (0 : Int64) then ((q3_0 &&& ((t3_4 q3_1 q3_2) - (1 : Int64))) &&& (9223372036854775807 : Int64)) else (if (0 : Int64) < (t3_4 q3_1 q3_2) then (if ((((q3_0.toUInt64 >>> ((1 : Int32) &&& 0x3f).toInt64.toUInt64).toInt64) + ((t3_4 q3_1 q3_2) - (1 : Int64))) - (((q3_0.toUInt64 >>> ((1 : Int32) &&& 0x3f).toInt64.toUInt64).toInt64) % (t3_4 q3_1 q3_2))) < (0 : Int64) then (-1 : Int64) else ((((q3_0.toUInt64 >>> ((1 : Int32) &&& 0x3f).toInt64.toUInt64).toInt64) % (t3_4 q3_1 q3_2)) &&& (9223372036854775807 : Int64))) else (if q3_0 < q3_1 then (-1 : Int64) else (if q3_0 < q3_2 then (q3_0 - q3_1) else (-1 : Int64)))))
def Q3 (Z : State) (q3_0 : Int64) (q3_1 : Int64) (q3_2 : Int64) (h0 : Heap) (n0 : Nat) (v : Option Value) (h : Heap) (L : List Loc) : Prop := v = some (.long (r3 q3_0 q3_1 q3_2)) ∧ Fr n0 L ∧ h = h0
set_option maxRecDepth 65536 in
set_option maxHeartbeats 40000000 in
theorem rm3 (l : Launch) (Z : State) (a0 : Array Value) (hw : ∀ d ∈ tables_1, d.before a0 Z = true) (ws : List Jvm.Cond) (q3_0 : Int64) (q3_1 : Int64) (q3_2 : Int64) (h0 : Heap) (n0 : Nat) (Z0 : n0 ≤ h0.size) :
    MetFree l (⟨"com/example/forkstream/forkstream/WordGenerator", "longOffset", "(JJJ)J"⟩ : MethodName) (head1 (Jvm.Cond.code (⟨"com/example/forkstream/forkstream/WordGenerator", "longOffset", "(JJJ)J"⟩ : MethodName) prog_61_method_10_code 12 (some .long) :: ws) ({ frames := 0, cells := 0, slots := 0, locals := 0 } : Room)) (fun a U => a = #[(.long q3_0), (.long q3_1), (.long q3_2)] ∧ Z.Warmed39 U.vm ∧ U.heap = h0) (fun _ _ _ _ _ => True) (fun _ U o U' => ∃ v L, o = .returned v ∧ Q3 Z q3_0 q3_1 q3_2 h0 n0 v U'.heap L ∧ FrameEnd U o U' L ({ frames := 0, cells := 0, slots := 0, locals := 0 } : Room).cells ({ frames := 0, cells := 0, slots := 0, locals := 0 } : Room).slots) := by
  refine MetFree.of_bodySF (plainFor_of_name pn_com_example_forkstream_forkstream_WordGenerator) hisR ?_
  intro p e s m args below meth c s₁ Bd hml0 hP hK
  obtain ⟨rfl, hZ, hh⟩ := hP
  have hx := Bd.exec
  have hby := Bd.bytes
  have hlk := Bd.notSynchronized
  have hret := Bd.returns
  have hml : c.maxLocals = 12 := hml0
  have hown : s.vm.findClass "com/example/forkstream/forkstream/WordGenerator" = some m.cls := findClass_of_methodNamed Bd.named
  have hnm := (name_of_methodNamed Bd.named Bd.method).1
  have X0 : Stand p l e ({ frames := 0, cells := 0, slots := 0, locals := 0 } : Room) s m #[(.long q3_0), (.long q3_1), (.long q3_2)] below meth c s₁ [] 0 0 := Stand.of_body Bd
  have e0 : s₁.heap = h0 := by rw [← hh, Bd.state]; rfl
  have N0 := Fr.nil n0
  have K0 : Keep h0 h0 [] := Keep.refl _ _
  show own_G p e below s (Q3 Z q3_0 q3_1 q3_2 h0 n0) ({ frames := 0, cells := 0, slots := 0, locals := 0 } : Room).cells ({ frames := 0, cells := 0, slots := 0, locals := 0 } : Room).slots s₁ (entryFrame m #[(.long q3_0), (.long q3_1), (.long q3_2)] 12)
  have ww11 := hw _ (List.mem_of_getElem? (i := 11) rfl)
  have ww19 := hw _ (List.mem_of_getElem? (i := 19) rfl)
  refine own_cast (ef_3 m q3_0 q3_1 q3_2) ?_
  refine own_s (g' := (mkF m 2 #[.val (.long q3_0), .second, .val (.long q3_1), .second, .val (.long q3_2), .second, .unset, .unset, .unset, .unset, .unset, .unset] [(.long q3_2)])) (fun _ k => XS.lload X0.here hx rfl (hb hby d3_0) rfl k) ?_
  refine own_s (g' := (mkF m 3 #[.val (.long q3_0), .second, .val (.long q3_1), .second, .val (.long q3_2), .second, .unset, .unset, .unset, .unset, .unset, .unset] [(.long q3_1), (.long q3_2)])) (fun _ k => XS.lloadN X0.here hx rfl (hb hby d3_2) rfl k) ?_
  refine own_s (g' := (mkF m 4 #[.val (.long q3_0), .second, .val (.long q3_1), .second, .val (.long q3_2), .second, .unset, .unset, .unset, .unset, .unset, .unset] [(.long (q3_2 - q3_1))])) (fun _ k => XS.lsub X0.here hx rfl (hb hby d3_3) rfl k) ?_
  refine own_s (g' := (mkF m 6 #[.val (.long q3_0), .second, .val (.long q3_1), .second, .val (.long q3_2), .second, .val (.long (t3_4 q3_1 q3_2)), .second, .unset, .unset, .unset, .unset] [])) (fun _ k => XS.lstore X0.here hx rfl (hb hby d3_4) rfl (l' := #[.val (.long q3_0), .second, .val (.long q3_1), .second, .val (.long q3_2), .second, .val (.long (t3_4 q3_1 q3_2)), .second, .unset, .unset, .unset, .unset]) rfl k) ?_
  refine own_s (g' := (mkF m 8 #[.val (.long q3_0), .second, .val (.long q3_1), .second, .val (.long q3_2), .second, .val (.long (t3_4 q3_1 q3_2)), .second, .unset, .unset, .unset, .unset] [(.long (t3_4 q3_1 q3_2))])) (fun _ k => XS.lload X0.here hx rfl (hb hby d3_6) rfl k) ?_
  refine own_s (g' := (mkF m 10 #[.val (.long q3_0), .second, .val (.long q3_1), .second, .val (.long q3_2), .second, .val (.long (t3_4 q3_1 q3_2)), .second, .unset, .unset, .unset, .unset] [(.long (t3_4 q3_1 q3_2)), (.long (t3_4 q3_1 q3_2))])) (fun _ k => XS.lload X0.here hx rfl (hb hby d3_8) rfl k) ?_
  refine own_s (g' := (mkF m 11 #[.val (.long q3_0), .second, .val (.long q3_1), .second, .val (.long q3_2), .second, .val (.long (t3_4 q3_1 q3_2)), .second, .unset, .unset, .unset, .unset] [(.long 1), (.long (t3_4 q3_1 q3_2)), (.long (t3_4 q3_1 q3_2))])) (fun _ k => XS.lconst X0.here hx rfl (hb hby d3_10) k) ?_
  refine own_s (g' := (mkF m 12 #[.val (.long q3_0), .second, .val (.long q3_1), .second, .val (.long q3_2), .second, .val (.long (t3_4 q3_1 q3_2)), .second, .unset, .unset, .unset, .unset] [(.long ((t3_4 q3_1 q3_2) - (1 : Int64))), (.long (t3_4 q3_1 q3_2))])) (fun _ k => XS.lsub X0.here hx rfl (hb hby d3_11) rfl k) ?_
  refine own_s (g' := (mkF m 13 #[.val (.long q3_0), .second, .val (.long q3_1), .second, .val (.long q3_2), .second, .val (.long (t3_4 q3_1 q3_2)), .second, .unset, .unset, .unset, .unset] [(.long ((t3_4 q3_1 q3_2) &&& ((t3_4 q3_1 q3_2) - (1 : Int64))))])) (fun _ k => XS.land X0.here hx rfl (hb hby d3_12) rfl k) ?_
  refine own_s (g' := (mkF m 14 #[.val (.long q3_0), .second, .val (.long q3_1), .second, .val (.long q3_2), .second, .val (.long (t3_4 q3_1 q3_2)), .second, .unset, .unset, .unset, .unset] [(.long 0), (.long ((t3_4 q3_1 q3_2) &&& ((t3_4 q3_1 q3_2) - (1 : Int64))))])) (fun _ k => XS.lconst X0.here hx rfl (hb hby d3_13) k) ?_
  refine own_s (g' := (mkF m 15 #[.val (.long q3_0), .second, .val (.long q3_1), .second, .val (.long q3_2), .second, .val (.long (t3_4 q3_1 q3_2)), .second, .unset, .unset, .unset, .unset] [(.int (lcmpW ((t3_4 q3_1 q3_2) &&& ((t3_4 q3_1 q3_2) - (1 : Int64))) (0 : Int64)))])) (fun _ k => XS.lcmp X0.here hx rfl (hb hby d3_14) rfl k) ?_
  by_cases c3 : ((t3_4 q3_1 q3_2) &&& ((t3_4 q3_1 q3_2) - (1 : Int64))) = (0 : Int64)
  ·skip
   refine own_s (g' := (mkF m 18 #[.val (.long q3_0), .second, .val (.long q3_1), .second, .val (.long q3_2), .second, .val (.long (t3_4 q3_1 q3_2)), .second, .unset, .unset, .unset, .unset] [])) (fun _ k => XS.ifNo X0.here hx rfl (hb hby d3_15) rfl ((if0 _ _).trans (teq ((lw_eq ((t3_4 q3_1 q3_2) &&& ((t3_4 q3_1 q3_2) - (1 : Int64))) (0 : Int64)).mpr c3)).2) k) ?_
   refine own_s (g' := (mkF m 19 #[.val (.long q3_0), .second, .val (.long q3_1), .second, .val (.long q3_2), .second, .val (.long (t3_4 q3_1 q3_2)), .second, .unset, .unset, .unset, .unset] [(.long q3_0)])) (fun _ k => XS.lloadN X0.here hx rfl (hb hby d3_18) rfl k) ?_
   refine own_s (g' := (mkF m 21 #[.val (.long q3_0), .second, .val (.long q3_1), .second, .val (.long q3_2), .second, .val (.long (t3_4 q3_1 q3_2)), .second, .unset, .unset, .unset, .unset] [(.long (t3_4 q3_1 q3_2)), (.long q3_0)])) (fun _ k => XS.lload X0.here hx rfl (hb hby d3_19) rfl k) ?_
   refine own_s (g' := (mkF m 22 #[.val (.long q3_0), .second, .val (.long q3_1), .second, .val (.long q3_2), .second, .val (.long (t3_4 q3_1 q3_2)), .second, .unset, .unset, .unset, .unset] [(.long 1), (.long (t3_4 q3_1 q3_2)), (.long q3_0)])) (fun _ k => XS.lconst X0.here hx rfl (hb hby d3_21) k) ?_
   refine own_s (g' := (mkF m 23 #[.val (.long q3_0), .second, .val (.long q3_1), .second, .val (.long q3_2), .second, .val (.long (t3_4 q3_1 q3_2)), .second, .unset, .unset, .unset, .unset] [(.long ((t3_4 q3_1 q3_2) - (1 : Int64))), (.long q3_0)])) (fun _ k => XS.lsub X0.here hx rfl (hb hby d3_22) rfl k) ?_
   refine own_s (g' := (mkF m 24 #[.val (.long q3_0), .second, .val (.long q3_1), .second, .val (.long q3_2), .second, .val (.long (t3_4 q3_1 q3_2)), .second, .unset, .unset, .unset, .unset] [(.long (q3_0 &&& ((t3_4 q3_1 q3_2) - (1 : Int64))))])) (fun _ k => XS.land X0.here hx rfl (hb hby d3_23) rfl k) ?_
   refine own_s (g' := (mkF m 26 #[.val (.long q3_0), .second, .val (.long q3_1), .second, .val (.long q3_2), .second, .val (.long (t3_4 q3_1 q3_2)), .second, .val (.long (q3_0 &&& ((t3_4 q3_1 q3_2) - (1 : Int64)))), .second, .unset, .unset] [])) (fun _ k => XS.lstore X0.here hx rfl (hb hby d3_24) rfl (l' := #[.val (.long q3_0), .second, .val (.long q3_1), .second, .val (.long q3_2), .second, .val (.long (t3_4 q3_1 q3_2)), .second, .val (.long (q3_0 &&& ((t3_4 q3_1 q3_2) - (1 : Int64)))), .second, .unset, .unset]) rfl k) ?_
   refine own_s (g' := (mkF m 93 #[.val (.long q3_0), .second, .val (.long q3_1), .second, .val (.long q3_2), .second, .val (.long (t3_4 q3_1 q3_2)), .second, .val (.long (q3_0 &&& ((t3_4 q3_1 q3_2) - (1 : Int64)))), .second, .unset, .unset] [])) (fun _ k => XS.goto X0.here hx rfl (pc0 := 26) (pc' := 93) rfl (hb hby d3_26) (by decide) (by decide) k) ?_
   refine own_s (g' := (mkF m 95 #[.val (.long q3_0), .second, .val (.long q3_1), .second, .val (.long q3_2), .second, .val (.long (t3_4 q3_1 q3_2)), .second, .val (.long (q3_0 &&& ((t3_4 q3_1 q3_2) - (1 : Int64)))), .second, .unset, .unset] [(.long (q3_0 &&& ((t3_4 q3_1 q3_2) - (1 : Int64))))])) (fun _ k => XS.lload X0.here hx rfl (hb hby d3_93) rfl k) ?_
   refine own_s (g' := (mkF m 98 #[.val (.long q3_0), .second, .val (.long q3_1), .second, .val (.long q3_2), .second, .val (.long (t3_4 q3_1 q3_2)), .second, .val (.long (q3_0 &&& ((t3_4 q3_1 q3_2) - (1 : Int64)))), .second, .unset, .unset] [(.long 9223372036854775807), (.long (q3_0 &&& ((t3_4 q3_1 q3_2) - (1 : Int64))))])) (X0.ldc2Long hx hown (mvT hZ ww11) (g := (mkF m 95 #[.val (.long q3_0), .second, .val (.long q3_1), .second, .val (.long q3_2), .second, .val (.long (t3_4 q3_1 q3_2)), .second, .val (.long (q3_0 &&& ((t3_4 q3_1 q3_2) - (1 : Int64)))), .second, .unset, .unset] [(.long (q3_0 &&& ((t3_4 q3_1 q3_2) - (1 : Int64))))])) rfl (hb hby d3_95)) ?_
   refine own_s (g' := (mkF m 99 #[.val (.long q3_0), .second, .val (.long q3_1), .second, .val (.long q3_2), .second, .val (.long (t3_4 q3_1 q3_2)), .second, .val (.long (q3_0 &&& ((t3_4 q3_1 q3_2) - (1 : Int64)))), .second, .unset, .unset] [(.long ((q3_0 &&& ((t3_4 q3_1 q3_2) - (1 : Int64))) &&& (9223372036854775807 : Int64)))])) (fun _ k => XS.land X0.here hx rfl (hb hby d3_98) rfl k) ?_
   refine own_retJ X0 hx hlk hret (hb hby d3_99) (by decide) (by decide) ?_
   show Q3 Z q3_0 q3_1 q3_2 h0 n0 _ s₁.heap _
   rw [e0]
   exact ⟨(congrArg (fun z => some (Value.long z)) (show ((q3_0 &&& ((t3_4 q3_1 q3_2) - (1 : Int64))) &&& (9223372036854775807 : Int64)) = (r3 q3_0 q3_1 q3_2) from (Eq.symm (if_pos c3)))), N0, rfl⟩
  ·skip
   refine own_s (g' := (mkF m 29 #[.val (.long q3_0), .second, .val (.long q3_1), .second, .val (.long q3_2), .second, .val (.long (t3_4 q3_1 q3_2)), .second, .unset, .unset, .unset, .unset] [])) (fun _ k => XS.ifYes X0.here hx rfl (pc0 := 15) (pc' := 29) rfl (hb hby d3_15) rfl ((if0 _ _).trans (feq (mt (lw_eq ((t3_4 q3_1 q3_2) &&& ((t3_4 q3_1 q3_2) - (1 : Int64))) (0 : Int64)).mp c3)).2) (by decide) (by decide) k) ?_
   refine own_s (g' := (mkF m 31 #[.val (.long q3_0), .second, .val (.long q3_1), .second, .val (.long q3_2), .second, .val (.long (t3_4 q3_1 q3_2)), .second, .unset, .unset, .unset, .unset] [(.long (t3_4 q3_1 q3_2))])) (fun _ k => XS.lload X0.here hx rfl (hb hby d3_29) rfl k) ?_
   refine own_s (g' := (mkF m 32 #[.val (.long q3_0), .second, .val (.long q3_1), .second, .val (.long q3_2), .second, .val (.long (t3_4 q3_1 q3_2)), .second, .unset, .unset, .unset, .unset] [(.long 0), (.long (t3_4 q3_1 q3_2))])) (fun _ k => XS.lconst X0.here hx rfl (hb hby d3_31) k) ?_
   refine own_s (g' := (mkF m 33 #[.val (.long q3_0), .second, .val (.long q3_1), .second, .val (.long q3_2), .second, .val (.long (t3_4 q3_1 q3_2)), .second, .unset, .unset, .unset, .unset] [(.int (lcmpW (t3_4 q3_1 q3_2) (0 : Int64)))])) (fun _ k => XS.lcmp X0.here hx rfl (hb hby d3_32) rfl k) ?_
   by_cases c4 : (0 : Int64) < (t3_4 q3_1 q3_2)
   ·skip
    refine own_s (g' := (mkF m 36 #[.val (.long q3_0), .second, .val (.long q3_1), .second, .val (.long q3_2), .second, .val (.long (t3_4 q3_1 q3_2)), .second, .unset, .unset, .unset, .unset] [])) (fun _ k => XS.ifNo X0.here hx rfl (hb hby d3_33) rfl ((if0 _ _).trans (tlt ((lw_gt (t3_4 q3_1 q3_2) (0 : Int64)).mpr c4)).2.2.2) k) ?_
    refine own_s (g' := (mkF m 37 #[.val (.long q3_0), .second, .val (.long q3_1), .second, .val (.long q3_2), .second, .val (.long (t3_4 q3_1 q3_2)), .second, .unset, .unset, .unset, .unset] [(.long q3_0)])) (fun _ k => XS.lloadN X0.here hx rfl (hb hby d3_36) rfl k) ?_
    refine own_s (g' := (mkF m 38 #[.val (.long q3_0), .second, .val (.long q3_1), .second, .val (.long q3_2), .second, .val (.long (t3_4 q3_1 q3_2)), .second, .unset, .unset, .unset, .unset] [(.int 1), (.long q3_0)])) (fun _ k => XS.iconst X0.here hx rfl (hb hby d3_37) k) ?_
    refine own_s (g' := (mkF m 39 #[.val (.long q3_0), .second, .val (.long q3_1), .second, .val (.long q3_2), .second, .val (.long (t3_4 q3_1 q3_2)), .second, .unset, .unset, .unset, .unset] [(.long ((q3_0.toUInt64 >>> ((1 : Int32) &&& 0x3f).toInt64.toUInt64).toInt64))])) (fun _ k => XS.lushr X0.here hx rfl (hb hby d3_38) rfl k) ?_
    refine own_s (g' := (mkF m 41 #[.val (.long q3_0), .second, .val (.long q3_1), .second, .val (.long q3_2), .second, .val (.long (t3_4 q3_1 q3_2)), .second, .unset, .unset, .val (.long ((q3_0.toUInt64 >>> ((1 : Int32) &&& 0x3f).toInt64.toUInt64).toInt64)), .second] [])) (fun _ k => XS.lstore X0.here hx rfl (hb hby d3_39) rfl (l' := #[.val (.long q3_0), .second, .val (.long q3_1), .second, .val (.long q3_2), .second, .val (.long (t3_4 q3_1 q3_2)), .second, .unset, .unset, .val (.long ((q3_0.toUInt64 >>> ((1 : Int32) &&& 0x3f).toInt64.toUInt64).toInt64)), .second]) rfl k) ?_
    refine own_s (g' := (mkF m 43 #[.val (.long q3_0), .second, .val (.long q3_1), .second, .val (.long q3_2), .second, .val (.long (t3_4 q3_1 q3_2)), .second, .unset, .unset, .val (.long ((q3_0.toUInt64 >>> ((1 : Int32) &&& 0x3f).toInt64.toUInt64).toInt64)), .second] [(.long ((q3_0.toUInt64 >>> ((1 : Int32) &&& 0x3f).toInt64.toUInt64).toInt64))])) (fun _ k => XS.lload X0.here hx rfl (hb hby d3_41) rfl k) ?_
    refine own_s (g' := (mkF m 45 #[.val (.long q3_0), .second, .val (.long q3_1), .second, .val (.long q3_2), .second, .val (.long (t3_4 q3_1 q3_2)), .second, .unset, .unset, .val (.long ((q3_0.toUInt64 >>> ((1 : Int32) &&& 0x3f).toInt64.toUInt64).toInt64)), .second] [(.long (t3_4 q3_1 q3_2)), (.long ((q3_0.toUInt64 >>> ((1 : Int32) &&& 0x3f).toInt64.toUInt64).toInt64))])) (fun _ k => XS.lload X0.here hx rfl (hb hby d3_43) rfl k) ?_
    refine own_s (g' := (mkF m 46 #[.val (.long q3_0), .second, .val (.long q3_1), .second, .val (.long q3_2), .second, .val (.long (t3_4 q3_1 q3_2)), .second, .unset, .unset, .val (.long ((q3_0.toUInt64 >>> ((1 : Int32) &&& 0x3f).toInt64.toUInt64).toInt64)), .second] [(.long (((q3_0.toUInt64 >>> ((1 : Int32) &&& 0x3f).toInt64.toUInt64).toInt64) % (t3_4 q3_1 q3_2)))])) (fun _ k => XS.lrem X0.here hx rfl (hb hby d3_45) rfl (own_ltne'J c4) (by rw [lrem_mod]; exact k)) ?_
    refine own_s (g' := (mkF m 48 #[.val (.long q3_0), .second, .val (.long q3_1), .second, .val (.long q3_2), .second, .val (.long (t3_4 q3_1 q3_2)), .second, .val (.long (((q3_0.toUInt64 >>> ((1 : Int32) &&& 0x3f).toInt64.toUInt64).toInt64) % (t3_4 q3_1 q3_2))), .second, .val (.long ((q3_0.toUInt64 >>> ((1 : Int32) &&& 0x3f).toInt64.toUInt64).toInt64)), .second] [])) (fun _ k => XS.lstore X0.here hx rfl (hb hby d3_46) rfl (l' := #[.val (.long q3_0), .second, .val (.long q3_1), .second, .val (.long q3_2), .second, .val (.long (t3_4 q3_1 q3_2)), .second, .val (.long (((q3_0.toUInt64 >>> ((1 : Int32) &&& 0x3f).toInt64.toUInt64).toInt64) % (t3_4 q3_1 q3_2))), .second, .val (.long ((q3_0.toUInt64 >>> ((1 : Int32) &&& 0x3f).toInt64.toUInt64).toInt64)), .second]) rfl k) ?_
    refine own_s (g' := (mkF m 50 #[.val (.long q3_0), .second, .val (.long q3_1), .second, .val (.long q3_2), .second, .val (.long (t3_4 q3_1 q3_2)), .second, .val (.long (((q3_0.toUInt64 >>> ((1 : Int32) &&& 0x3f).toInt64.toUInt64).toInt64) % (t3_4 q3_1 q3_2))), .second, .val (.long ((q3_0.toUInt64 >>> ((1 : Int32) &&& 0x3f).toInt64.toUInt64).toInt64)), .second] [(.long ((q3_0.toUInt64 >>> ((1 : Int32) &&& 0x3f).toInt64.toUInt64).toInt64))])) (fun _ k => XS.lload X0.here hx rfl (hb hby d3_48) rfl k) ?_
    refine own_s (g' := (mkF m 52 #[.val (.long q3_0), .second, .val (.long q3_1), .second, .val (.long q3_2), .second, .val (.long (t3_4 q3_1 q3_2)), .second, .val (.long (((q3_0.toUInt64 >>> ((1 : Int32) &&& 0x3f).toInt64.toUInt64).toInt64) % (t3_4 q3_1 q3_2))), .second, .val (.long ((q3_0.toUInt64 >>> ((1 : Int32) &&& 0x3f).toInt64.toUInt64).toInt64)), .second] [(.long (t3_4 q3_1 q3_2)), (.long ((q3_0.toUInt64 >>> ((1 : Int32) &&& 0x3f).toInt64.toUInt64).toInt64))])) (fun _ k => XS.lload X0.here hx rfl (hb hby d3_50) rfl k) ?_
    refine own_s (g' := (mkF m 53 #[.val (.long q3_0), .second, .val (.long q3_1), .second, .val (.long q3_2), .second, .val (.long (t3_4 q3_1 q3_2)), .second, .val (.long (((q3_0.toUInt64 >>> ((1 : Int32) &&& 0x3f).toInt64.toUInt64).toInt64) % (t3_4 q3_1 q3_2))), .second, .val (.long ((q3_0.toUInt64 >>> ((1 : Int32) &&& 0x3f).toInt64.toUInt64).toInt64)), .second] [(.long 1), (.long (t3_4 q3_1 q3_2)), (.long ((q3_0.toUInt64 >>> ((1 : Int32) &&& 0x3f).toInt64.toUInt64).toInt64))])) (fun _ k => XS.lconst X0.here hx rfl (hb hby d3_52) k) ?_
    refine own_s (g' := (mkF m 54 #[.val (.long q3_0), .second, .val (.long q3_1), .second, .val (.long q3_2), .second, .val (.long (t3_4 q3_1 q3_2)), .second, .val (.long (((q3_0.toUInt64 >>> ((1 : Int32) &&& 0x3f).toInt64.toUInt64).toInt64) % (t3_4 q3_1 q3_2))), .second, .val (.long ((q3_0.toUInt64 >>> ((1 : Int32) &&& 0x3f).toInt64.toUInt64).toInt64)), .second] [(.long ((t3_4 q3_1 q3_2) - (1 : Int64))), (.long ((q3_0.toUInt64 >>> ((1 : Int32) &&& 0x3f).toInt64.toUInt64).toInt64))])) (fun _ k => XS.lsub X0.here hx rfl (hb hby d3_53) rfl k) ?_
    refine own_s (g' := (mkF m 55 #[.val (.long q3_0), .second, .val (.long q3_1), .second, .val (.long q3_2), .second, .val (.long (t3_4 q3_1 q3_2)), .second, .val (.long (((q3_0.toUInt64 >>> ((1 : Int32) &&& 0x3f).toInt64.toUInt64).toInt64) % (t3_4 q3_1 q3_2))), .second, .val (.long ((q3_0.toUInt64 >>> ((1 : Int32) &&& 0x3f).toInt64.toUInt64).toInt64)), .second] [(.long (((q3_0.toUInt64 >>> ((1 : Int32) &&& 0x3f).toInt64.toUInt64).toInt64) + ((t3_4 q3_1 q3_2) - (1 : Int64))))])) (fun _ k => XS.ladd X0.here hx rfl (hb hby d3_54) rfl k) ?_
    refine own_s (g' := (mkF m 57 #[.val (.long q3_0), .second, .val (.long q3_1), .second, .val (.long q3_2), .second, .val (.long (t3_4 q3_1 q3_2)), .second, .val (.long (((q3_0.toUInt64 >>> ((1 : Int32) &&& 0x3f).toInt64.toUInt64).toInt64) % (t3_4 q3_1 q3_2))), .second, .val (.long ((q3_0.toUInt64 >>> ((1 : Int32) &&& 0x3f).toInt64.toUInt64).toInt64)), .second] [(.long (((q3_0.toUInt64 >>> ((1 : Int32) &&& 0x3f).toInt64.toUInt64).toInt64) % (t3_4 q3_1 q3_2))), (.long (((q3_0.toUInt64 >>> ((1 : Int32) &&& 0x3f).toInt64.toUInt64).toInt64) + ((t3_4 q3_1 q3_2) - (1 : Int64))))])) (fun _ k => XS.lload X0.here hx rfl (hb hby d3_55) rfl k) ?_
    refine own_s (g' := (mkF m 58 #[.val (.long q3_0), .second, .val (.long q3_1), .second, .val (.long q3_2), .second, .val (.long (t3_4 q3_1 q3_2)), .second, .val (.long (((q3_0.toUInt64 >>> ((1 : Int32) &&& 0x3f).toInt64.toUInt64).toInt64) % (t3_4 q3_1 q3_2))), .second, .val (.long ((q3_0.toUInt64 >>> ((1 : Int32) &&& 0x3f).toInt64.toUInt64).toInt64)), .second] [(.long ((((q3_0.toUInt64 >>> ((1 : Int32) &&& 0x3f).toInt64.toUInt64).toInt64) + ((t3_4 q3_1 q3_2) - (1 : Int64))) - (((q3_0.toUInt64 >>> ((1 : Int32) &&& 0x3f).toInt64.toUInt64).toInt64) % (t3_4 q3_1 q3_2))))])) (fun _ k => XS.lsub X0.here hx rfl (hb hby d3_57) rfl k) ?_
    refine own_s (g' := (mkF m 59 #[.val (.long q3_0), .second, .val (.long q3_1), .second, .val (.long q3_2), .second, .val (.long (t3_4 q3_1 q3_2)), .second, .val (.long (((q3_0.toUInt64 >>> ((1 : Int32) &&& 0x3f).toInt64.toUInt64).toInt64) % (t3_4 q3_1 q3_2))), .second, .val (.long ((q3_0.toUInt64 >>> ((1 : Int32) &&& 0x3f).toInt64.toUInt64).toInt64)), .second] [(.long 0), (.long ((((q3_0.toUInt64 >>> ((1 : Int32) &&& 0x3f).toInt64.toUInt64).toInt64) + ((t3_4 q3_1 q3_2) - (1 : Int64))) - (((q3_0.toUInt64 >>> ((1 : Int32) &&& 0x3f).toInt64.toUInt64).toInt64) % (t3_4 q3_1 q3_2))))])) (fun _ k => XS.lconst X0.here hx rfl (hb hby d3_58) k) ?_
    refine own_s (g' := (mkF m 60 #[.val (.long q3_0), .second, .val (.long q3_1), .second, .val (.long q3_2), .second, .val (.long (t3_4 q3_1 q3_2)), .second, .val (.long (((q3_0.toUInt64 >>> ((1 : Int32) &&& 0x3f).toInt64.toUInt64).toInt64) % (t3_4 q3_1 q3_2))), .second, .val (.long ((q3_0.toUInt64 >>> ((1 : Int32) &&& 0x3f).toInt64.toUInt64).toInt64)), .second] [(.int (lcmpW ((((q3_0.toUInt64 >>> ((1 : Int32) &&& 0x3f).toInt64.toUInt64).toInt64) + ((t3_4 q3_1 q3_2) - (1 : Int64))) - (((q3_0.toUInt64 >>> ((1 : Int32) &&& 0x3f).toInt64.toUInt64).toInt64) % (t3_4 q3_1 q3_2))) (0 : Int64)))])) (fun _ k => XS.lcmp X0.here hx rfl (hb hby d3_59) rfl k) ?_
    by_cases c5 : ((((q3_0.toUInt64 >>> ((1 : Int32) &&& 0x3f).toInt64.toUInt64).toInt64) + ((t3_4 q3_1 q3_2) - (1 : Int64))) - (((q3_0.toUInt64 >>> ((1 : Int32) &&& 0x3f).toInt64.toUInt64).toInt64) % (t3_4 q3_1 q3_2))) < (0 : Int64)
    ·skip
     refine own_s (g' := (mkF m 63 #[.val (.long q3_0), .second, .val (.long q3_1), .second, .val (.long q3_2), .second, .val (.long (t3_4 q3_1 q3_2)), .second, .val (.long (((q3_0.toUInt64 >>> ((1 : Int32) &&& 0x3f).toInt64.toUInt64).toInt64) % (t3_4 q3_1 q3_2))), .second, .val (.long ((q3_0.toUInt64 >>> ((1 : Int32) &&& 0x3f).toInt64.toUInt64).toInt64)), .second] [])) (fun _ k => XS.ifNo X0.here hx rfl (hb hby d3_60) rfl ((if0 _ _).trans (tlt ((lw_lt ((((q3_0.toUInt64 >>> ((1 : Int32) &&& 0x3f).toInt64.toUInt64).toInt64) + ((t3_4 q3_1 q3_2) - (1 : Int64))) - (((q3_0.toUInt64 >>> ((1 : Int32) &&& 0x3f).toInt64.toUInt64).toInt64) % (t3_4 q3_1 q3_2))) (0 : Int64)).mpr c5)).2.1) k) ?_
     refine own_s (g' := (mkF m 66 #[.val (.long q3_0), .second, .val (.long q3_1), .second, .val (.long q3_2), .second, .val (.long (t3_4 q3_1 q3_2)), .second, .val (.long (((q3_0.toUInt64 >>> ((1 : Int32) &&& 0x3f).toInt64.toUInt64).toInt64) % (t3_4 q3_1 q3_2))), .second, .val (.long ((q3_0.toUInt64 >>> ((1 : Int32) &&& 0x3f).toInt64.toUInt64).toInt64)), .second] [(.long (-1))])) (X0.ldc2Long hx hown (mvT hZ ww19) (g := (mkF m 63 #[.val (.long q3_0), .second, .val (.long q3_1), .second, .val (.long q3_2), .second, .val (.long (t3_4 q3_1 q3_2)), .second, .val (.long (((q3_0.toUInt64 >>> ((1 : Int32) &&& 0x3f).toInt64.toUInt64).toInt64) % (t3_4 q3_1 q3_2))), .second, .val (.long ((q3_0.toUInt64 >>> ((1 : Int32) &&& 0x3f).toInt64.toUInt64).toInt64)), .second] [])) rfl (hb hby d3_63)) ?_
     refine own_retJ X0 hx hlk hret (hb hby d3_66) (by decide) (by decide) ?_
     show Q3 Z q3_0 q3_1 q3_2 h0 n0 _ s₁.heap _
     rw [e0]
     exact ⟨(congrArg (fun z => some (Value.long z)) (show (-1 : Int64) = (r3 q3_0 q3_1 q3_2) from (Eq.symm ((if_neg c3).trans ((if_pos c4).trans (if_pos c5)))))), N0, rfl⟩
    ·skip
     refine own_s (g' := (mkF m 67 #[.val (.long q3_0), .second, .val (.long q3_1), .second, .val (.long q3_2), .second, .val (.long (t3_4 q3_1 q3_2)), .second, .val (.long (((q3_0.toUInt64 >>> ((1 : Int32) &&& 0x3f).toInt64.toUInt64).toInt64) % (t3_4 q3_1 q3_2))), .second, .val (.long ((q3_0.toUInt64 >>> ((1 : Int32) &&& 0x3f).toInt64.toUInt64).toInt64)), .second] [])) (fun _ k => XS.ifYes X0.here hx rfl (pc0 := 60) (pc' := 67) rfl (hb hby d3_60) rfl ((if0 _ _).trans (flt (mt (lw_lt ((((q3_0.toUInt64 >>> ((1 : Int32) &&& 0x3f).toInt64.toUInt64).toInt64) + ((t3_4 q3_1 q3_2) - (1 : Int64))) - (((q3_0.toUInt64 >>> ((1 : Int32) &&& 0x3f).toInt64.toUInt64).toInt64) % (t3_4 q3_1 q3_2))) (0 : Int64)).mp c5)).2.1) (by decide) (by decide) k) ?_
     refine own_s (g' := (mkF m 93 #[.val (.long q3_0), .second, .val (.long q3_1), .second, .val (.long q3_2), .second, .val (.long (t3_4 q3_1 q3_2)), .second, .val (.long (((q3_0.toUInt64 >>> ((1 : Int32) &&& 0x3f).toInt64.toUInt64).toInt64) % (t3_4 q3_1 q3_2))), .second, .val (.long ((q3_0.toUInt64 >>> ((1 : Int32) &&& 0x3f).toInt64.toUInt64).toInt64)), .second] [])) (fun _ k => XS.goto X0.here hx rfl (pc0 := 67) (pc' := 93) rfl (hb hby d3_67) (by decide) (by decide) k) ?_
     refine own_s (g' := (mkF m 95 #[.val (.long q3_0), .second, .val (.long q3_1), .second, .val (.long q3_2), .second, .val (.long (t3_4 q3_1 q3_2)), .second, .val (.long (((q3_0.toUInt64 >>> ((1 : Int32) &&& 0x3f).toInt64.toUInt64).toInt64) % (t3_4 q3_1 q3_2))), .second, .val (.long ((q3_0.toUInt64 >>> ((1 : Int32) &&& 0x3f).toInt64.toUInt64).toInt64)), .second] [(.long (((q3_0.toUInt64 >>> ((1 : Int32) &&& 0x3f).toInt64.toUInt64).toInt64) % (t3_4 q3_1 q3_2)))])) (fun _ k => XS.lload X0.here hx rfl (hb hby d3_93) rfl k) ?_
     refine own_s (g' := (mkF m 98 #[.val (.long q3_0), .second, .val (.long q3_1), .second, .val (.long q3_2), .second, .val (.long (t3_4 q3_1 q3_2)), .second, .val (.long (((q3_0.toUInt64 >>> ((1 : Int32) &&& 0x3f).toInt64.toUInt64).toInt64) % (t3_4 q3_1 q3_2))), .second, .val (.long ((q3_0.toUInt64 >>> ((1 : Int32) &&& 0x3f).toInt64.toUInt64).toInt64)), .second] [(.long 9223372036854775807), (.long (((q3_0.toUInt64 >>> ((1 : Int32) &&& 0x3f).toInt64.toUInt64).toInt64) % (t3_4 q3_1 q3_2)))])) (X0.ldc2Long hx hown (mvT hZ ww11) (g := (mkF m 95 #[.val (.long q3_0), .second, .val (.long q3_1), .second, .val (.long q3_2), .second, .val (.long (t3_4 q3_1 q3_2)), .second, .val (.long (((q3_0.toUInt64 >>> ((1 : Int32) &&& 0x3f).toInt64.toUInt64).toInt64) % (t3_4 q3_1 q3_2))), .second, .val (.long ((q3_0.toUInt64 >>> ((1 : Int32) &&& 0x3f).toInt64.toUInt64).toInt64)), .second] [(.long (((q3_0.toUInt64 >>> ((1 : Int32) &&& 0x3f).toInt64.toUInt64).toInt64) % (t3_4 q3_1 q3_2)))])) rfl (hb hby d3_95)) ?_
     refine own_s (g' := (mkF m 99 #[.val (.long q3_0), .second, .val (.long q3_1), .second, .val (.long q3_2), .second, .val (.long (t3_4 q3_1 q3_2)), .second, .val (.long (((q3_0.toUInt64 >>> ((1 : Int32) &&& 0x3f).toInt64.toUInt64).toInt64) % (t3_4 q3_1 q3_2))), .second, .val (.long ((q3_0.toUInt64 >>> ((1 : Int32) &&& 0x3f).toInt64.toUInt64).toInt64)), .second] [(.long ((((q3_0.toUInt64 >>> ((1 : Int32) &&& 0x3f).toInt64.toUInt64).toInt64) % (t3_4 q3_1 q3_2)) &&& (9223372036854775807 : Int64)))])) (fun _ k => XS.land X0.here hx rfl (hb hby d3_98) rfl k) ?_
     refine own_retJ X0 hx hlk hret (hb hby d3_99) (by decide) (by decide) ?_
     show Q3 Z q3_0 q3_1 q3_2 h0 n0 _ s₁.heap _
     rw [e0]
     exact ⟨(congrArg (fun z => some (Value.long z)) (show ((((q3_0.toUInt64 >>> ((1 : Int32) &&& 0x3f).toInt64.toUInt64).toInt64) % (t3_4 q3_1 q3_2)) &&& (9223372036854775807 : Int64)) = (r3 q3_0 q3_1 q3_2) from (Eq.symm ((if_neg c3).trans ((if_pos c4).trans (if_neg c5)))))), N0, rfl⟩
   ·skip
    refine own_s (g' := (mkF m 70 #[.val (.long q3_0), .second, .val (.long q3_1), .second, .val (.long q3_2), .second, .val (.long (t3_4 q3_1 q3_2)), .second, .unset, .unset, .unset, .unset] [])) (fun _ k => XS.ifYes X0.here hx rfl (pc0 := 33) (pc' := 70) rfl (hb hby d3_33) rfl ((if0 _ _).trans (flt (mt (lw_gt (t3_4 q3_1 q3_2) (0 : Int64)).mp c4)).2.2.2) (by decide) (by decide) k) ?_
    refine own_s (g' := (mkF m 71 #[.val (.long q3_0), .second, .val (.long q3_1), .second, .val (.long q3_2), .second, .val (.long (t3_4 q3_1 q3_2)), .second, .unset, .unset, .unset, .unset] [(.long q3_0)])) (fun _ k => XS.lloadN X0.here hx rfl (hb hby d3_70) rfl k) ?_
    refine own_s (g' := (mkF m 72 #[.val (.long q3_0), .second, .val (.long q3_1), .second, .val (.long q3_2), .second, .val (.long (t3_4 q3_1 q3_2)), .second, .unset, .unset, .unset, .unset] [(.long q3_1), (.long q3_0)])) (fun _ k => XS.lloadN X0.here hx rfl (hb hby d3_71) rfl k) ?_
    refine own_s (g' := (mkF m 73 #[.val (.long q3_0), .second, .val (.long q3_1), .second, .val (.long q3_2), .second, .val (.long (t3_4 q3_1 q3_2)), .second, .unset, .unset, .unset, .unset] [(.int (lcmpW q3_0 q3_1))])) (fun _ k => XS.lcmp X0.here hx rfl (hb hby d3_72) rfl k) ?_
    by_cases c6 : q3_0 < q3_1
    ·skip
     refine own_s (g' := (mkF m 89 #[.val (.long q3_0), .second, .val (.long q3_1), .second, .val (.long q3_2), .second, .val (.long (t3_4 q3_1 q3_2)), .second, .unset, .unset, .unset, .unset] [])) (fun _ k => XS.ifYes X0.here hx rfl (pc0 := 73) (pc' := 89) rfl (hb hby d3_73) rfl ((if0 _ _).trans (tlt ((lw_lt q3_0 q3_1).mpr c6)).1) (by decide) (by decide) k) ?_
     refine own_s (g' := (mkF m 92 #[.val (.long q3_0), .second, .val (.long q3_1), .second, .val (.long q3_2), .second, .val (.long (t3_4 q3_1 q3_2)), .second, .unset, .unset, .unset, .unset] [(.long (-1))])) (X0.ldc2Long hx hown (mvT hZ ww19) (g := (mkF m 89 #[.val (.long q3_0), .second, .val (.long q3_1), .second, .val (.long q3_2), .second, .val (.long (t3_4 q3_1 q3_2)), .second, .unset, .unset, .unset, .unset] [])) rfl (hb hby d3_89)) ?_
     refine own_retJ X0 hx hlk hret (hb hby d3_92) (by decide) (by decide) ?_
     show Q3 Z q3_0 q3_1 q3_2 h0 n0 _ s₁.heap _
     rw [e0]
     exact ⟨(congrArg (fun z => some (Value.long z)) (show (-1 : Int64) = (r3 q3_0 q3_1 q3_2) from (Eq.symm ((if_neg c3).trans ((if_neg c4).trans (if_pos c6)))))), N0, rfl⟩
    ·skip
     refine own_s (g' := (mkF m 76 #[.val (.long q3_0), .second, .val (.long q3_1), .second, .val (.long q3_2), .second, .val (.long (t3_4 q3_1 q3_2)), .second, .unset, .unset, .unset, .unset] [])) (fun _ k => XS.ifNo X0.here hx rfl (hb hby d3_73) rfl ((if0 _ _).trans (flt (mt (lw_lt q3_0 q3_1).mp c6)).1) k) ?_
     refine own_s (g' := (mkF m 77 #[.val (.long q3_0), .second, .val (.long q3_1), .second, .val (.long q3_2), .second, .val (.long (t3_4 q3_1 q3_2)), .second, .unset, .unset, .unset, .unset] [(.long q3_0)])) (fun _ k => XS.lloadN X0.here hx rfl (hb hby d3_76) rfl k) ?_
     refine own_s (g' := (mkF m 79 #[.val (.long q3_0), .second, .val (.long q3_1), .second, .val (.long q3_2), .second, .val (.long (t3_4 q3_1 q3_2)), .second, .unset, .unset, .unset, .unset] [(.long q3_2), (.long q3_0)])) (fun _ k => XS.lload X0.here hx rfl (hb hby d3_77) rfl k) ?_
     refine own_s (g' := (mkF m 80 #[.val (.long q3_0), .second, .val (.long q3_1), .second, .val (.long q3_2), .second, .val (.long (t3_4 q3_1 q3_2)), .second, .unset, .unset, .unset, .unset] [(.int (lcmpW q3_0 q3_2))])) (fun _ k => XS.lcmp X0.here hx rfl (hb hby d3_79) rfl k) ?_
     by_cases c7 : q3_0 < q3_2
     ·skip
      refine own_s (g' := (mkF m 83 #[.val (.long q3_0), .second, .val (.long q3_1), .second, .val (.long q3_2), .second, .val (.long (t3_4 q3_1 q3_2)), .second, .unset, .unset, .unset, .unset] [])) (fun _ k => XS.ifNo X0.here hx rfl (hb hby d3_80) rfl ((if0 _ _).trans (tlt ((lw_lt q3_0 q3_2).mpr c7)).2.1) k) ?_
      refine own_s (g' := (mkF m 84 #[.val (.long q3_0), .second, .val (.long q3_1), .second, .val (.long q3_2), .second, .val (.long (t3_4 q3_1 q3_2)), .second, .unset, .unset, .unset, .unset] [(.long q3_0)])) (fun _ k => XS.lloadN X0.here hx rfl (hb hby d3_83) rfl k) ?_
      refine own_s (g' := (mkF m 85 #[.val (.long q3_0), .second, .val (.long q3_1), .second, .val (.long q3_2), .second, .val (.long (t3_4 q3_1 q3_2)), .second, .unset, .unset, .unset, .unset] [(.long q3_1), (.long q3_0)])) (fun _ k => XS.lloadN X0.here hx rfl (hb hby d3_84) rfl k) ?_
      refine own_s (g' := (mkF m 86 #[.val (.long q3_0), .second, .val (.long q3_1), .second, .val (.long q3_2), .second, .val (.long (t3_4 q3_1 q3_2)), .second, .unset, .unset, .unset, .unset] [(.long (q3_0 - q3_1))])) (fun _ k => XS.lsub X0.here hx rfl (hb hby d3_85) rfl k) ?_
      refine own_s (g' := (mkF m 92 #[.val (.long q3_0), .second, .val (.long q3_1), .second, .val (.long q3_2), .second, .val (.long (t3_4 q3_1 q3_2)), .second, .unset, .unset, .unset, .unset] [(.long (q3_0 - q3_1))])) (fun _ k => XS.goto X0.here hx rfl (pc0 := 86) (pc' := 92) rfl (hb hby d3_86) (by decide) (by decide) k) ?_
      refine own_retJ X0 hx hlk hret (hb hby d3_92) (by decide) (by decide) ?_
      show Q3 Z q3_0 q3_1 q3_2 h0 n0 _ s₁.heap _
      rw [e0]
      exact ⟨(congrArg (fun z => some (Value.long z)) (show (q3_0 - q3_1) = (r3 q3_0 q3_1 q3_2) from (Eq.symm ((if_neg c3).trans ((if_neg c4).trans ((if_neg c6).trans (if_pos c7))))))), N0, rfl⟩
     ·skip
      refine own_s (g' := (mkF m 89 #[.val (.long q3_0), .second, .val (.long q3_1), .second, .val (.long q3_2), .second, .val (.long (t3_4 q3_1 q3_2)), .second, .unset, .unset, .unset, .unset] [])) (fun _ k => XS.ifYes X0.here hx rfl (pc0 := 80) (pc' := 89) rfl (hb hby d3_80) rfl ((if0 _ _).trans (flt (mt (lw_lt q3_0 q3_2).mp c7)).2.1) (by decide) (by decide) k) ?_
      refine own_s (g' := (mkF m 92 #[.val (.long q3_0), .second, .val (.long q3_1), .second, .val (.long q3_2), .second, .val (.long (t3_4 q3_1 q3_2)), .second, .unset, .unset, .unset, .unset] [(.long (-1))])) (X0.ldc2Long hx hown (mvT hZ ww19) (g := (mkF m 89 #[.val (.long q3_0), .second, .val (.long q3_1), .second, .val (.long q3_2), .second, .val (.long (t3_4 q3_1 q3_2)), .second, .unset, .unset, .unset, .unset] [])) rfl (hb hby d3_89)) ?_
      refine own_retJ X0 hx hlk hret (hb hby d3_92) (by decide) (by decide) ?_
      show Q3 Z q3_0 q3_1 q3_2 h0 n0 _ s₁.heap _
      rw [e0]
      exact ⟨(congrArg (fun z => some (Value.long z)) (show (-1 : Int64) = (r3 q3_0 q3_1 q3_2) from (Eq.symm ((if_neg c3).trans ((if_neg c4).trans ((if_neg c6).trans (if_neg c7))))))), N0, rfl⟩
theorem d4_0 : decode method_3_code 0 = .ok (.lload 4, 2) := by decide +kernel
theorem d4_2 : decode method_3_code 2 = .ok (.lload_n 2, 1) := by decide +kernel
theorem d4_3 : decode method_3_code 3 = .ok (.lsub, 1) := by decide +kernel
theorem d4_4 : decode method_3_code 4 = .ok (.lstore 6, 2) := by decide +kernel
theorem d4_6 : decode method_3_code 6 = .ok (.lload 6, 2) := by decide +kernel
theorem d4_8 : decode method_3_code 8 = .ok (.lload 6, 2) := by decide +kernel
theorem d4_10 : decode method_3_code 10 = .ok (.lneg, 1) := by decide +kernel
theorem d4_11 : decode method_3_code 11 = .ok (.land, 1) := by decide +kernel
theorem d4_12 : decode method_3_code 12 = .ok (.lload 6, 2) := by decide +kernel
theorem d4_14 : decode method_3_code 14 = .ok (.lcmp, 1) := by decide +kernel
theorem d4_15 : decode method_3_code 15 = .ok (.ifCond .ne 10, 3) := by decide +kernel
theorem d4_18 : decode method_3_code 18 = .ok (.lload_n 0, 1) := by decide +kernel
theorem d4_19 : decode method_3_code 19 = .ok (.lload 6, 2) := by decide +kernel
theorem d4_21 : decode method_3_code 21 = .ok (.lconst 1, 1) := by decide +kernel
theorem d4_22 : decode method_3_code 22 = .ok (.lsub, 1) := by decide +kernel
theorem d4_23 : decode method_3_code 23 = .ok (.land, 1) := by decide +kernel
theorem d4_24 : decode method_3_code 24 = .ok (.lreturn, 1) := by decide +kernel
theorem d4_25 : decode method_3_code 25 = .ok (.lload 6, 2) := by decide +kernel
theorem d4_27 : decode method_3_code 27 = .ok (.lconst 0, 1) := by decide +kernel
theorem d4_28 : decode method_3_code 28 = .ok (.lcmp, 1) := by decide +kernel
theorem d4_29 : decode method_3_code 29 = .ok (.ifCond .le 50, 3) := by decide +kernel
theorem d4_32 : decode method_3_code 32 = .ok (.lload_n 0, 1) := by decide +kernel
theorem d4_33 : decode method_3_code 33 = .ok (.iconst 1, 1) := by decide +kernel
theorem d4_34 : decode method_3_code 34 = .ok (.lushr, 1) := by decide +kernel
theorem d4_35 : decode method_3_code 35 = .ok (.lstore 8, 2) := by decide +kernel
theorem d4_37 : decode method_3_code 37 = .ok (.ldc2_w 31, 3) := by decide +kernel
theorem d4_40 : decode method_3_code 40 = .ok (.lload 6, 2) := by decide +kernel
theorem d4_42 : decode method_3_code 42 = .ok (.lrem, 1) := by decide +kernel
theorem d4_43 : decode method_3_code 43 = .ok (.lconst 1, 1) := by decide +kernel
theorem d4_44 : decode method_3_code 44 = .ok (.ladd, 1) := by decide +kernel
theorem d4_45 : decode method_3_code 45 = .ok (.lload 6, 2) := by decide +kernel
theorem d4_47 : decode method_3_code 47 = .ok (.lrem, 1) := by decide +kernel
theorem d4_48 : decode method_3_code 48 = .ok (.lstore 10, 2) := by decide +kernel
theorem d4_50 : decode method_3_code 50 = .ok (.lload 10, 2) := by decide +kernel
theorem d4_52 : decode method_3_code 52 = .ok (.lconst 0, 1) := by decide +kernel
theorem d4_53 : decode method_3_code 53 = .ok (.lcmp, 1) := by decide +kernel
theorem d4_54 : decode method_3_code 54 = .ok (.ifCond .eq 19, 3) := by decide +kernel
theorem d4_57 : decode method_3_code 57 = .ok (.lload 8, 2) := by decide +kernel
theorem d4_59 : decode method_3_code 59 = .ok (.ldc2_w 33, 3) := by decide +kernel
theorem d4_62 : decode method_3_code 62 = .ok (.lload 10, 2) := by decide +kernel
theorem d4_64 : decode method_3_code 64 = .ok (.lsub, 1) := by decide +kernel
theorem d4_65 : decode method_3_code 65 = .ok (.lcmp, 1) := by decide +kernel
theorem d4_66 : decode method_3_code 66 = .ok (.ifCond .lt 7, 3) := by decide +kernel
theorem d4_69 : decode method_3_code 69 = .ok (.ldc2_w 35, 3) := by decide +kernel
theorem d4_72 : decode method_3_code 72 = .ok (.lreturn, 1) := by decide +kernel
theorem d4_73 : decode method_3_code 73 = .ok (.lload 8, 2) := by decide +kernel
theorem d4_75 : decode method_3_code 75 = .ok (.lload 6, 2) := by decide +kernel
theorem d4_77 : decode method_3_code 77 = .ok (.lrem, 1) := by decide +kernel
theorem d4_78 : decode method_3_code 78 = .ok (.lreturn, 1) := by decide +kernel
theorem d4_79 : decode method_3_code 79 = .ok (.lload_n 0, 1) := by decide +kernel
theorem d4_80 : decode method_3_code 80 = .ok (.lload_n 2, 1) := by decide +kernel
theorem d4_81 : decode method_3_code 81 = .ok (.lsub, 1) := by decide +kernel
theorem d4_82 : decode method_3_code 82 = .ok (.lstore 8, 2) := by decide +kernel
theorem d4_84 : decode method_3_code 84 = .ok (.lload 8, 2) := by decide +kernel
theorem d4_86 : decode method_3_code 86 = .ok (.ldc2_w 33, 3) := by decide +kernel
theorem d4_89 : decode method_3_code 89 = .ok (.lxor, 1) := by decide +kernel
theorem d4_90 : decode method_3_code 90 = .ok (.lload 6, 2) := by decide +kernel
theorem d4_92 : decode method_3_code 92 = .ok (.ldc2_w 33, 3) := by decide +kernel
theorem d4_95 : decode method_3_code 95 = .ok (.lxor, 1) := by decide +kernel
theorem d4_96 : decode method_3_code 96 = .ok (.lcmp, 1) := by decide +kernel
theorem d4_97 : decode method_3_code 97 = .ok (.ifCond .ge 6, 3) := by decide +kernel
theorem d4_100 : decode method_3_code 100 = .ok (.lload 8, 2) := by decide +kernel
theorem d4_102 : decode method_3_code 102 = .ok (.lreturn, 1) := by decide +kernel
theorem d4_103 : decode method_3_code 103 = .ok (.ldc2_w 35, 3) := by decide +kernel
theorem d4_106 : decode method_3_code 106 = .ok (.lreturn, 1) := by decide +kernel
theorem pn_com_example_forkstream_forkstream_WordGeneratorLongOffsetPinLaw : plainName "com/example/forkstream/forkstream/WordGeneratorLongOffsetPinLaw" = true := by first | (simp [plainName, overriddenIn]; done) | decide +kernel
theorem ef_4 (m : MethodId) (q4_0 : Int64) (q4_1 : Int64) (q4_2 : Int64) : entryFrame m #[(.long q4_0), (.long q4_1), (.long q4_2)] 12 = mkF m 0 #[.val (.long q4_0), .second, .val (.long q4_1), .second, .val (.long q4_2), .second, .unset, .unset, .unset, .unset, .unset, .unset] [] := by first | (simp [entryFrame, mkF, argsToLocals, Value.category]; done) | rfl
def t4_4 (q4_1 : Int64) (q4_2 : Int64) : Int64 := (q4_2 - q4_1)
def r4 (q4_0 : Int64) (q4_1 : Int64) (q4_2 : Int64) : Int64 := (if ((t4_4 q4_1 q4_2) &&& (-(t4_4 q4_1 q4_2))) = (t4_4 q4_1 q4_2) then (q4_0 &&& ((t4_4 q4_1 q4_2) - (1 : Int64))) else (if (0 : Int64) < (t4_4 q4_1 q4_2) then (if ((((9223372036854775807 : Int64) % (t4_4 q4_1 q4_2)) + (1 : Int64)) % (t4_4 q4_1 q4_2)) = (0 : Int64) then (((q4_0.toUInt64 >>> ((1 : Int32) &&& 0x3f).toInt64.toUInt64).toInt64) % (t4_4 q4_1 q4_2)) else (if ((q4_0.toUInt64 >>> ((1 : Int32) &&& 0x3f).toInt64.toUInt64).toInt64) < ((-9223372036854775808 : Int64) - ((((9223372036854775807 : Int64) % (t4_4 q4_1 q4_2)) + (1 : Int64)) % (t4_4 q4_1 q4_2))) then (((q4_0.toUInt64 >>> ((1 : Int32) &&& 0x3f).toInt64.toUInt64).toInt64) % (t4_4 q4_1 q4_2)) else (-1 : Int64))) else (if ((q4_0 - q4_1) ^^^ (-9223372036854775808 : Int64)) < ((t4_4 q4_1 q4_2) ^^^ (-9223372036854775808 : Int64)) then (q4_0 - q4_1) else (-1 : Int64))))
def Q4 (Z : State) (q4_0 : Int64) (q4_1 : Int64) (q4_2 : Int64) (h0 : Heap) (n0 : Nat) (v : Option Value) (h : Heap) (L : List Loc) : Prop := v = some (.long (r4 q4_0 q4_1 q4_2)) ∧ Fr n0 L ∧ h = h0
set_option maxRecDepth 65536 in
set_option maxHeartbeats 40000000 in
theorem rm4 (l : Launch) (Z : State) (a0 : Array Value) (hw : ∀ d ∈ tables_1, d.before a0 Z = true) (ws : List Jvm.Cond) (q4_0 : Int64) (q4_1 : Int64) (q4_2 : Int64) (h0 : Heap) (n0 : Nat) (Z0 : n0 ≤ h0.size) :
    MetFree l (⟨"com/example/forkstream/forkstream/WordGeneratorLongOffsetPinLaw", "expected", "(JJJ)J"⟩ : MethodName) (head1 (Jvm.Cond.code (⟨"com/example/forkstream/forkstream/WordGeneratorLongOffsetPinLaw", "expected", "(JJJ)J"⟩ : MethodName) method_3_code 12 (some .long) :: ws) ({ frames := 0, cells := 0, slots := 0, locals := 0 } : Room)) (fun a U => a = #[(.long q4_0), (.long q4_1), (.long q4_2)] ∧ Z.Warmed39 U.vm ∧ U.heap = h0) (fun _ _ _ _ _ => True) (fun _ U o U' => ∃ v L, o = .returned v ∧ Q4 Z q4_0 q4_1 q4_2 h0 n0 v U'.heap L ∧ FrameEnd U o U' L ({ frames := 0, cells := 0, slots := 0, locals := 0 } : Room).cells ({ frames := 0, cells := 0, slots := 0, locals := 0 } : Room).slots) := by
  refine MetFree.of_bodySF (plainFor_of_name pn_com_example_forkstream_forkstream_WordGeneratorLongOffsetPinLaw) hisR ?_
  intro p e s m args below meth c s₁ Bd hml0 hP hK
  obtain ⟨rfl, hZ, hh⟩ := hP
  have hx := Bd.exec
  have hby := Bd.bytes
  have hlk := Bd.notSynchronized
  have hret := Bd.returns
  have hml : c.maxLocals = 12 := hml0
  have hown : s.vm.findClass "com/example/forkstream/forkstream/WordGeneratorLongOffsetPinLaw" = some m.cls := findClass_of_methodNamed Bd.named
  have hnm := (name_of_methodNamed Bd.named Bd.method).1
  have X0 : Stand p l e ({ frames := 0, cells := 0, slots := 0, locals := 0 } : Room) s m #[(.long q4_0), (.long q4_1), (.long q4_2)] below meth c s₁ [] 0 0 := Stand.of_body Bd
  have e0 : s₁.heap = h0 := by rw [← hh, Bd.state]; rfl
  have N0 := Fr.nil n0
  have K0 : Keep h0 h0 [] := Keep.refl _ _
  show own_G p e below s (Q4 Z q4_0 q4_1 q4_2 h0 n0) ({ frames := 0, cells := 0, slots := 0, locals := 0 } : Room).cells ({ frames := 0, cells := 0, slots := 0, locals := 0 } : Room).slots s₁ (entryFrame m #[(.long q4_0), (.long q4_1), (.long q4_2)] 12)
  have ww16 := hw _ (List.mem_of_getElem? (i := 16) rfl)
  have ww17 := hw _ (List.mem_of_getElem? (i := 17) rfl)
  have ww20 := hw _ (List.mem_of_getElem? (i := 20) rfl)
  refine own_cast (ef_4 m q4_0 q4_1 q4_2) ?_
  refine own_s (g' := (mkF m 2 #[.val (.long q4_0), .second, .val (.long q4_1), .second, .val (.long q4_2), .second, .unset, .unset, .unset, .unset, .unset, .unset] [(.long q4_2)])) (fun _ k => XS.lload X0.here hx rfl (hb hby d4_0) rfl k) ?_
  refine own_s (g' := (mkF m 3 #[.val (.long q4_0), .second, .val (.long q4_1), .second, .val (.long q4_2), .second, .unset, .unset, .unset, .unset, .unset, .unset] [(.long q4_1), (.long q4_2)])) (fun _ k => XS.lloadN X0.here hx rfl (hb hby d4_2) rfl k) ?_
  refine own_s (g' := (mkF m 4 #[.val (.long q4_0), .second, .val (.long q4_1), .second, .val (.long q4_2), .second, .unset, .unset, .unset, .unset, .unset, .unset] [(.long (q4_2 - q4_1))])) (fun _ k => XS.lsub X0.here hx rfl (hb hby d4_3) rfl k) ?_
  refine own_s (g' := (mkF m 6 #[.val (.long q4_0), .second, .val (.long q4_1), .second, .val (.long q4_2), .second, .val (.long (t4_4 q4_1 q4_2)), .second, .unset, .unset, .unset, .unset] [])) (fun _ k => XS.lstore X0.here hx rfl (hb hby d4_4) rfl (l' := #[.val (.long q4_0), .second, .val (.long q4_1), .second, .val (.long q4_2), .second, .val (.long (t4_4 q4_1 q4_2)), .second, .unset, .unset, .unset, .unset]) rfl k) ?_
  refine own_s (g' := (mkF m 8 #[.val (.long q4_0), .second, .val (.long q4_1), .second, .val (.long q4_2), .second, .val (.long (t4_4 q4_1 q4_2)), .second, .unset, .unset, .unset, .unset] [(.long (t4_4 q4_1 q4_2))])) (fun _ k => XS.lload X0.here hx rfl (hb hby d4_6) rfl k) ?_
  refine own_s (g' := (mkF m 10 #[.val (.long q4_0), .second, .val (.long q4_1), .second, .val (.long q4_2), .second, .val (.long (t4_4 q4_1 q4_2)), .second, .unset, .unset, .unset, .unset] [(.long (t4_4 q4_1 q4_2)), (.long (t4_4 q4_1 q4_2))])) (fun _ k => XS.lload X0.here hx rfl (hb hby d4_8) rfl k) ?_
  refine own_s (g' := (mkF m 11 #[.val (.long q4_0), .second, .val (.long q4_1), .second, .val (.long q4_2), .second, .val (.long (t4_4 q4_1 q4_2)), .second, .unset, .unset, .unset, .unset] [(.long (-(t4_4 q4_1 q4_2))), (.long (t4_4 q4_1 q4_2))])) (fun _ k => XS.lneg X0.here hx rfl (hb hby d4_10) rfl k) ?_
  refine own_s (g' := (mkF m 12 #[.val (.long q4_0), .second, .val (.long q4_1), .second, .val (.long q4_2), .second, .val (.long (t4_4 q4_1 q4_2)), .second, .unset, .unset, .unset, .unset] [(.long ((t4_4 q4_1 q4_2) &&& (-(t4_4 q4_1 q4_2))))])) (fun _ k => XS.land X0.here hx rfl (hb hby d4_11) rfl k) ?_
  refine own_s (g' := (mkF m 14 #[.val (.long q4_0), .second, .val (.long q4_1), .second, .val (.long q4_2), .second, .val (.long (t4_4 q4_1 q4_2)), .second, .unset, .unset, .unset, .unset] [(.long (t4_4 q4_1 q4_2)), (.long ((t4_4 q4_1 q4_2) &&& (-(t4_4 q4_1 q4_2))))])) (fun _ k => XS.lload X0.here hx rfl (hb hby d4_12) rfl k) ?_
  refine own_s (g' := (mkF m 15 #[.val (.long q4_0), .second, .val (.long q4_1), .second, .val (.long q4_2), .second, .val (.long (t4_4 q4_1 q4_2)), .second, .unset, .unset, .unset, .unset] [(.int (lcmpW ((t4_4 q4_1 q4_2) &&& (-(t4_4 q4_1 q4_2))) (t4_4 q4_1 q4_2)))])) (fun _ k => XS.lcmp X0.here hx rfl (hb hby d4_14) rfl k) ?_
  by_cases c8 : ((t4_4 q4_1 q4_2) &&& (-(t4_4 q4_1 q4_2))) = (t4_4 q4_1 q4_2)
  ·skip
   refine own_s (g' := (mkF m 18 #[.val (.long q4_0), .second, .val (.long q4_1), .second, .val (.long q4_2), .second, .val (.long (t4_4 q4_1 q4_2)), .second, .unset, .unset, .unset, .unset] [])) (fun _ k => XS.ifNo X0.here hx rfl (hb hby d4_15) rfl ((if0 _ _).trans (teq ((lw_eq ((t4_4 q4_1 q4_2) &&& (-(t4_4 q4_1 q4_2))) (t4_4 q4_1 q4_2)).mpr c8)).2) k) ?_
   refine own_s (g' := (mkF m 19 #[.val (.long q4_0), .second, .val (.long q4_1), .second, .val (.long q4_2), .second, .val (.long (t4_4 q4_1 q4_2)), .second, .unset, .unset, .unset, .unset] [(.long q4_0)])) (fun _ k => XS.lloadN X0.here hx rfl (hb hby d4_18) rfl k) ?_
   refine own_s (g' := (mkF m 21 #[.val (.long q4_0), .second, .val (.long q4_1), .second, .val (.long q4_2), .second, .val (.long (t4_4 q4_1 q4_2)), .second, .unset, .unset, .unset, .unset] [(.long (t4_4 q4_1 q4_2)), (.long q4_0)])) (fun _ k => XS.lload X0.here hx rfl (hb hby d4_19) rfl k) ?_
   refine own_s (g' := (mkF m 22 #[.val (.long q4_0), .second, .val (.long q4_1), .second, .val (.long q4_2), .second, .val (.long (t4_4 q4_1 q4_2)), .second, .unset, .unset, .unset, .unset] [(.long 1), (.long (t4_4 q4_1 q4_2)), (.long q4_0)])) (fun _ k => XS.lconst X0.here hx rfl (hb hby d4_21) k) ?_
   refine own_s (g' := (mkF m 23 #[.val (.long q4_0), .second, .val (.long q4_1), .second, .val (.long q4_2), .second, .val (.long (t4_4 q4_1 q4_2)), .second, .unset, .unset, .unset, .unset] [(.long ((t4_4 q4_1 q4_2) - (1 : Int64))), (.long q4_0)])) (fun _ k => XS.lsub X0.here hx rfl (hb hby d4_22) rfl k) ?_
   refine own_s (g' := (mkF m 24 #[.val (.long q4_0), .second, .val (.long q4_1), .second, .val (.long q4_2), .second, .val (.long (t4_4 q4_1 q4_2)), .second, .unset, .unset, .unset, .unset] [(.long (q4_0 &&& ((t4_4 q4_1 q4_2) - (1 : Int64))))])) (fun _ k => XS.land X0.here hx rfl (hb hby d4_23) rfl k) ?_
   refine own_retJ X0 hx hlk hret (hb hby d4_24) (by decide) (by decide) ?_
   show Q4 Z q4_0 q4_1 q4_2 h0 n0 _ s₁.heap _
   rw [e0]
   exact ⟨(congrArg (fun z => some (Value.long z)) (show (q4_0 &&& ((t4_4 q4_1 q4_2) - (1 : Int64))) = (r4 q4_0 q4_1 q4_2) from (Eq.symm (if_pos c8)))), N0, rfl⟩
  ·skip
   refine own_s (g' := (mkF m 25 #[.val (.long q4_0), .second, .val (.long q4_1), .second, .val (.long q4_2), .second, .val (.long (t4_4 q4_1 q4_2)), .second, .unset, .unset, .unset, .unset] [])) (fun _ k => XS.ifYes X0.here hx rfl (pc0 := 15) (pc' := 25) rfl (hb hby d4_15) rfl ((if0 _ _).trans (feq (mt (lw_eq ((t4_4 q4_1 q4_2) &&& (-(t4_4 q4_1 q4_2))) (t4_4 q4_1 q4_2)).mp c8)).2) (by decide) (by decide) k) ?_
   refine own_s (g' := (mkF m 27 #[.val (.long q4_0), .second, .val (.long q4_1), .second, .val (.long q4_2), .second, .val (.long (t4_4 q4_1 q4_2)), .second, .unset, .unset, .unset, .unset] [(.long (t4_4 q4_1 q4_2))])) (fun _ k => XS.lload X0.here hx rfl (hb hby d4_25) rfl k) ?_
   refine own_s (g' := (mkF m 28 #[.val (.long q4_0), .second, .val (.long q4_1), .second, .val (.long q4_2), .second, .val (.long (t4_4 q4_1 q4_2)), .second, .unset, .unset, .unset, .unset] [(.long 0), (.long (t4_4 q4_1 q4_2))])) (fun _ k => XS.lconst X0.here hx rfl (hb hby d4_27) k) ?_
   refine own_s (g' := (mkF m 29 #[.val (.long q4_0), .second, .val (.long q4_1), .second, .val (.long q4_2), .second, .val (.long (t4_4 q4_1 q4_2)), .second, .unset, .unset, .unset, .unset] [(.int (lcmpW (t4_4 q4_1 q4_2) (0 : Int64)))])) (fun _ k => XS.lcmp X0.here hx rfl (hb hby d4_28) rfl k) ?_
   by_cases c9 : (0 : Int64) < (t4_4 q4_1 q4_2)
   ·skip
    refine own_s (g' := (mkF m 32 #[.val (.long q4_0), .second, .val (.long q4_1), .second, .val (.long q4_2), .second, .val (.long (t4_4 q4_1 q4_2)), .second, .unset, .unset, .unset, .unset] [])) (fun _ k => XS.ifNo X0.here hx rfl (hb hby d4_29) rfl ((if0 _ _).trans (tlt ((lw_gt (t4_4 q4_1 q4_2) (0 : Int64)).mpr c9)).2.2.2) k) ?_
    refine own_s (g' := (mkF m 33 #[.val (.long q4_0), .second, .val (.long q4_1), .second, .val (.long q4_2), .second, .val (.long (t4_4 q4_1 q4_2)), .second, .unset, .unset, .unset, .unset] [(.long q4_0)])) (fun _ k => XS.lloadN X0.here hx rfl (hb hby d4_32) rfl k) ?_
    refine own_s (g' := (mkF m 34 #[.val (.long q4_0), .second, .val (.long q4_1), .second, .val (.long q4_2), .second, .val (.long (t4_4 q4_1 q4_2)), .second, .unset, .unset, .unset, .unset] [(.int 1), (.long q4_0)])) (fun _ k => XS.iconst X0.here hx rfl (hb hby d4_33) k) ?_
    refine own_s (g' := (mkF m 35 #[.val (.long q4_0), .second, .val (.long q4_1), .second, .val (.long q4_2), .second, .val (.long (t4_4 q4_1 q4_2)), .second, .unset, .unset, .unset, .unset] [(.long ((q4_0.toUInt64 >>> ((1 : Int32) &&& 0x3f).toInt64.toUInt64).toInt64))])) (fun _ k => XS.lushr X0.here hx rfl (hb hby d4_34) rfl k) ?_
    refine own_s (g' := (mkF m 37 #[.val (.long q4_0), .second, .val (.long q4_1), .second, .val (.long q4_2), .second, .val (.long (t4_4 q4_1 q4_2)), .second, .val (.long ((q4_0.toUInt64 >>> ((1 : Int32) &&& 0x3f).toInt64.toUInt64).toInt64)), .second, .unset, .unset] [])) (fun _ k => XS.lstore X0.here hx rfl (hb hby d4_35) rfl (l' := #[.val (.long q4_0), .second, .val (.long q4_1), .second, .val (.long q4_2), .second, .val (.long (t4_4 q4_1 q4_2)), .second, .val (.long ((q4_0.toUInt64 >>> ((1 : Int32) &&& 0x3f).toInt64.toUInt64).toInt64)), .second, .unset, .unset]) rfl k) ?_
    refine own_s (g' := (mkF m 40 #[.val (.long q4_0), .second, .val (.long q4_1), .second, .val (.long q4_2), .second, .val (.long (t4_4 q4_1 q4_2)), .second, .val (.long ((q4_0.toUInt64 >>> ((1 : Int32) &&& 0x3f).toInt64.toUInt64).toInt64)), .second, .unset, .unset] [(.long 9223372036854775807)])) (X0.ldc2Long hx hown (mvT hZ ww16) (g := (mkF m 37 #[.val (.long q4_0), .second, .val (.long q4_1), .second, .val (.long q4_2), .second, .val (.long (t4_4 q4_1 q4_2)), .second, .val (.long ((q4_0.toUInt64 >>> ((1 : Int32) &&& 0x3f).toInt64.toUInt64).toInt64)), .second, .unset, .unset] [])) rfl (hb hby d4_37)) ?_
    refine own_s (g' := (mkF m 42 #[.val (.long q4_0), .second, .val (.long q4_1), .second, .val (.long q4_2), .second, .val (.long (t4_4 q4_1 q4_2)), .second, .val (.long ((q4_0.toUInt64 >>> ((1 : Int32) &&& 0x3f).toInt64.toUInt64).toInt64)), .second, .unset, .unset] [(.long (t4_4 q4_1 q4_2)), (.long 9223372036854775807)])) (fun _ k => XS.lload X0.here hx rfl (hb hby d4_40) rfl k) ?_
    refine own_s (g' := (mkF m 43 #[.val (.long q4_0), .second, .val (.long q4_1), .second, .val (.long q4_2), .second, .val (.long (t4_4 q4_1 q4_2)), .second, .val (.long ((q4_0.toUInt64 >>> ((1 : Int32) &&& 0x3f).toInt64.toUInt64).toInt64)), .second, .unset, .unset] [(.long ((9223372036854775807 : Int64) % (t4_4 q4_1 q4_2)))])) (fun _ k => XS.lrem X0.here hx rfl (hb hby d4_42) rfl (own_ltne'J c9) (by rw [lrem_mod]; exact k)) ?_
    refine own_s (g' := (mkF m 44 #[.val (.long q4_0), .second, .val (.long q4_1), .second, .val (.long q4_2), .second, .val (.long (t4_4 q4_1 q4_2)), .second, .val (.long ((q4_0.toUInt64 >>> ((1 : Int32) &&& 0x3f).toInt64.toUInt64).toInt64)), .second, .unset, .unset] [(.long 1), (.long ((9223372036854775807 : Int64) % (t4_4 q4_1 q4_2)))])) (fun _ k => XS.lconst X0.here hx rfl (hb hby d4_43) k) ?_
    refine own_s (g' := (mkF m 45 #[.val (.long q4_0), .second, .val (.long q4_1), .second, .val (.long q4_2), .second, .val (.long (t4_4 q4_1 q4_2)), .second, .val (.long ((q4_0.toUInt64 >>> ((1 : Int32) &&& 0x3f).toInt64.toUInt64).toInt64)), .second, .unset, .unset] [(.long (((9223372036854775807 : Int64) % (t4_4 q4_1 q4_2)) + (1 : Int64)))])) (fun _ k => XS.ladd X0.here hx rfl (hb hby d4_44) rfl k) ?_
    refine own_s (g' := (mkF m 47 #[.val (.long q4_0), .second, .val (.long q4_1), .second, .val (.long q4_2), .second, .val (.long (t4_4 q4_1 q4_2)), .second, .val (.long ((q4_0.toUInt64 >>> ((1 : Int32) &&& 0x3f).toInt64.toUInt64).toInt64)), .second, .unset, .unset] [(.long (t4_4 q4_1 q4_2)), (.long (((9223372036854775807 : Int64) % (t4_4 q4_1 q4_2)) + (1 : Int64)))])) (fun _ k => XS.lload X0.here hx rfl (hb hby d4_45) rfl k) ?_
    refine own_s (g' := (mkF m 48 #[.val (.long q4_0), .second, .val (.long q4_1), .second, .val (.long q4_2), .second, .val (.long (t4_4 q4_1 q4_2)), .second, .val (.long ((q4_0.toUInt64 >>> ((1 : Int32) &&& 0x3f).toInt64.toUInt64).toInt64)), .second, .unset, .unset] [(.long ((((9223372036854775807 : Int64) % (t4_4 q4_1 q4_2)) + (1 : Int64)) % (t4_4 q4_1 q4_2)))])) (fun _ k => XS.lrem X0.here hx rfl (hb hby d4_47) rfl (own_ltne'J c9) (by rw [lrem_mod]; exact k)) ?_
    refine own_s (g' := (mkF m 50 #[.val (.long q4_0), .second, .val (.long q4_1), .second, .val (.long q4_2), .second, .val (.long (t4_4 q4_1 q4_2)), .second, .val (.long ((q4_0.toUInt64 >>> ((1 : Int32) &&& 0x3f).toInt64.toUInt64).toInt64)), .second, .val (.long ((((9223372036854775807 : Int64) % (t4_4 q4_1 q4_2)) + (1 : Int64)) % (t4_4 q4_1 q4_2))), .second] [])) (fun _ k => XS.lstore X0.here hx rfl (hb hby d4_48) rfl (l' := #[.val (.long q4_0), .second, .val (.long q4_1), .second, .val (.long q4_2), .second, .val (.long (t4_4 q4_1 q4_2)), .second, .val (.long ((q4_0.toUInt64 >>> ((1 : Int32) &&& 0x3f).toInt64.toUInt64).toInt64)), .second, .val (.long ((((9223372036854775807 : Int64) % (t4_4 q4_1 q4_2)) + (1 : Int64)) % (t4_4 q4_1 q4_2))), .second]) rfl k) ?_
    refine own_s (g' := (mkF m 52 #[.val (.long q4_0), .second, .val (.long q4_1), .second, .val (.long q4_2), .second, .val (.long (t4_4 q4_1 q4_2)), .second, .val (.long ((q4_0.toUInt64 >>> ((1 : Int32) &&& 0x3f).toInt64.toUInt64).toInt64)), .second, .val (.long ((((9223372036854775807 : Int64) % (t4_4 q4_1 q4_2)) + (1 : Int64)) % (t4_4 q4_1 q4_2))), .second] [(.long ((((9223372036854775807 : Int64) % (t4_4 q4_1 q4_2)) + (1 : Int64)) % (t4_4 q4_1 q4_2)))])) (fun _ k => XS.lload X0.here hx rfl (hb hby d4_50) rfl k) ?_
    refine own_s (g' := (mkF m 53 #[.val (.long q4_0), .second, .val (.long q4_1), .second, .val (.long q4_2), .second, .val (.long (t4_4 q4_1 q4_2)), .second, .val (.long ((q4_0.toUInt64 >>> ((1 : Int32) &&& 0x3f).toInt64.toUInt64).toInt64)), .second, .val (.long ((((9223372036854775807 : Int64) % (t4_4 q4_1 q4_2)) + (1 : Int64)) % (t4_4 q4_1 q4_2))), .second] [(.long 0), (.long ((((9223372036854775807 : Int64) % (t4_4 q4_1 q4_2)) + (1 : Int64)) % (t4_4 q4_1 q4_2)))])) (fun _ k => XS.lconst X0.here hx rfl (hb hby d4_52) k) ?_
    refine own_s (g' := (mkF m 54 #[.val (.long q4_0), .second, .val (.long q4_1), .second, .val (.long q4_2), .second, .val (.long (t4_4 q4_1 q4_2)), .second, .val (.long ((q4_0.toUInt64 >>> ((1 : Int32) &&& 0x3f).toInt64.toUInt64).toInt64)), .second, .val (.long ((((9223372036854775807 : Int64) % (t4_4 q4_1 q4_2)) + (1 : Int64)) % (t4_4 q4_1 q4_2))), .second] [(.int (lcmpW ((((9223372036854775807 : Int64) % (t4_4 q4_1 q4_2)) + (1 : Int64)) % (t4_4 q4_1 q4_2)) (0 : Int64)))])) (fun _ k => XS.lcmp X0.here hx rfl (hb hby d4_53) rfl k) ?_
    by_cases c10 : ((((9223372036854775807 : Int64) % (t4_4 q4_1 q4_2)) + (1 : Int64)) % (t4_4 q4_1 q4_2)) = (0 : Int64)
    ·skip
     refine own_s (g' := (mkF m 73 #[.val (.long q4_0), .second, .val (.long q4_1), .second, .val (.long q4_2), .second, .val (.long (t4_4 q4_1 q4_2)), .second, .val (.long ((q4_0.toUInt64 >>> ((1 : Int32) &&& 0x3f).toInt64.toUInt64).toInt64)), .second, .val (.long ((((9223372036854775807 : Int64) % (t4_4 q4_1 q4_2)) + (1 : Int64)) % (t4_4 q4_1 q4_2))), .second] [])) (fun _ k => XS.ifYes X0.here hx rfl (pc0 := 54) (pc' := 73) rfl (hb hby d4_54) rfl ((if0 _ _).trans (teq ((lw_eq ((((9223372036854775807 : Int64) % (t4_4 q4_1 q4_2)) + (1 : Int64)) % (t4_4 q4_1 q4_2)) (0 : Int64)).mpr c10)).1) (by decide) (by decide) k) ?_
     refine own_s (g' := (mkF m 75 #[.val (.long q4_0), .second, .val (.long q4_1), .second, .val (.long q4_2), .second, .val (.long (t4_4 q4_1 q4_2)), .second, .val (.long ((q4_0.toUInt64 >>> ((1 : Int32) &&& 0x3f).toInt64.toUInt64).toInt64)), .second, .val (.long ((((9223372036854775807 : Int64) % (t4_4 q4_1 q4_2)) + (1 : Int64)) % (t4_4 q4_1 q4_2))), .second] [(.long ((q4_0.toUInt64 >>> ((1 : Int32) &&& 0x3f).toInt64.toUInt64).toInt64))])) (fun _ k => XS.lload X0.here hx rfl (hb hby d4_73) rfl k) ?_
     refine own_s (g' := (mkF m 77 #[.val (.long q4_0), .second, .val (.long q4_1), .second, .val (.long q4_2), .second, .val (.long (t4_4 q4_1 q4_2)), .second, .val (.long ((q4_0.toUInt64 >>> ((1 : Int32) &&& 0x3f).toInt64.toUInt64).toInt64)), .second, .val (.long ((((9223372036854775807 : Int64) % (t4_4 q4_1 q4_2)) + (1 : Int64)) % (t4_4 q4_1 q4_2))), .second] [(.long (t4_4 q4_1 q4_2)), (.long ((q4_0.toUInt64 >>> ((1 : Int32) &&& 0x3f).toInt64.toUInt64).toInt64))])) (fun _ k => XS.lload X0.here hx rfl (hb hby d4_75) rfl k) ?_
     refine own_s (g' := (mkF m 78 #[.val (.long q4_0), .second, .val (.long q4_1), .second, .val (.long q4_2), .second, .val (.long (t4_4 q4_1 q4_2)), .second, .val (.long ((q4_0.toUInt64 >>> ((1 : Int32) &&& 0x3f).toInt64.toUInt64).toInt64)), .second, .val (.long ((((9223372036854775807 : Int64) % (t4_4 q4_1 q4_2)) + (1 : Int64)) % (t4_4 q4_1 q4_2))), .second] [(.long (((q4_0.toUInt64 >>> ((1 : Int32) &&& 0x3f).toInt64.toUInt64).toInt64) % (t4_4 q4_1 q4_2)))])) (fun _ k => XS.lrem X0.here hx rfl (hb hby d4_77) rfl (own_ltne'J c9) (by rw [lrem_mod]; exact k)) ?_
     refine own_retJ X0 hx hlk hret (hb hby d4_78) (by decide) (by decide) ?_
     show Q4 Z q4_0 q4_1 q4_2 h0 n0 _ s₁.heap _
     rw [e0]
     exact ⟨(congrArg (fun z => some (Value.long z)) (show (((q4_0.toUInt64 >>> ((1 : Int32) &&& 0x3f).toInt64.toUInt64).toInt64) % (t4_4 q4_1 q4_2)) = (r4 q4_0 q4_1 q4_2) from (Eq.symm ((if_neg c8).trans ((if_pos c9).trans (if_pos c10)))))), N0, rfl⟩
    ·skip
     refine own_s (g' := (mkF m 57 #[.val (.long q4_0), .second, .val (.long q4_1), .second, .val (.long q4_2), .second, .val (.long (t4_4 q4_1 q4_2)), .second, .val (.long ((q4_0.toUInt64 >>> ((1 : Int32) &&& 0x3f).toInt64.toUInt64).toInt64)), .second, .val (.long ((((9223372036854775807 : Int64) % (t4_4 q4_1 q4_2)) + (1 : Int64)) % (t4_4 q4_1 q4_2))), .second] [])) (fun _ k => XS.ifNo X0.here hx rfl (hb hby d4_54) rfl ((if0 _ _).trans (feq (mt (lw_eq ((((9223372036854775807 : Int64) % (t4_4 q4_1 q4_2)) + (1 : Int64)) % (t4_4 q4_1 q4_2)) (0 : Int64)).mp c10)).1) k) ?_
     refine own_s (g' := (mkF m 59 #[.val (.long q4_0), .second, .val (.long q4_1), .second, .val (.long q4_2), .second, .val (.long (t4_4 q4_1 q4_2)), .second, .val (.long ((q4_0.toUInt64 >>> ((1 : Int32) &&& 0x3f).toInt64.toUInt64).toInt64)), .second, .val (.long ((((9223372036854775807 : Int64) % (t4_4 q4_1 q4_2)) + (1 : Int64)) % (t4_4 q4_1 q4_2))), .second] [(.long ((q4_0.toUInt64 >>> ((1 : Int32) &&& 0x3f).toInt64.toUInt64).toInt64))])) (fun _ k => XS.lload X0.here hx rfl (hb hby d4_57) rfl k) ?_
     refine own_s (g' := (mkF m 62 #[.val (.long q4_0), .second, .val (.long q4_1), .second, .val (.long q4_2), .second, .val (.long (t4_4 q4_1 q4_2)), .second, .val (.long ((q4_0.toUInt64 >>> ((1 : Int32) &&& 0x3f).toInt64.toUInt64).toInt64)), .second, .val (.long ((((9223372036854775807 : Int64) % (t4_4 q4_1 q4_2)) + (1 : Int64)) % (t4_4 q4_1 q4_2))), .second] [(.long (-9223372036854775808)), (.long ((q4_0.toUInt64 >>> ((1 : Int32) &&& 0x3f).toInt64.toUInt64).toInt64))])) (X0.ldc2Long hx hown (mvT hZ ww17) (g := (mkF m 59 #[.val (.long q4_0), .second, .val (.long q4_1), .second, .val (.long q4_2), .second, .val (.long (t4_4 q4_1 q4_2)), .second, .val (.long ((q4_0.toUInt64 >>> ((1 : Int32) &&& 0x3f).toInt64.toUInt64).toInt64)), .second, .val (.long ((((9223372036854775807 : Int64) % (t4_4 q4_1 q4_2)) + (1 : Int64)) % (t4_4 q4_1 q4_2))), .second] [(.long ((q4_0.toUInt64 >>> ((1 : Int32) &&& 0x3f).toInt64.toUInt64).toInt64))])) rfl (hb hby d4_59)) ?_
     refine own_s (g' := (mkF m 64 #[.val (.long q4_0), .second, .val (.long q4_1), .second, .val (.long q4_2), .second, .val (.long (t4_4 q4_1 q4_2)), .second, .val (.long ((q4_0.toUInt64 >>> ((1 : Int32) &&& 0x3f).toInt64.toUInt64).toInt64)), .second, .val (.long ((((9223372036854775807 : Int64) % (t4_4 q4_1 q4_2)) + (1 : Int64)) % (t4_4 q4_1 q4_2))), .second] [(.long ((((9223372036854775807 : Int64) % (t4_4 q4_1 q4_2)) + (1 : Int64)) % (t4_4 q4_1 q4_2))), (.long (-9223372036854775808)), (.long ((q4_0.toUInt64 >>> ((1 : Int32) &&& 0x3f).toInt64.toUInt64).toInt64))])) (fun _ k => XS.lload X0.here hx rfl (hb hby d4_62) rfl k) ?_
     refine own_s (g' := (mkF m 65 #[.val (.long q4_0), .second, .val (.long q4_1), .second, .val (.long q4_2), .second, .val (.long (t4_4 q4_1 q4_2)), .second, .val (.long ((q4_0.toUInt64 >>> ((1 : Int32) &&& 0x3f).toInt64.toUInt64).toInt64)), .second, .val (.long ((((9223372036854775807 : Int64) % (t4_4 q4_1 q4_2)) + (1 : Int64)) % (t4_4 q4_1 q4_2))), .second] [(.long ((-9223372036854775808 : Int64) - ((((9223372036854775807 : Int64) % (t4_4 q4_1 q4_2)) + (1 : Int64)) % (t4_4 q4_1 q4_2)))), (.long ((q4_0.toUInt64 >>> ((1 : Int32) &&& 0x3f).toInt64.toUInt64).toInt64))])) (fun _ k => XS.lsub X0.here hx rfl (hb hby d4_64) rfl k) ?_
     refine own_s (g' := (mkF m 66 #[.val (.long q4_0), .second, .val (.long q4_1), .second, .val (.long q4_2), .second, .val (.long (t4_4 q4_1 q4_2)), .second, .val (.long ((q4_0.toUInt64 >>> ((1 : Int32) &&& 0x3f).toInt64.toUInt64).toInt64)), .second, .val (.long ((((9223372036854775807 : Int64) % (t4_4 q4_1 q4_2)) + (1 : Int64)) % (t4_4 q4_1 q4_2))), .second] [(.int (lcmpW ((q4_0.toUInt64 >>> ((1 : Int32) &&& 0x3f).toInt64.toUInt64).toInt64) ((-9223372036854775808 : Int64) - ((((9223372036854775807 : Int64) % (t4_4 q4_1 q4_2)) + (1 : Int64)) % (t4_4 q4_1 q4_2)))))])) (fun _ k => XS.lcmp X0.here hx rfl (hb hby d4_65) rfl k) ?_
     by_cases c11 : ((q4_0.toUInt64 >>> ((1 : Int32) &&& 0x3f).toInt64.toUInt64).toInt64) < ((-9223372036854775808 : Int64) - ((((9223372036854775807 : Int64) % (t4_4 q4_1 q4_2)) + (1 : Int64)) % (t4_4 q4_1 q4_2)))
     ·skip
      refine own_s (g' := (mkF m 73 #[.val (.long q4_0), .second, .val (.long q4_1), .second, .val (.long q4_2), .second, .val (.long (t4_4 q4_1 q4_2)), .second, .val (.long ((q4_0.toUInt64 >>> ((1 : Int32) &&& 0x3f).toInt64.toUInt64).toInt64)), .second, .val (.long ((((9223372036854775807 : Int64) % (t4_4 q4_1 q4_2)) + (1 : Int64)) % (t4_4 q4_1 q4_2))), .second] [])) (fun _ k => XS.ifYes X0.here hx rfl (pc0 := 66) (pc' := 73) rfl (hb hby d4_66) rfl ((if0 _ _).trans (tlt ((lw_lt ((q4_0.toUInt64 >>> ((1 : Int32) &&& 0x3f).toInt64.toUInt64).toInt64) ((-9223372036854775808 : Int64) - ((((9223372036854775807 : Int64) % (t4_4 q4_1 q4_2)) + (1 : Int64)) % (t4_4 q4_1 q4_2)))).mpr c11)).1) (by decide) (by decide) k) ?_
      refine own_s (g' := (mkF m 75 #[.val (.long q4_0), .second, .val (.long q4_1), .second, .val (.long q4_2), .second, .val (.long (t4_4 q4_1 q4_2)), .second, .val (.long ((q4_0.toUInt64 >>> ((1 : Int32) &&& 0x3f).toInt64.toUInt64).toInt64)), .second, .val (.long ((((9223372036854775807 : Int64) % (t4_4 q4_1 q4_2)) + (1 : Int64)) % (t4_4 q4_1 q4_2))), .second] [(.long ((q4_0.toUInt64 >>> ((1 : Int32) &&& 0x3f).toInt64.toUInt64).toInt64))])) (fun _ k => XS.lload X0.here hx rfl (hb hby d4_73) rfl k) ?_
      refine own_s (g' := (mkF m 77 #[.val (.long q4_0), .second, .val (.long q4_1), .second, .val (.long q4_2), .second, .val (.long (t4_4 q4_1 q4_2)), .second, .val (.long ((q4_0.toUInt64 >>> ((1 : Int32) &&& 0x3f).toInt64.toUInt64).toInt64)), .second, .val (.long ((((9223372036854775807 : Int64) % (t4_4 q4_1 q4_2)) + (1 : Int64)) % (t4_4 q4_1 q4_2))), .second] [(.long (t4_4 q4_1 q4_2)), (.long ((q4_0.toUInt64 >>> ((1 : Int32) &&& 0x3f).toInt64.toUInt64).toInt64))])) (fun _ k => XS.lload X0.here hx rfl (hb hby d4_75) rfl k) ?_
      refine own_s (g' := (mkF m 78 #[.val (.long q4_0), .second, .val (.long q4_1), .second, .val (.long q4_2), .second, .val (.long (t4_4 q4_1 q4_2)), .second, .val (.long ((q4_0.toUInt64 >>> ((1 : Int32) &&& 0x3f).toInt64.toUInt64).toInt64)), .second, .val (.long ((((9223372036854775807 : Int64) % (t4_4 q4_1 q4_2)) + (1 : Int64)) % (t4_4 q4_1 q4_2))), .second] [(.long (((q4_0.toUInt64 >>> ((1 : Int32) &&& 0x3f).toInt64.toUInt64).toInt64) % (t4_4 q4_1 q4_2)))])) (fun _ k => XS.lrem X0.here hx rfl (hb hby d4_77) rfl (own_ltne'J c9) (by rw [lrem_mod]; exact k)) ?_
      refine own_retJ X0 hx hlk hret (hb hby d4_78) (by decide) (by decide) ?_
      show Q4 Z q4_0 q4_1 q4_2 h0 n0 _ s₁.heap _
      rw [e0]
      exact ⟨(congrArg (fun z => some (Value.long z)) (show (((q4_0.toUInt64 >>> ((1 : Int32) &&& 0x3f).toInt64.toUInt64).toInt64) % (t4_4 q4_1 q4_2)) = (r4 q4_0 q4_1 q4_2) from (Eq.symm ((if_neg c8).trans ((if_pos c9).trans ((if_neg c10).trans (if_pos c11))))))), N0, rfl⟩
     ·skip
      refine own_s (g' := (mkF m 69 #[.val (.long q4_0), .second, .val (.long q4_1), .second, .val (.long q4_2), .second, .val (.long (t4_4 q4_1 q4_2)), .second, .val (.long ((q4_0.toUInt64 >>> ((1 : Int32) &&& 0x3f).toInt64.toUInt64).toInt64)), .second, .val (.long ((((9223372036854775807 : Int64) % (t4_4 q4_1 q4_2)) + (1 : Int64)) % (t4_4 q4_1 q4_2))), .second] [])) (fun _ k => XS.ifNo X0.here hx rfl (hb hby d4_66) rfl ((if0 _ _).trans (flt (mt (lw_lt ((q4_0.toUInt64 >>> ((1 : Int32) &&& 0x3f).toInt64.toUInt64).toInt64) ((-9223372036854775808 : Int64) - ((((9223372036854775807 : Int64) % (t4_4 q4_1 q4_2)) + (1 : Int64)) % (t4_4 q4_1 q4_2)))).mp c11)).1) k) ?_
      refine own_s (g' := (mkF m 72 #[.val (.long q4_0), .second, .val (.long q4_1), .second, .val (.long q4_2), .second, .val (.long (t4_4 q4_1 q4_2)), .second, .val (.long ((q4_0.toUInt64 >>> ((1 : Int32) &&& 0x3f).toInt64.toUInt64).toInt64)), .second, .val (.long ((((9223372036854775807 : Int64) % (t4_4 q4_1 q4_2)) + (1 : Int64)) % (t4_4 q4_1 q4_2))), .second] [(.long (-1))])) (X0.ldc2Long hx hown (mvT hZ ww20) (g := (mkF m 69 #[.val (.long q4_0), .second, .val (.long q4_1), .second, .val (.long q4_2), .second, .val (.long (t4_4 q4_1 q4_2)), .second, .val (.long ((q4_0.toUInt64 >>> ((1 : Int32) &&& 0x3f).toInt64.toUInt64).toInt64)), .second, .val (.long ((((9223372036854775807 : Int64) % (t4_4 q4_1 q4_2)) + (1 : Int64)) % (t4_4 q4_1 q4_2))), .second] [])) rfl (hb hby d4_69)) ?_
      refine own_retJ X0 hx hlk hret (hb hby d4_72) (by decide) (by decide) ?_
      show Q4 Z q4_0 q4_1 q4_2 h0 n0 _ s₁.heap _
      rw [e0]
      exact ⟨(congrArg (fun z => some (Value.long z)) (show (-1 : Int64) = (r4 q4_0 q4_1 q4_2) from (Eq.symm ((if_neg c8).trans ((if_pos c9).trans ((if_neg c10).trans (if_neg c11))))))), N0, rfl⟩
   ·skip
    refine own_s (g' := (mkF m 79 #[.val (.long q4_0), .second, .val (.long q4_1), .second, .val (.long q4_2), .second, .val (.long (t4_4 q4_1 q4_2)), .second, .unset, .unset, .unset, .unset] [])) (fun _ k => XS.ifYes X0.here hx rfl (pc0 := 29) (pc' := 79) rfl (hb hby d4_29) rfl ((if0 _ _).trans (flt (mt (lw_gt (t4_4 q4_1 q4_2) (0 : Int64)).mp c9)).2.2.2) (by decide) (by decide) k) ?_
    refine own_s (g' := (mkF m 80 #[.val (.long q4_0), .second, .val (.long q4_1), .second, .val (.long q4_2), .second, .val (.long (t4_4 q4_1 q4_2)), .second, .unset, .unset, .unset, .unset] [(.long q4_0)])) (fun _ k => XS.lloadN X0.here hx rfl (hb hby d4_79) rfl k) ?_
    refine own_s (g' := (mkF m 81 #[.val (.long q4_0), .second, .val (.long q4_1), .second, .val (.long q4_2), .second, .val (.long (t4_4 q4_1 q4_2)), .second, .unset, .unset, .unset, .unset] [(.long q4_1), (.long q4_0)])) (fun _ k => XS.lloadN X0.here hx rfl (hb hby d4_80) rfl k) ?_
    refine own_s (g' := (mkF m 82 #[.val (.long q4_0), .second, .val (.long q4_1), .second, .val (.long q4_2), .second, .val (.long (t4_4 q4_1 q4_2)), .second, .unset, .unset, .unset, .unset] [(.long (q4_0 - q4_1))])) (fun _ k => XS.lsub X0.here hx rfl (hb hby d4_81) rfl k) ?_
    refine own_s (g' := (mkF m 84 #[.val (.long q4_0), .second, .val (.long q4_1), .second, .val (.long q4_2), .second, .val (.long (t4_4 q4_1 q4_2)), .second, .val (.long (q4_0 - q4_1)), .second, .unset, .unset] [])) (fun _ k => XS.lstore X0.here hx rfl (hb hby d4_82) rfl (l' := #[.val (.long q4_0), .second, .val (.long q4_1), .second, .val (.long q4_2), .second, .val (.long (t4_4 q4_1 q4_2)), .second, .val (.long (q4_0 - q4_1)), .second, .unset, .unset]) rfl k) ?_
    refine own_s (g' := (mkF m 86 #[.val (.long q4_0), .second, .val (.long q4_1), .second, .val (.long q4_2), .second, .val (.long (t4_4 q4_1 q4_2)), .second, .val (.long (q4_0 - q4_1)), .second, .unset, .unset] [(.long (q4_0 - q4_1))])) (fun _ k => XS.lload X0.here hx rfl (hb hby d4_84) rfl k) ?_
    refine own_s (g' := (mkF m 89 #[.val (.long q4_0), .second, .val (.long q4_1), .second, .val (.long q4_2), .second, .val (.long (t4_4 q4_1 q4_2)), .second, .val (.long (q4_0 - q4_1)), .second, .unset, .unset] [(.long (-9223372036854775808)), (.long (q4_0 - q4_1))])) (X0.ldc2Long hx hown (mvT hZ ww17) (g := (mkF m 86 #[.val (.long q4_0), .second, .val (.long q4_1), .second, .val (.long q4_2), .second, .val (.long (t4_4 q4_1 q4_2)), .second, .val (.long (q4_0 - q4_1)), .second, .unset, .unset] [(.long (q4_0 - q4_1))])) rfl (hb hby d4_86)) ?_
    refine own_s (g' := (mkF m 90 #[.val (.long q4_0), .second, .val (.long q4_1), .second, .val (.long q4_2), .second, .val (.long (t4_4 q4_1 q4_2)), .second, .val (.long (q4_0 - q4_1)), .second, .unset, .unset] [(.long ((q4_0 - q4_1) ^^^ (-9223372036854775808 : Int64)))])) (fun _ k => XS.lxor X0.here hx rfl (hb hby d4_89) rfl k) ?_
    refine own_s (g' := (mkF m 92 #[.val (.long q4_0), .second, .val (.long q4_1), .second, .val (.long q4_2), .second, .val (.long (t4_4 q4_1 q4_2)), .second, .val (.long (q4_0 - q4_1)), .second, .unset, .unset] [(.long (t4_4 q4_1 q4_2)), (.long ((q4_0 - q4_1) ^^^ (-9223372036854775808 : Int64)))])) (fun _ k => XS.lload X0.here hx rfl (hb hby d4_90) rfl k) ?_
    refine own_s (g' := (mkF m 95 #[.val (.long q4_0), .second, .val (.long q4_1), .second, .val (.long q4_2), .second, .val (.long (t4_4 q4_1 q4_2)), .second, .val (.long (q4_0 - q4_1)), .second, .unset, .unset] [(.long (-9223372036854775808)), (.long (t4_4 q4_1 q4_2)), (.long ((q4_0 - q4_1) ^^^ (-9223372036854775808 : Int64)))])) (X0.ldc2Long hx hown (mvT hZ ww17) (g := (mkF m 92 #[.val (.long q4_0), .second, .val (.long q4_1), .second, .val (.long q4_2), .second, .val (.long (t4_4 q4_1 q4_2)), .second, .val (.long (q4_0 - q4_1)), .second, .unset, .unset] [(.long (t4_4 q4_1 q4_2)), (.long ((q4_0 - q4_1) ^^^ (-9223372036854775808 : Int64)))])) rfl (hb hby d4_92)) ?_
    refine own_s (g' := (mkF m 96 #[.val (.long q4_0), .second, .val (.long q4_1), .second, .val (.long q4_2), .second, .val (.long (t4_4 q4_1 q4_2)), .second, .val (.long (q4_0 - q4_1)), .second, .unset, .unset] [(.long ((t4_4 q4_1 q4_2) ^^^ (-9223372036854775808 : Int64))), (.long ((q4_0 - q4_1) ^^^ (-9223372036854775808 : Int64)))])) (fun _ k => XS.lxor X0.here hx rfl (hb hby d4_95) rfl k) ?_
    refine own_s (g' := (mkF m 97 #[.val (.long q4_0), .second, .val (.long q4_1), .second, .val (.long q4_2), .second, .val (.long (t4_4 q4_1 q4_2)), .second, .val (.long (q4_0 - q4_1)), .second, .unset, .unset] [(.int (lcmpW ((q4_0 - q4_1) ^^^ (-9223372036854775808 : Int64)) ((t4_4 q4_1 q4_2) ^^^ (-9223372036854775808 : Int64))))])) (fun _ k => XS.lcmp X0.here hx rfl (hb hby d4_96) rfl k) ?_
    by_cases c12 : ((q4_0 - q4_1) ^^^ (-9223372036854775808 : Int64)) < ((t4_4 q4_1 q4_2) ^^^ (-9223372036854775808 : Int64))
    ·skip
     refine own_s (g' := (mkF m 100 #[.val (.long q4_0), .second, .val (.long q4_1), .second, .val (.long q4_2), .second, .val (.long (t4_4 q4_1 q4_2)), .second, .val (.long (q4_0 - q4_1)), .second, .unset, .unset] [])) (fun _ k => XS.ifNo X0.here hx rfl (hb hby d4_97) rfl ((if0 _ _).trans (tlt ((lw_lt ((q4_0 - q4_1) ^^^ (-9223372036854775808 : Int64)) ((t4_4 q4_1 q4_2) ^^^ (-9223372036854775808 : Int64))).mpr c12)).2.1) k) ?_
     refine own_s (g' := (mkF m 102 #[.val (.long q4_0), .second, .val (.long q4_1), .second, .val (.long q4_2), .second, .val (.long (t4_4 q4_1 q4_2)), .second, .val (.long (q4_0 - q4_1)), .second, .unset, .unset] [(.long (q4_0 - q4_1))])) (fun _ k => XS.lload X0.here hx rfl (hb hby d4_100) rfl k) ?_
     refine own_retJ X0 hx hlk hret (hb hby d4_102) (by decide) (by decide) ?_
     show Q4 Z q4_0 q4_1 q4_2 h0 n0 _ s₁.heap _
     rw [e0]
     exact ⟨(congrArg (fun z => some (Value.long z)) (show (q4_0 - q4_1) = (r4 q4_0 q4_1 q4_2) from (Eq.symm ((if_neg c8).trans ((if_neg c9).trans (if_pos c12)))))), N0, rfl⟩
    ·skip
     refine own_s (g' := (mkF m 103 #[.val (.long q4_0), .second, .val (.long q4_1), .second, .val (.long q4_2), .second, .val (.long (t4_4 q4_1 q4_2)), .second, .val (.long (q4_0 - q4_1)), .second, .unset, .unset] [])) (fun _ k => XS.ifYes X0.here hx rfl (pc0 := 97) (pc' := 103) rfl (hb hby d4_97) rfl ((if0 _ _).trans (flt (mt (lw_lt ((q4_0 - q4_1) ^^^ (-9223372036854775808 : Int64)) ((t4_4 q4_1 q4_2) ^^^ (-9223372036854775808 : Int64))).mp c12)).2.1) (by decide) (by decide) k) ?_
     refine own_s (g' := (mkF m 106 #[.val (.long q4_0), .second, .val (.long q4_1), .second, .val (.long q4_2), .second, .val (.long (t4_4 q4_1 q4_2)), .second, .val (.long (q4_0 - q4_1)), .second, .unset, .unset] [(.long (-1))])) (X0.ldc2Long hx hown (mvT hZ ww20) (g := (mkF m 103 #[.val (.long q4_0), .second, .val (.long q4_1), .second, .val (.long q4_2), .second, .val (.long (t4_4 q4_1 q4_2)), .second, .val (.long (q4_0 - q4_1)), .second, .unset, .unset] [])) rfl (hb hby d4_103)) ?_
     refine own_retJ X0 hx hlk hret (hb hby d4_106) (by decide) (by decide) ?_
     show Q4 Z q4_0 q4_1 q4_2 h0 n0 _ s₁.heap _
     rw [e0]
     exact ⟨(congrArg (fun z => some (Value.long z)) (show (-1 : Int64) = (r4 q4_0 q4_1 q4_2) from (Eq.symm ((if_neg c8).trans ((if_neg c9).trans (if_neg c12)))))), N0, rfl⟩
theorem own_xm (x : Int64) : x ^^^ (-9223372036854775808 : Int64) = x + (-9223372036854775808 : Int64) := by
  apply Int64.toBitVec_inj.mp
  rw [Int64.toBitVec_xor, Int64.toBitVec_add]
  have hm : (-9223372036854775808 : Int64).toBitVec = BitVec.ofNat 64 (2 ^ 63) := by decide
  rw [hm]
  apply BitVec.eq_of_toNat_eq
  rw [BitVec.toNat_xor, BitVec.toNat_add]
  have hn : (BitVec.ofNat 64 (2 ^ 63)).toNat = 2 ^ 63 := by decide
  rw [hn]
  have hx : x.toBitVec.toNat < 2 ^ 64 := x.toBitVec.isLt
  generalize x.toBitVec.toNat = n at hx
  apply Nat.eq_of_testBit_eq
  intro i
  rw [Nat.testBit_mod_two_pow, Nat.testBit_xor, Nat.testBit_two_pow, Nat.add_comm n]
  by_cases h1 : i < 63
  · rw [Nat.testBit_two_pow_add_gt h1]
    simp [show ¬ 63 = i from by omega, show i < 64 from by omega]
  · by_cases h2 : i = 63
    · subst h2
      rw [Nat.testBit_two_pow_add_eq]
      simp
    · have : n.testBit i = false := Nat.testBit_lt_two_pow (Nat.lt_of_lt_of_le hx (Nat.pow_le_pow_right (by decide) (by omega)))
      simp [show ¬ 63 = i from by omega, show ¬ i < 64 from by omega, this]
theorem own_bits (x y : BitVec 64) : x &&& ~~~y = x ↔ x &&& y = 0#64 := by
  constructor
  · intro h
    apply BitVec.eq_of_getLsbD_eq
    intro i hi
    have h' := congrArg (fun z : BitVec 64 => z.getLsbD i) h
    simp only [BitVec.getLsbD_and, BitVec.getLsbD_not, hi, decide_true, Bool.true_and] at h'
    simp only [BitVec.getLsbD_and, BitVec.getLsbD_zero]
    revert h'
    cases x.getLsbD i <;> cases y.getLsbD i <;> simp
  · intro h
    apply BitVec.eq_of_getLsbD_eq
    intro i hi
    have h' := congrArg (fun z : BitVec 64 => z.getLsbD i) h
    simp only [BitVec.getLsbD_and, BitVec.getLsbD_zero] at h'
    simp only [BitVec.getLsbD_and, BitVec.getLsbD_not, hi, decide_true, Bool.true_and]
    revert h'
    cases x.getLsbD i <;> cases y.getLsbD i <;> simp
theorem own_ng (s : BitVec 64) : -s = ~~~(s - 1#64) := by
  apply BitVec.eq_of_toNat_eq
  rw [BitVec.toNat_neg, BitVec.toNat_not, BitVec.toNat_sub]
  have h0 := s.isLt
  have h1 : (1#64 : BitVec 64).toNat = 1 := by decide
  rw [h1]
  omega
theorem own_p2 (s : Int64) : (s &&& (-s)) = s ↔ (s &&& (s - (1 : Int64))) = (0 : Int64) := by
  rw [← Int64.toBitVec_inj, ← Int64.toBitVec_inj, Int64.toBitVec_and, Int64.toBitVec_and, Int64.toBitVec_neg, Int64.toBitVec_sub]
  have e1 : (1 : Int64).toBitVec = 1#64 := by decide
  have e0 : (0 : Int64).toBitVec = 0#64 := by decide
  rw [e1, e0, own_ng]
  exact own_bits _ _
theorem own_max (x : Int64) (h : 0 ≤ x.toInt) : x &&& (9223372036854775807 : Int64) = x := by
  have q := c_maskL x 9223372036854775807 63 (by decide) (by decide)
  have r := rng64 x
  have e : ((2 ^ 63 : Nat) : Int) = 9223372036854775808 := by decide
  refine Int64.toInt_inj.mp ?_
  rw [q, e]
  exact Int.emod_eq_of_lt h r.2
theorem own_rem (C S q r : Int) (hC0 : 0 ≤ C) (hS : 0 < S) (hr0 : 0 ≤ r) (hrS : r < S) (hq : 9223372036854775808 = S * q + r) (hC : C < 9223372036854775808) :
    (9223372036854775808 ≤ C + S - 1 - C % S ↔ (r ≠ 0 ∧ 9223372036854775808 - r ≤ C)) := by
  have e := Int.mul_ediv_add_emod C S
  have m0 := Int.emod_nonneg C (Int.ne_of_gt hS)
  have m1 := Int.emod_lt_of_pos C hS
  generalize C % S = R at *
  generalize hd : C / S = d at *
  by_cases k : d < q
  · have h1 : S * (d + 1) ≤ S * q := Int.mul_le_mul_of_nonneg_left (by omega) (Int.le_of_lt hS)
    rw [Int.mul_add, Int.mul_one] at h1
    constructor
    · intro h; omega
    · intro h; omega
  · have h1 : S * q ≤ S * d := Int.mul_le_mul_of_nonneg_left (by omega) (Int.le_of_lt hS)
    constructor
    · intro h
      refine ⟨fun z => ?_, by omega⟩
      omega
    · intro h; omega
theorem own_m (x y : Int64) (hx : 0 ≤ x.toInt) : (x % y).toInt = x.toInt % y.toInt := by rw [Int64.toInt_mod, Int.tmod_eq_emod_of_nonneg hx]
theorem own_le (C S : Int) (h0 : 0 ≤ C) (hS : 0 < S) : C % S ≤ C := by
  have e := Int.mul_ediv_add_emod C S
  have p := Int.mul_nonneg (Int.le_of_lt hS) (Int.ediv_nonneg h0 (Int.le_of_lt hS))
  omega
theorem own_V (c s m : Int64) (R : Int) (hc : 0 ≤ c.toInt) (hs : 0 < s.toInt) (hm : m.toInt = R) (h0 : 0 ≤ R) (h1 : R < s.toInt) (h2 : R ≤ c.toInt) : (c + (s - (1 : Int64)) - m).toInt < 0 ↔ 9223372036854775808 ≤ c.toInt + s.toInt - 1 - R := by
  have z1 : (1 : Int64).toInt = 1 := by decide
  have f1 := c_lsub s 1
  have f2 := c_ladd c (s - 1)
  have f3 := c_lsub (c + (s - 1)) m
  have g1 := rng64 (s - 1)
  have g2 := rng64 (c + (s - 1))
  have g3 := rng64 (c + (s - 1) - m)
  have g4 := rng64 c
  have g5 := rng64 s
  rw [z1] at f1
  rw [hm] at f3
  omega
theorem own_W (r : Int64) (h0 : 0 < r.toInt) : ((-9223372036854775808 : Int64) - r).toInt = 9223372036854775808 - r.toInt := by
  have f := c_lsub (-9223372036854775808 : Int64) r
  have hN : (-9223372036854775808 : Int64).toInt = -9223372036854775808 := by decide
  have g := rng64 ((-9223372036854775808 : Int64) - r)
  have g2 := rng64 r
  rw [hN] at f
  omega
theorem own_r (s : Int64) (hs : 0 < s.toInt) : ((((9223372036854775807 : Int64) % s) + (1 : Int64)) % s).toInt = 9223372036854775808 % s.toInt := by
  have z1 : (1 : Int64).toInt = 1 := by decide
  have hM : (9223372036854775807 : Int64).toInt = 9223372036854775807 := by decide
  have hr1 := own_m 9223372036854775807 s (by rw [hM]; decide)
  rw [hM] at hr1
  have n0 := Int.emod_nonneg (9223372036854775807 : Int) (Int.ne_of_gt hs)
  have n1 := Int.emod_lt_of_pos (9223372036854775807 : Int) hs
  have gs := rng64 s
  have ha := c_ladd ((9223372036854775807 : Int64) % s) 1
  have hra := rng64 ((9223372036854775807 : Int64) % s + 1)
  rw [hr1, z1] at ha
  have ha' : ((9223372036854775807 : Int64) % s + 1).toInt = 9223372036854775807 % s.toInt + 1 := by omega
  rw [own_m ((9223372036854775807 : Int64) % s + 1) s (by rw [ha']; omega), ha', Int.emod_add_emod]
  rfl
theorem own_C (w o b : Int64) (h : o.toInt < b.toInt) (hn : ¬ 0 < (b - o).toInt) : ((w - o) + (-9223372036854775808 : Int64)).toInt < ((b - o) + (-9223372036854775808 : Int64)).toInt ↔ (o.toInt ≤ w.toInt ∧ w.toInt < b.toInt) := by
  have hs := c_lsub b o
  have rs := rng64 (b - o)
  have ro := rng64 o
  have rb := rng64 b
  have rw' := rng64 w
  have u3 := c_lsub w o
  have u4 := rng64 (w - o)
  have u5 := c_ladd (w - o) (-9223372036854775808 : Int64)
  have u6 := rng64 ((w - o) + (-9223372036854775808 : Int64))
  have u7 := c_ladd (b - o) (-9223372036854775808 : Int64)
  have u8 := rng64 ((b - o) + (-9223372036854775808 : Int64))
  have hN : (-9223372036854775808 : Int64).toInt = -9223372036854775808 := by decide
  rw [hN] at u5 u7
  generalize ((w - o) + (-9223372036854775808 : Int64)).toInt = A at *
  generalize ((b - o) + (-9223372036854775808 : Int64)).toInt = B at *
  generalize (w - o).toInt = D at *
  generalize (b - o).toInt = E at *
  generalize w.toInt = W at *
  generalize o.toInt = O at *
  generalize b.toInt = U at *
  have e1 : E = U - O - 18446744073709551616 := by omega
  have e2 : B = U - O - 9223372036854775808 := by omega
  by_cases d1 : W < O
  · have : A ≥ B ∨ A < B := by omega
    constructor
    · intro q; exfalso; omega
    · intro q; omega
  · constructor
    · intro q; refine ⟨by omega, ?_⟩; omega
    · intro q; omega
theorem own_A (w o b : Int64) (h : o.toInt < b.toInt) (c1 : ((b - o) &&& ((b - o) - (1 : Int64))) = (0 : Int64)) : 0 ≤ (w &&& ((b - o) - (1 : Int64))).toInt := by
  have hs := c_lsub b o
  have rs := rng64 (b - o)
  have ro := rng64 o
  have rb := rng64 b
  have z0 : (0 : Int64).toInt = 0 := by decide
  have z1 : (1 : Int64).toInt = 1 := by decide
  have k := c_lsub (b - o) 1
  have rk := rng64 ((b - o) - 1)
  have a1 := (c_andSL (b - o) ((b - o) - 1)).1
  rw [c1, z0] at a1
  rw [z1] at k
  exact (c_andSL w ((b - o) - 1)).2.2 (by omega)
theorem own_main (w o b : Int64) (h : o < b) : r3 w o b = r4 w o b := by
  unfold r3 r4
  have es : t3_4 o b = b - o := rfl
  have es' : t4_4 o b = b - o := rfl
  rw [es, es']
  have h' : o.toInt < b.toInt := Int64.lt_iff_toInt_lt.mp h
  have z0 : (0 : Int64).toInt = 0 := by decide
  by_cases c1 : ((b - o) &&& ((b - o) - (1 : Int64))) = (0 : Int64)
  · rw [if_pos c1, if_pos ((own_p2 _).mpr c1)]
    exact own_max _ (own_A w o b h' c1)
  · rw [if_neg c1, if_neg (fun q => c1 ((own_p2 _).mp q))]
    by_cases c2 : (0 : Int64) < (b - o)
    · rw [if_pos c2, if_pos c2]
      have c2' := Int64.lt_iff_toInt_lt.mp c2
      rw [z0] at c2'
      have hc := c_lushr w 1 1 (by decide) (by decide)
      have rc := rng64 ((w.toUInt64 >>> ((1 : Int32) &&& 0x3f).toInt64.toUInt64).toInt64)
      generalize ((w.toUInt64 >>> ((1 : Int32) &&& 0x3f).toInt64.toUInt64).toInt64) = c at *
      generalize (b - o) = s at *
      have hc0 : 0 ≤ c.toInt := by
        rw [hc]; exact Int.ediv_nonneg (Int.emod_nonneg _ (by decide)) (by decide)
      clear hc h h' es es'
      have hm := own_m c s hc0
      have m0 := Int.emod_nonneg c.toInt (Int.ne_of_gt c2')
      have m1 := Int.emod_lt_of_pos c.toInt c2'
      have m2 := own_le c.toInt s.toInt hc0 c2'
      have hV := own_V c s (c % s) _ hc0 c2' hm m0 m1 m2
      have hr2 := own_r s c2'
      have e2 := Int.mul_ediv_add_emod 9223372036854775808 s.toInt
      have p0 := Int.emod_nonneg (9223372036854775808 : Int) (Int.ne_of_gt c2')
      have p1 := Int.emod_lt_of_pos (9223372036854775808 : Int) c2'
      have key := own_rem c.toInt s.toInt (9223372036854775808 / s.toInt) (9223372036854775808 % s.toInt) hc0 c2' p0 p1 e2.symm rc.2
      have mx := own_max (c % s) (by rw [hm]; exact m0)
      rw [mx]
      have hW := own_W (((9223372036854775807 : Int64) % s + 1) % s)
      rw [hr2] at hW
      simp only [Int64.lt_iff_toInt_lt, ← Int64.toInt_inj, hr2, z0]
      by_cases g1 : (c + (s - 1) - c % s).toInt < 0
      · rw [if_pos g1]
        have g2 := key.mp (hV.mp g1)
        have g3 : 0 < 9223372036854775808 % s.toInt := Int.lt_iff_le_and_ne.mpr ⟨p0, Ne.symm g2.1⟩
        rw [if_neg g2.1, if_neg (by rw [hW g3]; exact Int.not_lt.mpr g2.2)]
      · rw [if_neg g1]
        by_cases g2 : 9223372036854775808 % s.toInt = 0
        · rw [if_pos g2]
        · rw [if_neg g2]
          have g3 : 0 < 9223372036854775808 % s.toInt := Int.lt_iff_le_and_ne.mpr ⟨p0, Ne.symm g2⟩
          rw [if_pos (by rw [hW g3]; exact Int.not_le.mp (fun z => g1 (hV.mpr (key.mpr ⟨g2, z⟩))))]
    · rw [if_neg c2, if_neg c2]
      have c2' : ¬ 0 < (b - o).toInt := fun q => c2 (Int64.lt_iff_toInt_lt.mpr (by rw [z0]; exact q))
      have u1 := own_xm (w - o)
      have u2 := own_xm (b - o)
      have hC := own_C w o b h' c2'
      rw [u1, u2]
      simp only [Int64.lt_iff_toInt_lt]
      by_cases d1 : w.toInt < o.toInt
      · rw [if_pos d1, if_neg (fun q => absurd (hC.mp q).1 (Int.not_le.mpr d1))]
      · rw [if_neg d1]
        by_cases d2 : w.toInt < b.toInt
        · rw [if_pos d2, if_pos (hC.mpr ⟨Int.not_lt.mp d1, d2⟩)]
        · rw [if_neg d2, if_neg (fun q => d2 (hC.mp q).2)]
theorem own_pw (q : Int32) : 0 < ((1 : Int64) <<< (q &&& 0x3f).toInt64).toInt ∨ ((1 : Int64) <<< (q &&& 0x3f).toInt64).toInt = -9223372036854775808 := by
  have h1 := c_lshl 1 q _ rfl
  have h2 := rng64 ((1 : Int64) <<< (q &&& 0x3f).toInt64)
  have hk : q.toBitVec.toNat % 64 < 64 := Nat.mod_lt _ (by decide)
  generalize q.toBitVec.toNat % 64 = k at *
  have p1 : 1 ≤ 2 ^ k := Nat.one_le_two_pow
  have p2 : 2 ^ k ≤ 2 ^ 63 := Nat.pow_le_pow_right (by decide) (by omega)
  have z1 : (1 : Int64).toInt = 1 := by decide
  rw [z1, Int.one_mul] at h1
  generalize 2 ^ k = P at *
  have p3 : (2 : Nat) ^ 63 = 9223372036854775808 := by decide
  rw [p3] at p2
  omega
theorem own_sub (a s : Int64) (hs : 0 < s.toInt ∨ s.toInt = -9223372036854775808) (h : ¬ a < a + s) : a - s < a := by
  rw [Int64.lt_iff_toInt_lt] at *
  have h1 := c_ladd a s
  have h2 := c_lsub a s
  have h3 := rng64 (a + s)
  have h4 := rng64 (a - s)
  have h5 := rng64 a
  have h6 := rng64 s
  omega

theorem own_mm (a b : Int64) (h : ¬ a = b) : r1 a b < r2 a b := by
  unfold r1 r2
  by_cases c1 : b < a
  · rw [if_pos c1, if_neg (own_asJ c1)]; exact c1
  · have c2 := own_triJ h c1
    rw [if_neg c1, if_pos c2]; exact c2
theorem pd__JJ_J : parseMethodDescriptor "(JJ)J" = some ⟨[.long, .long], some .long⟩ := by decide +kernel
theorem pd__JJJ_J : parseMethodDescriptor "(JJJ)J" = some ⟨[.long, .long, .long], some .long⟩ := by decide +kernel
theorem ef_0 (m : MethodId) (q0_0 : Int64) (q0_1 : Int64) (q0_2 : Int64) (p0_3 : Int32) : entryFrame m #[(.long q0_0), (.long q0_1), (.long q0_2), (.int p0_3)] maxLocals = mkF m 0 #[.val (.long q0_0), .second, .val (.long q0_1), .second, .val (.long q0_2), .second, .val (.int p0_3), .unset, .unset, .unset, .unset, .unset, .unset, .unset, .unset] [] := by first | (simp [entryFrame, mkF, argsToLocals, Value.category, maxLocals]; done) | rfl
def Q0 (Z : State) (q0_0 : Int64) (q0_1 : Int64) (q0_2 : Int64) (p0_3 : Int32) (h0 : Heap) (n0 : Nat) (v : Option Value) (h : Heap) (L : List Loc) : Prop := v = some (.int (1 : Int32)) ∧ Fr n0 L
set_option maxRecDepth 65536 in
set_option maxHeartbeats 40000000 in
theorem rm0 (l : Launch) (Z : State) (a0 : Array Value) (hw : ∀ d ∈ tables_1, d.before a0 Z = true) (ws : List Jvm.Cond) (q0_0 : Int64) (q0_1 : Int64) (q0_2 : Int64) (p0_3 : Int32) (h0 : Heap) (n0 : Nat) (Z0 : n0 ≤ h0.size) :
    MetFree l x (head1 (Jvm.Cond.code x code maxLocals ret :: ws) room_1) (fun a U => a = #[(.long q0_0), (.long q0_1), (.long q0_2), (.int p0_3)] ∧ Z.Warmed39 U.vm ∧ U.heap = h0) (fun _ _ _ _ _ => True) (fun _ U o U' => ∃ v L, o = .returned v ∧ Q0 Z q0_0 q0_1 q0_2 p0_3 h0 n0 v U'.heap L ∧ FrameEnd U o U' L 0 0) := by
  refine MetFree.of_bodySF (plainFor_of_name pn_com_example_forkstream_forkstream_WordGeneratorLongOffsetPinLaw) hisR ?_
  intro p e s m args below meth c s₁ Bd hml0 hP hK
  obtain ⟨rfl, hZ, hh⟩ := hP
  have hx := Bd.exec
  have hby := Bd.bytes
  have hlk := Bd.notSynchronized
  have hret := Bd.returns
  have hml : c.maxLocals = 15 := hml0
  have hown : s.vm.findClass "com/example/forkstream/forkstream/WordGeneratorLongOffsetPinLaw" = some m.cls := findClass_of_methodNamed Bd.named
  have hnm := (name_of_methodNamed Bd.named Bd.method).1
  have X0 : Stand p l e room_1 s m #[(.long q0_0), (.long q0_1), (.long q0_2), (.int p0_3)] below meth c s₁ [] 0 0 := Stand.of_body Bd
  have e0 : s₁.heap = h0 := by rw [← hh, Bd.state]; rfl
  have N0 := Fr.nil n0
  have K0 : Keep h0 h0 [] := Keep.refl _ _
  show own_G p e below s (Q0 Z q0_0 q0_1 q0_2 p0_3 h0 n0) 0 0 s₁ (entryFrame m #[(.long q0_0), (.long q0_1), (.long q0_2), (.int p0_3)] maxLocals)
  have ww0 := hw _ (List.mem_of_getElem? (i := 0) rfl)
  have ww1 := hw _ (List.mem_of_getElem? (i := 1) rfl)
  have ww2 := hw _ (List.mem_of_getElem? (i := 2) rfl)
  have ww3 := hw _ (List.mem_of_getElem? (i := 3) rfl)
  have ww4 := hw _ (List.mem_of_getElem? (i := 4) rfl)
  have ww5 := hw _ (List.mem_of_getElem? (i := 5) rfl)
  have ww6 := hw _ (List.mem_of_getElem? (i := 6) rfl)
  have ww7 := hw _ (List.mem_of_getElem? (i := 7) rfl)
  have ww8 := hw _ (List.mem_of_getElem? (i := 8) rfl)
  have ww9 := hw _ (List.mem_of_getElem? (i := 9) rfl)
  have ww10 := hw _ (List.mem_of_getElem? (i := 10) rfl)
  have ww12 := hw _ (List.mem_of_getElem? (i := 12) rfl)
  have ww13 := hw _ (List.mem_of_getElem? (i := 13) rfl)
  have ww14 := hw _ (List.mem_of_getElem? (i := 14) rfl)
  have ww15 := hw _ (List.mem_of_getElem? (i := 15) rfl)
  have ww18 := hw _ (List.mem_of_getElem? (i := 18) rfl)
  refine own_cast (ef_0 m q0_0 q0_1 q0_2 p0_3) ?_
  refine own_s (g' := (mkF m 2 #[.val (.long q0_0), .second, .val (.long q0_1), .second, .val (.long q0_2), .second, .val (.int p0_3), .unset, .unset, .unset, .unset, .unset, .unset, .unset, .unset] [(.int p0_3)])) (fun _ k => XS.iload X0.here hx rfl (hb hby at_0) rfl k) ?_
  refine own_s (g' := (mkF m 3 #[.val (.long q0_0), .second, .val (.long q0_1), .second, .val (.long q0_2), .second, .val (.int p0_3), .unset, .unset, .unset, .unset, .unset, .unset, .unset, .unset] [(.int 1), (.int p0_3)])) (fun _ k => XS.iconst X0.here hx rfl (hb hby at_2) k) ?_
  refine own_s (g' := (mkF m 4 #[.val (.long q0_0), .second, .val (.long q0_1), .second, .val (.long q0_2), .second, .val (.int p0_3), .unset, .unset, .unset, .unset, .unset, .unset, .unset, .unset] [(.int (p0_3 &&& (1 : Int32)))])) (fun _ k => XS.iand X0.here hx rfl (hb hby at_3) rfl k) ?_
  by_cases c13 : (p0_3 &&& (1 : Int32)) = (0 : Int32)
  ·skip
   refine own_s (g' := (mkF m 53 #[.val (.long q0_0), .second, .val (.long q0_1), .second, .val (.long q0_2), .second, .val (.int p0_3), .unset, .unset, .unset, .unset, .unset, .unset, .unset, .unset] [])) (fun _ k => XS.ifYes X0.here hx rfl (pc0 := 4) (pc' := 53) rfl (hb hby at_4) rfl ((if0 _ _).trans (teq c13).1) (by decide) (by decide) k) ?_
   refine own_s (g' := (mkF m 54 #[.val (.long q0_0), .second, .val (.long q0_1), .second, .val (.long q0_2), .second, .val (.int p0_3), .unset, .unset, .unset, .unset, .unset, .unset, .unset, .unset] [(.long q0_1)])) (fun _ k => XS.lloadN X0.here hx rfl (hb hby at_53) rfl k) ?_
   refine own_s (g' := (mkF m 56 #[.val (.long q0_0), .second, .val (.long q0_1), .second, .val (.long q0_2), .second, .val (.int p0_3), .unset, .unset, .unset, .unset, .unset, .unset, .unset, .unset] [(.long q0_2), (.long q0_1)])) (fun _ k => XS.lload X0.here hx rfl (hb hby at_54) rfl k) ?_
   refine own_s (g' := (mkF m 57 #[.val (.long q0_0), .second, .val (.long q0_1), .second, .val (.long q0_2), .second, .val (.int p0_3), .unset, .unset, .unset, .unset, .unset, .unset, .unset, .unset] [(.int (lcmpW q0_1 q0_2))])) (fun _ k => XS.lcmp X0.here hx rfl (hb hby at_56) rfl k) ?_
   by_cases c14 : q0_1 = q0_2
   ·skip
    refine own_s (g' := (mkF m 60 #[.val (.long q0_0), .second, .val (.long q0_1), .second, .val (.long q0_2), .second, .val (.int p0_3), .unset, .unset, .unset, .unset, .unset, .unset, .unset, .unset] [])) (fun _ k => XS.ifNo X0.here hx rfl (hb hby at_57) rfl ((if0 _ _).trans (teq ((lw_eq q0_1 q0_2).mpr c14)).2) k) ?_
    refine own_s (g' := (mkF m 61 #[.val (.long q0_0), .second, .val (.long q0_1), .second, .val (.long q0_2), .second, .val (.int p0_3), .unset, .unset, .unset, .unset, .unset, .unset, .unset, .unset] [(.int 1)])) (fun _ k => XS.iconst X0.here hx rfl (hb hby at_60) k) ?_
    refine own_retN X0 hx hlk (t := .boolean) hret (by simp) (hb hby at_61) (z' := (1 : Int32)) (by decide) (by decide) (by decide) ?_
    show Q0 Z q0_0 q0_1 q0_2 p0_3 h0 n0 _ s₁.heap _
    rw [e0]
    exact ⟨rfl, N0⟩
   ·skip
    refine own_s (g' := (mkF m 62 #[.val (.long q0_0), .second, .val (.long q0_1), .second, .val (.long q0_2), .second, .val (.int p0_3), .unset, .unset, .unset, .unset, .unset, .unset, .unset, .unset] [])) (fun _ k => XS.ifYes X0.here hx rfl (pc0 := 57) (pc' := 62) rfl (hb hby at_57) rfl ((if0 _ _).trans (feq (mt (lw_eq q0_1 q0_2).mp c14)).2) (by decide) (by decide) k) ?_
    refine own_s (g' := (mkF m 63 #[.val (.long q0_0), .second, .val (.long q0_1), .second, .val (.long q0_2), .second, .val (.int p0_3), .unset, .unset, .unset, .unset, .unset, .unset, .unset, .unset] [(.long q0_1)])) (fun _ k => XS.lloadN X0.here hx rfl (hb hby at_62) rfl k) ?_
    refine own_s (g' := (mkF m 65 #[.val (.long q0_0), .second, .val (.long q0_1), .second, .val (.long q0_2), .second, .val (.int p0_3), .unset, .unset, .unset, .unset, .unset, .unset, .unset, .unset] [(.long q0_2), (.long q0_1)])) (fun _ k => XS.lload X0.here hx rfl (hb hby at_63) rfl k) ?_
    obtain ⟨_, _, ⟨T15, L15, k15, n15⟩, -, X15, ⟨Lc15, hQ15, l15, y15, z15⟩, st15⟩ := Jvm.LawKit.callS X0 hx (y := (⟨"java/lang/Math", "min", "(JJ)J"⟩ : MethodName)) hown (mvT hZ ww0) (mvT hZ ww1) (mvT hZ ww2) (mvT hZ ww3) (by decide) (backOf (W := 0) (rm1 l Z a0 hw [] q0_1 q0_2 h0 n0 Z0 ) hZ ww3 ww2 (by decide) (by decide)) (g := (mkF m 65 #[.val (.long q0_0), .second, .val (.long q0_1), .second, .val (.long q0_2), .second, .val (.int p0_3), .unset, .unset, .unset, .unset, .unset, .unset, .unset, .unset] [(.long q0_2), (.long q0_1)])) rfl (by rw [hml]; rfl) (argsL := [(.long q0_1), (.long q0_2)]) (rest := []) (lenOf pd__JJ_J rfl) rfl (by show 2 * 0 + _ ≤ _; exact Nat.le_of_eq rfl) (hb hby at_65) (fun _ _ => ⟨rfl, e0, (by decide : 0 + 0 ≤ _), (by decide : 0 + 0 ≤ _)⟩)
    dsimp only [Pt.U, Pt.locs, Pt.cells, Pt.slots] at X15 l15 y15 z15 st15 hQ15
    subst l15 y15 z15
    obtain ⟨rfl, N15q, eh15⟩ := hQ15
    have N15 := Fr.app N0 N15q
    refine own_s (g' := (mkF m 68 #[.val (.long q0_0), .second, .val (.long q0_1), .second, .val (.long q0_2), .second, .val (.int p0_3), .unset, .unset, .unset, .unset, .unset, .unset, .unset, .unset] [(.long (r1 q0_1 q0_2))])) st15 ?_
    refine own_s (g' := (mkF m 70 #[.val (.long q0_0), .second, .val (.long q0_1), .second, .val (.long q0_2), .second, .val (.int p0_3), .val (.long (r1 q0_1 q0_2)), .second, .unset, .unset, .unset, .unset, .unset, .unset] [])) (fun _ k => XS.lstore X15.here hx rfl (hb hby at_68) rfl (l' := #[.val (.long q0_0), .second, .val (.long q0_1), .second, .val (.long q0_2), .second, .val (.int p0_3), .val (.long (r1 q0_1 q0_2)), .second, .unset, .unset, .unset, .unset, .unset, .unset]) rfl k) ?_
    refine own_s (g' := (mkF m 71 #[.val (.long q0_0), .second, .val (.long q0_1), .second, .val (.long q0_2), .second, .val (.int p0_3), .val (.long (r1 q0_1 q0_2)), .second, .unset, .unset, .unset, .unset, .unset, .unset] [(.long q0_1)])) (fun _ k => XS.lloadN X15.here hx rfl (hb hby at_70) rfl k) ?_
    refine own_s (g' := (mkF m 73 #[.val (.long q0_0), .second, .val (.long q0_1), .second, .val (.long q0_2), .second, .val (.int p0_3), .val (.long (r1 q0_1 q0_2)), .second, .unset, .unset, .unset, .unset, .unset, .unset] [(.long q0_2), (.long q0_1)])) (fun _ k => XS.lload X15.here hx rfl (hb hby at_71) rfl k) ?_
    obtain ⟨_, _, ⟨T16, L16, k16, n16⟩, -, X16, ⟨Lc16, hQ16, l16, y16, z16⟩, st16⟩ := Jvm.LawKit.callS X15 hx (y := (⟨"java/lang/Math", "max", "(JJ)J"⟩ : MethodName)) hown (mvT hZ ww4) (mvT hZ ww5) (mvT hZ ww2) (mvT hZ ww6) (by decide) (backOf (W := 0) (rm2 l Z a0 hw [] q0_1 q0_2 h0 n0 Z0 ) hZ ww6 ww2 (by decide) (by decide)) (g := (mkF m 73 #[.val (.long q0_0), .second, .val (.long q0_1), .second, .val (.long q0_2), .second, .val (.int p0_3), .val (.long (r1 q0_1 q0_2)), .second, .unset, .unset, .unset, .unset, .unset, .unset] [(.long q0_2), (.long q0_1)])) rfl (by rw [hml]; rfl) (argsL := [(.long q0_1), (.long q0_2)]) (rest := []) (lenOf pd__JJ_J rfl) rfl (by show 2 * 0 + _ ≤ _; exact Nat.le_of_eq rfl) (hb hby at_73) (fun _ _ => ⟨rfl, eh15, (by decide : 0 + 0 ≤ _), (by decide : 0 + 0 ≤ _)⟩)
    dsimp only [Pt.U, Pt.locs, Pt.cells, Pt.slots] at X16 l16 y16 z16 st16 hQ16
    subst l16 y16 z16
    obtain ⟨rfl, N16q, eh16⟩ := hQ16
    have N16 := Fr.app N15 N16q
    refine own_s (g' := (mkF m 76 #[.val (.long q0_0), .second, .val (.long q0_1), .second, .val (.long q0_2), .second, .val (.int p0_3), .val (.long (r1 q0_1 q0_2)), .second, .unset, .unset, .unset, .unset, .unset, .unset] [(.long (r2 q0_1 q0_2))])) st16 ?_
    refine own_s (g' := (mkF m 78 #[.val (.long q0_0), .second, .val (.long q0_1), .second, .val (.long q0_2), .second, .val (.int p0_3), .val (.long (r1 q0_1 q0_2)), .second, .val (.long (r2 q0_1 q0_2)), .second, .unset, .unset, .unset, .unset] [])) (fun _ k => XS.lstore X16.here hx rfl (hb hby at_76) rfl (l' := #[.val (.long q0_0), .second, .val (.long q0_1), .second, .val (.long q0_2), .second, .val (.int p0_3), .val (.long (r1 q0_1 q0_2)), .second, .val (.long (r2 q0_1 q0_2)), .second, .unset, .unset, .unset, .unset]) rfl k) ?_
    refine own_s (g' := (mkF m 79 #[.val (.long q0_0), .second, .val (.long q0_1), .second, .val (.long q0_2), .second, .val (.int p0_3), .val (.long (r1 q0_1 q0_2)), .second, .val (.long (r2 q0_1 q0_2)), .second, .unset, .unset, .unset, .unset] [(.long q0_0)])) (fun _ k => XS.lloadN X16.here hx rfl (hb hby at_78) rfl k) ?_
    refine own_s (g' := (mkF m 81 #[.val (.long q0_0), .second, .val (.long q0_1), .second, .val (.long q0_2), .second, .val (.int p0_3), .val (.long (r1 q0_1 q0_2)), .second, .val (.long (r2 q0_1 q0_2)), .second, .unset, .unset, .unset, .unset] [(.long (r1 q0_1 q0_2)), (.long q0_0)])) (fun _ k => XS.lload X16.here hx rfl (hb hby at_79) rfl k) ?_
    refine own_s (g' := (mkF m 83 #[.val (.long q0_0), .second, .val (.long q0_1), .second, .val (.long q0_2), .second, .val (.int p0_3), .val (.long (r1 q0_1 q0_2)), .second, .val (.long (r2 q0_1 q0_2)), .second, .unset, .unset, .unset, .unset] [(.long (r2 q0_1 q0_2)), (.long (r1 q0_1 q0_2)), (.long q0_0)])) (fun _ k => XS.lload X16.here hx rfl (hb hby at_81) rfl k) ?_
    obtain ⟨_, _, ⟨T17, L17, k17, n17⟩, -, X17, ⟨Lc17, hQ17, l17, y17, z17⟩, st17⟩ := Jvm.LawKit.callS X16 hx (y := (⟨"com/example/forkstream/forkstream/WordGenerator", "longOffset", "(JJJ)J"⟩ : MethodName)) hown (mvT hZ ww7) (mvT hZ ww8) (mvT hZ ww9) (mvT hZ ww10) (by decide) (backOf (W := 0) (rm3 l Z a0 hw [] q0_0 (r1 q0_1 q0_2) (r2 q0_1 q0_2) h0 n0 Z0 ) hZ ww10 ww9 (by decide) (by decide)) (g := (mkF m 83 #[.val (.long q0_0), .second, .val (.long q0_1), .second, .val (.long q0_2), .second, .val (.int p0_3), .val (.long (r1 q0_1 q0_2)), .second, .val (.long (r2 q0_1 q0_2)), .second, .unset, .unset, .unset, .unset] [(.long (r2 q0_1 q0_2)), (.long (r1 q0_1 q0_2)), (.long q0_0)])) rfl (by rw [hml]; rfl) (argsL := [(.long q0_0), (.long (r1 q0_1 q0_2)), (.long (r2 q0_1 q0_2))]) (rest := []) (lenOf pd__JJJ_J rfl) rfl (by show 2 * 0 + _ ≤ _; exact Nat.le_of_eq rfl) (hb hby at_83) (fun _ _ => ⟨rfl, eh16, (by decide : 0 + 0 ≤ _), (by decide : 0 + 0 ≤ _)⟩)
    dsimp only [Pt.U, Pt.locs, Pt.cells, Pt.slots] at X17 l17 y17 z17 st17 hQ17
    subst l17 y17 z17
    obtain ⟨rfl, N17q, eh17⟩ := hQ17
    have N17 := Fr.app N16 N17q
    refine own_s (g' := (mkF m 86 #[.val (.long q0_0), .second, .val (.long q0_1), .second, .val (.long q0_2), .second, .val (.int p0_3), .val (.long (r1 q0_1 q0_2)), .second, .val (.long (r2 q0_1 q0_2)), .second, .unset, .unset, .unset, .unset] [(.long (r3 q0_0 (r1 q0_1 q0_2) (r2 q0_1 q0_2)))])) st17 ?_
    refine own_s (g' := (mkF m 88 #[.val (.long q0_0), .second, .val (.long q0_1), .second, .val (.long q0_2), .second, .val (.int p0_3), .val (.long (r1 q0_1 q0_2)), .second, .val (.long (r2 q0_1 q0_2)), .second, .val (.long (r3 q0_0 (r1 q0_1 q0_2) (r2 q0_1 q0_2))), .second, .unset, .unset] [])) (fun _ k => XS.lstore X17.here hx rfl (hb hby at_86) rfl (l' := #[.val (.long q0_0), .second, .val (.long q0_1), .second, .val (.long q0_2), .second, .val (.int p0_3), .val (.long (r1 q0_1 q0_2)), .second, .val (.long (r2 q0_1 q0_2)), .second, .val (.long (r3 q0_0 (r1 q0_1 q0_2) (r2 q0_1 q0_2))), .second, .unset, .unset]) rfl k) ?_
    refine own_s (g' := (mkF m 90 #[.val (.long q0_0), .second, .val (.long q0_1), .second, .val (.long q0_2), .second, .val (.int p0_3), .val (.long (r1 q0_1 q0_2)), .second, .val (.long (r2 q0_1 q0_2)), .second, .val (.long (r3 q0_0 (r1 q0_1 q0_2) (r2 q0_1 q0_2))), .second, .unset, .unset] [(.long (r3 q0_0 (r1 q0_1 q0_2) (r2 q0_1 q0_2)))])) (fun _ k => XS.lload X17.here hx rfl (hb hby at_88) rfl k) ?_
    refine own_s (g' := (mkF m 91 #[.val (.long q0_0), .second, .val (.long q0_1), .second, .val (.long q0_2), .second, .val (.int p0_3), .val (.long (r1 q0_1 q0_2)), .second, .val (.long (r2 q0_1 q0_2)), .second, .val (.long (r3 q0_0 (r1 q0_1 q0_2) (r2 q0_1 q0_2))), .second, .unset, .unset] [(.long q0_0), (.long (r3 q0_0 (r1 q0_1 q0_2) (r2 q0_1 q0_2)))])) (fun _ k => XS.lloadN X17.here hx rfl (hb hby at_90) rfl k) ?_
    refine own_s (g' := (mkF m 93 #[.val (.long q0_0), .second, .val (.long q0_1), .second, .val (.long q0_2), .second, .val (.int p0_3), .val (.long (r1 q0_1 q0_2)), .second, .val (.long (r2 q0_1 q0_2)), .second, .val (.long (r3 q0_0 (r1 q0_1 q0_2) (r2 q0_1 q0_2))), .second, .unset, .unset] [(.long (r1 q0_1 q0_2)), (.long q0_0), (.long (r3 q0_0 (r1 q0_1 q0_2) (r2 q0_1 q0_2)))])) (fun _ k => XS.lload X17.here hx rfl (hb hby at_91) rfl k) ?_
    refine own_s (g' := (mkF m 95 #[.val (.long q0_0), .second, .val (.long q0_1), .second, .val (.long q0_2), .second, .val (.int p0_3), .val (.long (r1 q0_1 q0_2)), .second, .val (.long (r2 q0_1 q0_2)), .second, .val (.long (r3 q0_0 (r1 q0_1 q0_2) (r2 q0_1 q0_2))), .second, .unset, .unset] [(.long (r2 q0_1 q0_2)), (.long (r1 q0_1 q0_2)), (.long q0_0), (.long (r3 q0_0 (r1 q0_1 q0_2) (r2 q0_1 q0_2)))])) (fun _ k => XS.lload X17.here hx rfl (hb hby at_93) rfl k) ?_
    obtain ⟨_, _, ⟨T18, L18, k18, n18⟩, -, X18, ⟨Lc18, hQ18, l18, y18, z18⟩, st18⟩ := Jvm.LawKit.callS X17 hx (y := (⟨"com/example/forkstream/forkstream/WordGeneratorLongOffsetPinLaw", "expected", "(JJJ)J"⟩ : MethodName)) hown (mvT hZ ww12) (mvT hZ ww13) (mvT hZ ww14) (mvT hZ ww15) (by decide) (backOf (W := 2) (rm4 l Z a0 hw [] q0_0 (r1 q0_1 q0_2) (r2 q0_1 q0_2) h0 n0 Z0 ) hZ ww15 ww14 (by decide) (by decide)) (g := (mkF m 95 #[.val (.long q0_0), .second, .val (.long q0_1), .second, .val (.long q0_2), .second, .val (.int p0_3), .val (.long (r1 q0_1 q0_2)), .second, .val (.long (r2 q0_1 q0_2)), .second, .val (.long (r3 q0_0 (r1 q0_1 q0_2) (r2 q0_1 q0_2))), .second, .unset, .unset] [(.long (r2 q0_1 q0_2)), (.long (r1 q0_1 q0_2)), (.long q0_0), (.long (r3 q0_0 (r1 q0_1 q0_2) (r2 q0_1 q0_2)))])) rfl (by rw [hml]; rfl) (argsL := [(.long q0_0), (.long (r1 q0_1 q0_2)), (.long (r2 q0_1 q0_2))]) (rest := [(.long (r3 q0_0 (r1 q0_1 q0_2) (r2 q0_1 q0_2)))]) (lenOf pd__JJJ_J rfl) rfl (by show 2 * 0 + _ ≤ _; exact Nat.le_of_eq rfl) (hb hby at_95) (fun _ _ => ⟨rfl, eh17, (by decide : 0 + 0 ≤ _), (by decide : 0 + 0 ≤ _)⟩)
    dsimp only [Pt.U, Pt.locs, Pt.cells, Pt.slots] at X18 l18 y18 z18 st18 hQ18
    subst l18 y18 z18
    obtain ⟨rfl, N18q, eh18⟩ := hQ18
    have N18 := Fr.app N17 N18q
    refine own_s (g' := (mkF m 98 #[.val (.long q0_0), .second, .val (.long q0_1), .second, .val (.long q0_2), .second, .val (.int p0_3), .val (.long (r1 q0_1 q0_2)), .second, .val (.long (r2 q0_1 q0_2)), .second, .val (.long (r3 q0_0 (r1 q0_1 q0_2) (r2 q0_1 q0_2))), .second, .unset, .unset] [(.long (r4 q0_0 (r1 q0_1 q0_2) (r2 q0_1 q0_2))), (.long (r3 q0_0 (r1 q0_1 q0_2) (r2 q0_1 q0_2)))])) st18 ?_
    refine own_s (g' := (mkF m 99 #[.val (.long q0_0), .second, .val (.long q0_1), .second, .val (.long q0_2), .second, .val (.int p0_3), .val (.long (r1 q0_1 q0_2)), .second, .val (.long (r2 q0_1 q0_2)), .second, .val (.long (r3 q0_0 (r1 q0_1 q0_2) (r2 q0_1 q0_2))), .second, .unset, .unset] [(.int (lcmpW (r3 q0_0 (r1 q0_1 q0_2) (r2 q0_1 q0_2)) (r4 q0_0 (r1 q0_1 q0_2) (r2 q0_1 q0_2))))])) (fun _ k => XS.lcmp X18.here hx rfl (hb hby at_98) rfl k) ?_
    refine own_s (g' := (mkF m 102 #[.val (.long q0_0), .second, .val (.long q0_1), .second, .val (.long q0_2), .second, .val (.int p0_3), .val (.long (r1 q0_1 q0_2)), .second, .val (.long (r2 q0_1 q0_2)), .second, .val (.long (r3 q0_0 (r1 q0_1 q0_2) (r2 q0_1 q0_2))), .second, .unset, .unset] [])) (fun _ k => XS.ifNo X18.here hx rfl (hb hby at_99) rfl ((if0 _ _).trans (teq ((lw_eq (r3 q0_0 (r1 q0_1 q0_2) (r2 q0_1 q0_2)) (r4 q0_0 (r1 q0_1 q0_2) (r2 q0_1 q0_2))).mpr (own_main _ _ _ (own_mm _ _ c14)))).2) k) ?_
    refine own_s (g' := (mkF m 103 #[.val (.long q0_0), .second, .val (.long q0_1), .second, .val (.long q0_2), .second, .val (.int p0_3), .val (.long (r1 q0_1 q0_2)), .second, .val (.long (r2 q0_1 q0_2)), .second, .val (.long (r3 q0_0 (r1 q0_1 q0_2) (r2 q0_1 q0_2))), .second, .unset, .unset] [(.int 1)])) (fun _ k => XS.iconst X18.here hx rfl (hb hby at_102) k) ?_
    refine own_s (g' := (mkF m 107 #[.val (.long q0_0), .second, .val (.long q0_1), .second, .val (.long q0_2), .second, .val (.int p0_3), .val (.long (r1 q0_1 q0_2)), .second, .val (.long (r2 q0_1 q0_2)), .second, .val (.long (r3 q0_0 (r1 q0_1 q0_2) (r2 q0_1 q0_2))), .second, .unset, .unset] [(.int 1)])) (fun _ k => XS.goto X18.here hx rfl (pc0 := 103) (pc' := 107) rfl (hb hby at_103) (by decide) (by decide) k) ?_
    refine own_retN X18 hx hlk (t := .boolean) hret (by simp) (hb hby at_107) (z' := (1 : Int32)) (by decide) (by decide) (by decide) ?_
    show Q0 Z q0_0 q0_1 q0_2 p0_3 h0 n0 _ T18.heap _
    rw [eh18]
    exact ⟨rfl, N18⟩
  ·skip
   refine own_s (g' := (mkF m 7 #[.val (.long q0_0), .second, .val (.long q0_1), .second, .val (.long q0_2), .second, .val (.int p0_3), .unset, .unset, .unset, .unset, .unset, .unset, .unset, .unset] [])) (fun _ k => XS.ifNo X0.here hx rfl (hb hby at_4) rfl ((if0 _ _).trans (feq c13).1) k) ?_
   refine own_s (g' := (mkF m 8 #[.val (.long q0_0), .second, .val (.long q0_1), .second, .val (.long q0_2), .second, .val (.int p0_3), .unset, .unset, .unset, .unset, .unset, .unset, .unset, .unset] [(.long 1)])) (fun _ k => XS.lconst X0.here hx rfl (hb hby at_7) k) ?_
   refine own_s (g' := (mkF m 10 #[.val (.long q0_0), .second, .val (.long q0_1), .second, .val (.long q0_2), .second, .val (.int p0_3), .unset, .unset, .unset, .unset, .unset, .unset, .unset, .unset] [(.long q0_2), (.long 1)])) (fun _ k => XS.lload X0.here hx rfl (hb hby at_8) rfl k) ?_
   refine own_s (g' := (mkF m 13 #[.val (.long q0_0), .second, .val (.long q0_1), .second, .val (.long q0_2), .second, .val (.int p0_3), .unset, .unset, .unset, .unset, .unset, .unset, .unset, .unset] [(.long 63), (.long q0_2), (.long 1)])) (X0.ldc2Long hx hown (mvT hZ ww18) (g := (mkF m 10 #[.val (.long q0_0), .second, .val (.long q0_1), .second, .val (.long q0_2), .second, .val (.int p0_3), .unset, .unset, .unset, .unset, .unset, .unset, .unset, .unset] [(.long q0_2), (.long 1)])) rfl (hb hby at_10)) ?_
   refine own_s (g' := (mkF m 14 #[.val (.long q0_0), .second, .val (.long q0_1), .second, .val (.long q0_2), .second, .val (.int p0_3), .unset, .unset, .unset, .unset, .unset, .unset, .unset, .unset] [(.long (q0_2 &&& (63 : Int64))), (.long 1)])) (fun _ k => XS.land X0.here hx rfl (hb hby at_13) rfl k) ?_
   refine own_s (g' := (mkF m 15 #[.val (.long q0_0), .second, .val (.long q0_1), .second, .val (.long q0_2), .second, .val (.int p0_3), .unset, .unset, .unset, .unset, .unset, .unset, .unset, .unset] [(.int (q0_2 &&& (63 : Int64)).toInt32), (.long 1)])) (fun _ k => XS.l2i X0.here hx rfl (hb hby at_14) rfl k) ?_
   refine own_s (g' := (mkF m 16 #[.val (.long q0_0), .second, .val (.long q0_1), .second, .val (.long q0_2), .second, .val (.int p0_3), .unset, .unset, .unset, .unset, .unset, .unset, .unset, .unset] [(.long ((1 : Int64) <<< ((q0_2 &&& (63 : Int64)).toInt32 &&& 0x3f).toInt64))])) (fun _ k => XS.lshl X0.here hx rfl (hb hby at_15) rfl k) ?_
   refine own_s (g' := (mkF m 18 #[.val (.long q0_0), .second, .val (.long q0_1), .second, .val (.long q0_2), .second, .val (.int p0_3), .unset, .unset, .unset, .unset, .val (.long ((1 : Int64) <<< ((q0_2 &&& (63 : Int64)).toInt32 &&& 0x3f).toInt64)), .second, .unset, .unset] [])) (fun _ k => XS.lstore X0.here hx rfl (hb hby at_16) rfl (l' := #[.val (.long q0_0), .second, .val (.long q0_1), .second, .val (.long q0_2), .second, .val (.int p0_3), .unset, .unset, .unset, .unset, .val (.long ((1 : Int64) <<< ((q0_2 &&& (63 : Int64)).toInt32 &&& 0x3f).toInt64)), .second, .unset, .unset]) rfl k) ?_
   refine own_s (g' := (mkF m 19 #[.val (.long q0_0), .second, .val (.long q0_1), .second, .val (.long q0_2), .second, .val (.int p0_3), .unset, .unset, .unset, .unset, .val (.long ((1 : Int64) <<< ((q0_2 &&& (63 : Int64)).toInt32 &&& 0x3f).toInt64)), .second, .unset, .unset] [(.long q0_1)])) (fun _ k => XS.lloadN X0.here hx rfl (hb hby at_18) rfl k) ?_
   refine own_s (g' := (mkF m 21 #[.val (.long q0_0), .second, .val (.long q0_1), .second, .val (.long q0_2), .second, .val (.int p0_3), .unset, .unset, .unset, .unset, .val (.long ((1 : Int64) <<< ((q0_2 &&& (63 : Int64)).toInt32 &&& 0x3f).toInt64)), .second, .unset, .unset] [(.long ((1 : Int64) <<< ((q0_2 &&& (63 : Int64)).toInt32 &&& 0x3f).toInt64)), (.long q0_1)])) (fun _ k => XS.lload X0.here hx rfl (hb hby at_19) rfl k) ?_
   refine own_s (g' := (mkF m 22 #[.val (.long q0_0), .second, .val (.long q0_1), .second, .val (.long q0_2), .second, .val (.int p0_3), .unset, .unset, .unset, .unset, .val (.long ((1 : Int64) <<< ((q0_2 &&& (63 : Int64)).toInt32 &&& 0x3f).toInt64)), .second, .unset, .unset] [(.long (q0_1 + ((1 : Int64) <<< ((q0_2 &&& (63 : Int64)).toInt32 &&& 0x3f).toInt64)))])) (fun _ k => XS.ladd X0.here hx rfl (hb hby at_21) rfl k) ?_
   refine own_s (g' := (mkF m 24 #[.val (.long q0_0), .second, .val (.long q0_1), .second, .val (.long q0_2), .second, .val (.int p0_3), .unset, .unset, .unset, .unset, .val (.long ((1 : Int64) <<< ((q0_2 &&& (63 : Int64)).toInt32 &&& 0x3f).toInt64)), .second, .val (.long (q0_1 + ((1 : Int64) <<< ((q0_2 &&& (63 : Int64)).toInt32 &&& 0x3f).toInt64))), .second] [])) (fun _ k => XS.lstore X0.here hx rfl (hb hby at_22) rfl (l' := #[.val (.long q0_0), .second, .val (.long q0_1), .second, .val (.long q0_2), .second, .val (.int p0_3), .unset, .unset, .unset, .unset, .val (.long ((1 : Int64) <<< ((q0_2 &&& (63 : Int64)).toInt32 &&& 0x3f).toInt64)), .second, .val (.long (q0_1 + ((1 : Int64) <<< ((q0_2 &&& (63 : Int64)).toInt32 &&& 0x3f).toInt64))), .second]) rfl k) ?_
   refine own_s (g' := (mkF m 26 #[.val (.long q0_0), .second, .val (.long q0_1), .second, .val (.long q0_2), .second, .val (.int p0_3), .unset, .unset, .unset, .unset, .val (.long ((1 : Int64) <<< ((q0_2 &&& (63 : Int64)).toInt32 &&& 0x3f).toInt64)), .second, .val (.long (q0_1 + ((1 : Int64) <<< ((q0_2 &&& (63 : Int64)).toInt32 &&& 0x3f).toInt64))), .second] [(.long (q0_1 + ((1 : Int64) <<< ((q0_2 &&& (63 : Int64)).toInt32 &&& 0x3f).toInt64)))])) (fun _ k => XS.lload X0.here hx rfl (hb hby at_24) rfl k) ?_
   refine own_s (g' := (mkF m 27 #[.val (.long q0_0), .second, .val (.long q0_1), .second, .val (.long q0_2), .second, .val (.int p0_3), .unset, .unset, .unset, .unset, .val (.long ((1 : Int64) <<< ((q0_2 &&& (63 : Int64)).toInt32 &&& 0x3f).toInt64)), .second, .val (.long (q0_1 + ((1 : Int64) <<< ((q0_2 &&& (63 : Int64)).toInt32 &&& 0x3f).toInt64))), .second] [(.long q0_1), (.long (q0_1 + ((1 : Int64) <<< ((q0_2 &&& (63 : Int64)).toInt32 &&& 0x3f).toInt64)))])) (fun _ k => XS.lloadN X0.here hx rfl (hb hby at_26) rfl k) ?_
   refine own_s (g' := (mkF m 28 #[.val (.long q0_0), .second, .val (.long q0_1), .second, .val (.long q0_2), .second, .val (.int p0_3), .unset, .unset, .unset, .unset, .val (.long ((1 : Int64) <<< ((q0_2 &&& (63 : Int64)).toInt32 &&& 0x3f).toInt64)), .second, .val (.long (q0_1 + ((1 : Int64) <<< ((q0_2 &&& (63 : Int64)).toInt32 &&& 0x3f).toInt64))), .second] [(.int (lcmpW (q0_1 + ((1 : Int64) <<< ((q0_2 &&& (63 : Int64)).toInt32 &&& 0x3f).toInt64)) q0_1))])) (fun _ k => XS.lcmp X0.here hx rfl (hb hby at_27) rfl k) ?_
   by_cases c19 : q0_1 < (q0_1 + ((1 : Int64) <<< ((q0_2 &&& (63 : Int64)).toInt32 &&& 0x3f).toInt64))
   ·skip
    refine own_s (g' := (mkF m 31 #[.val (.long q0_0), .second, .val (.long q0_1), .second, .val (.long q0_2), .second, .val (.int p0_3), .unset, .unset, .unset, .unset, .val (.long ((1 : Int64) <<< ((q0_2 &&& (63 : Int64)).toInt32 &&& 0x3f).toInt64)), .second, .val (.long (q0_1 + ((1 : Int64) <<< ((q0_2 &&& (63 : Int64)).toInt32 &&& 0x3f).toInt64))), .second] [])) (fun _ k => XS.ifNo X0.here hx rfl (hb hby at_28) rfl ((if0 _ _).trans (tlt ((lw_gt (q0_1 + ((1 : Int64) <<< ((q0_2 &&& (63 : Int64)).toInt32 &&& 0x3f).toInt64)) q0_1).mpr c19)).2.2.2) k) ?_
    refine own_s (g' := (mkF m 32 #[.val (.long q0_0), .second, .val (.long q0_1), .second, .val (.long q0_2), .second, .val (.int p0_3), .unset, .unset, .unset, .unset, .val (.long ((1 : Int64) <<< ((q0_2 &&& (63 : Int64)).toInt32 &&& 0x3f).toInt64)), .second, .val (.long (q0_1 + ((1 : Int64) <<< ((q0_2 &&& (63 : Int64)).toInt32 &&& 0x3f).toInt64))), .second] [(.long q0_1)])) (fun _ k => XS.lloadN X0.here hx rfl (hb hby at_31) rfl k) ?_
    refine own_s (g' := (mkF m 34 #[.val (.long q0_0), .second, .val (.long q0_1), .second, .val (.long q0_2), .second, .val (.int p0_3), .val (.long q0_1), .second, .unset, .unset, .val (.long ((1 : Int64) <<< ((q0_2 &&& (63 : Int64)).toInt32 &&& 0x3f).toInt64)), .second, .val (.long (q0_1 + ((1 : Int64) <<< ((q0_2 &&& (63 : Int64)).toInt32 &&& 0x3f).toInt64))), .second] [])) (fun _ k => XS.lstore X0.here hx rfl (hb hby at_32) rfl (l' := #[.val (.long q0_0), .second, .val (.long q0_1), .second, .val (.long q0_2), .second, .val (.int p0_3), .val (.long q0_1), .second, .unset, .unset, .val (.long ((1 : Int64) <<< ((q0_2 &&& (63 : Int64)).toInt32 &&& 0x3f).toInt64)), .second, .val (.long (q0_1 + ((1 : Int64) <<< ((q0_2 &&& (63 : Int64)).toInt32 &&& 0x3f).toInt64))), .second]) rfl k) ?_
    refine own_s (g' := (mkF m 36 #[.val (.long q0_0), .second, .val (.long q0_1), .second, .val (.long q0_2), .second, .val (.int p0_3), .val (.long q0_1), .second, .unset, .unset, .val (.long ((1 : Int64) <<< ((q0_2 &&& (63 : Int64)).toInt32 &&& 0x3f).toInt64)), .second, .val (.long (q0_1 + ((1 : Int64) <<< ((q0_2 &&& (63 : Int64)).toInt32 &&& 0x3f).toInt64))), .second] [(.long (q0_1 + ((1 : Int64) <<< ((q0_2 &&& (63 : Int64)).toInt32 &&& 0x3f).toInt64)))])) (fun _ k => XS.lload X0.here hx rfl (hb hby at_34) rfl k) ?_
    refine own_s (g' := (mkF m 38 #[.val (.long q0_0), .second, .val (.long q0_1), .second, .val (.long q0_2), .second, .val (.int p0_3), .val (.long q0_1), .second, .val (.long (q0_1 + ((1 : Int64) <<< ((q0_2 &&& (63 : Int64)).toInt32 &&& 0x3f).toInt64))), .second, .val (.long ((1 : Int64) <<< ((q0_2 &&& (63 : Int64)).toInt32 &&& 0x3f).toInt64)), .second, .val (.long (q0_1 + ((1 : Int64) <<< ((q0_2 &&& (63 : Int64)).toInt32 &&& 0x3f).toInt64))), .second] [])) (fun _ k => XS.lstore X0.here hx rfl (hb hby at_36) rfl (l' := #[.val (.long q0_0), .second, .val (.long q0_1), .second, .val (.long q0_2), .second, .val (.int p0_3), .val (.long q0_1), .second, .val (.long (q0_1 + ((1 : Int64) <<< ((q0_2 &&& (63 : Int64)).toInt32 &&& 0x3f).toInt64))), .second, .val (.long ((1 : Int64) <<< ((q0_2 &&& (63 : Int64)).toInt32 &&& 0x3f).toInt64)), .second, .val (.long (q0_1 + ((1 : Int64) <<< ((q0_2 &&& (63 : Int64)).toInt32 &&& 0x3f).toInt64))), .second]) rfl k) ?_
    refine own_s (g' := (mkF m 50 #[.val (.long q0_0), .second, .val (.long q0_1), .second, .val (.long q0_2), .second, .val (.int p0_3), .val (.long q0_1), .second, .val (.long (q0_1 + ((1 : Int64) <<< ((q0_2 &&& (63 : Int64)).toInt32 &&& 0x3f).toInt64))), .second, .val (.long ((1 : Int64) <<< ((q0_2 &&& (63 : Int64)).toInt32 &&& 0x3f).toInt64)), .second, .val (.long (q0_1 + ((1 : Int64) <<< ((q0_2 &&& (63 : Int64)).toInt32 &&& 0x3f).toInt64))), .second] [])) (fun _ k => XS.goto X0.here hx rfl (pc0 := 38) (pc' := 50) rfl (hb hby at_38) (by decide) (by decide) k) ?_
    refine own_s (g' := (mkF m 78 #[.val (.long q0_0), .second, .val (.long q0_1), .second, .val (.long q0_2), .second, .val (.int p0_3), .val (.long q0_1), .second, .val (.long (q0_1 + ((1 : Int64) <<< ((q0_2 &&& (63 : Int64)).toInt32 &&& 0x3f).toInt64))), .second, .val (.long ((1 : Int64) <<< ((q0_2 &&& (63 : Int64)).toInt32 &&& 0x3f).toInt64)), .second, .val (.long (q0_1 + ((1 : Int64) <<< ((q0_2 &&& (63 : Int64)).toInt32 &&& 0x3f).toInt64))), .second] [])) (fun _ k => XS.goto X0.here hx rfl (pc0 := 50) (pc' := 78) rfl (hb hby at_50) (by decide) (by decide) k) ?_
    refine own_s (g' := (mkF m 79 #[.val (.long q0_0), .second, .val (.long q0_1), .second, .val (.long q0_2), .second, .val (.int p0_3), .val (.long q0_1), .second, .val (.long (q0_1 + ((1 : Int64) <<< ((q0_2 &&& (63 : Int64)).toInt32 &&& 0x3f).toInt64))), .second, .val (.long ((1 : Int64) <<< ((q0_2 &&& (63 : Int64)).toInt32 &&& 0x3f).toInt64)), .second, .val (.long (q0_1 + ((1 : Int64) <<< ((q0_2 &&& (63 : Int64)).toInt32 &&& 0x3f).toInt64))), .second] [(.long q0_0)])) (fun _ k => XS.lloadN X0.here hx rfl (hb hby at_78) rfl k) ?_
    refine own_s (g' := (mkF m 81 #[.val (.long q0_0), .second, .val (.long q0_1), .second, .val (.long q0_2), .second, .val (.int p0_3), .val (.long q0_1), .second, .val (.long (q0_1 + ((1 : Int64) <<< ((q0_2 &&& (63 : Int64)).toInt32 &&& 0x3f).toInt64))), .second, .val (.long ((1 : Int64) <<< ((q0_2 &&& (63 : Int64)).toInt32 &&& 0x3f).toInt64)), .second, .val (.long (q0_1 + ((1 : Int64) <<< ((q0_2 &&& (63 : Int64)).toInt32 &&& 0x3f).toInt64))), .second] [(.long q0_1), (.long q0_0)])) (fun _ k => XS.lload X0.here hx rfl (hb hby at_79) rfl k) ?_
    refine own_s (g' := (mkF m 83 #[.val (.long q0_0), .second, .val (.long q0_1), .second, .val (.long q0_2), .second, .val (.int p0_3), .val (.long q0_1), .second, .val (.long (q0_1 + ((1 : Int64) <<< ((q0_2 &&& (63 : Int64)).toInt32 &&& 0x3f).toInt64))), .second, .val (.long ((1 : Int64) <<< ((q0_2 &&& (63 : Int64)).toInt32 &&& 0x3f).toInt64)), .second, .val (.long (q0_1 + ((1 : Int64) <<< ((q0_2 &&& (63 : Int64)).toInt32 &&& 0x3f).toInt64))), .second] [(.long (q0_1 + ((1 : Int64) <<< ((q0_2 &&& (63 : Int64)).toInt32 &&& 0x3f).toInt64))), (.long q0_1), (.long q0_0)])) (fun _ k => XS.lload X0.here hx rfl (hb hby at_81) rfl k) ?_
    obtain ⟨_, _, ⟨T20, L20, k20, n20⟩, -, X20, ⟨Lc20, hQ20, l20, y20, z20⟩, st20⟩ := Jvm.LawKit.callS X0 hx (y := (⟨"com/example/forkstream/forkstream/WordGenerator", "longOffset", "(JJJ)J"⟩ : MethodName)) hown (mvT hZ ww7) (mvT hZ ww8) (mvT hZ ww9) (mvT hZ ww10) (by decide) (backOf (W := 0) (rm3 l Z a0 hw [] q0_0 q0_1 (q0_1 + ((1 : Int64) <<< ((q0_2 &&& (63 : Int64)).toInt32 &&& 0x3f).toInt64)) h0 n0 Z0 ) hZ ww10 ww9 (by decide) (by decide)) (g := (mkF m 83 #[.val (.long q0_0), .second, .val (.long q0_1), .second, .val (.long q0_2), .second, .val (.int p0_3), .val (.long q0_1), .second, .val (.long (q0_1 + ((1 : Int64) <<< ((q0_2 &&& (63 : Int64)).toInt32 &&& 0x3f).toInt64))), .second, .val (.long ((1 : Int64) <<< ((q0_2 &&& (63 : Int64)).toInt32 &&& 0x3f).toInt64)), .second, .val (.long (q0_1 + ((1 : Int64) <<< ((q0_2 &&& (63 : Int64)).toInt32 &&& 0x3f).toInt64))), .second] [(.long (q0_1 + ((1 : Int64) <<< ((q0_2 &&& (63 : Int64)).toInt32 &&& 0x3f).toInt64))), (.long q0_1), (.long q0_0)])) rfl (by rw [hml]; rfl) (argsL := [(.long q0_0), (.long q0_1), (.long (q0_1 + ((1 : Int64) <<< ((q0_2 &&& (63 : Int64)).toInt32 &&& 0x3f).toInt64)))]) (rest := []) (lenOf pd__JJJ_J rfl) rfl (by show 2 * 0 + _ ≤ _; exact Nat.le_of_eq rfl) (hb hby at_83) (fun _ _ => ⟨rfl, e0, (by decide : 0 + 0 ≤ _), (by decide : 0 + 0 ≤ _)⟩)
    dsimp only [Pt.U, Pt.locs, Pt.cells, Pt.slots] at X20 l20 y20 z20 st20 hQ20
    subst l20 y20 z20
    obtain ⟨rfl, N20q, eh20⟩ := hQ20
    have N20 := Fr.app N0 N20q
    refine own_s (g' := (mkF m 86 #[.val (.long q0_0), .second, .val (.long q0_1), .second, .val (.long q0_2), .second, .val (.int p0_3), .val (.long q0_1), .second, .val (.long (q0_1 + ((1 : Int64) <<< ((q0_2 &&& (63 : Int64)).toInt32 &&& 0x3f).toInt64))), .second, .val (.long ((1 : Int64) <<< ((q0_2 &&& (63 : Int64)).toInt32 &&& 0x3f).toInt64)), .second, .val (.long (q0_1 + ((1 : Int64) <<< ((q0_2 &&& (63 : Int64)).toInt32 &&& 0x3f).toInt64))), .second] [(.long (r3 q0_0 q0_1 (q0_1 + ((1 : Int64) <<< ((q0_2 &&& (63 : Int64)).toInt32 &&& 0x3f).toInt64))))])) st20 ?_
    refine own_s (g' := (mkF m 88 #[.val (.long q0_0), .second, .val (.long q0_1), .second, .val (.long q0_2), .second, .val (.int p0_3), .val (.long q0_1), .second, .val (.long (q0_1 + ((1 : Int64) <<< ((q0_2 &&& (63 : Int64)).toInt32 &&& 0x3f).toInt64))), .second, .val (.long (r3 q0_0 q0_1 (q0_1 + ((1 : Int64) <<< ((q0_2 &&& (63 : Int64)).toInt32 &&& 0x3f).toInt64)))), .second, .val (.long (q0_1 + ((1 : Int64) <<< ((q0_2 &&& (63 : Int64)).toInt32 &&& 0x3f).toInt64))), .second] [])) (fun _ k => XS.lstore X20.here hx rfl (hb hby at_86) rfl (l' := #[.val (.long q0_0), .second, .val (.long q0_1), .second, .val (.long q0_2), .second, .val (.int p0_3), .val (.long q0_1), .second, .val (.long (q0_1 + ((1 : Int64) <<< ((q0_2 &&& (63 : Int64)).toInt32 &&& 0x3f).toInt64))), .second, .val (.long (r3 q0_0 q0_1 (q0_1 + ((1 : Int64) <<< ((q0_2 &&& (63 : Int64)).toInt32 &&& 0x3f).toInt64)))), .second, .val (.long (q0_1 + ((1 : Int64) <<< ((q0_2 &&& (63 : Int64)).toInt32 &&& 0x3f).toInt64))), .second]) rfl k) ?_
    refine own_s (g' := (mkF m 90 #[.val (.long q0_0), .second, .val (.long q0_1), .second, .val (.long q0_2), .second, .val (.int p0_3), .val (.long q0_1), .second, .val (.long (q0_1 + ((1 : Int64) <<< ((q0_2 &&& (63 : Int64)).toInt32 &&& 0x3f).toInt64))), .second, .val (.long (r3 q0_0 q0_1 (q0_1 + ((1 : Int64) <<< ((q0_2 &&& (63 : Int64)).toInt32 &&& 0x3f).toInt64)))), .second, .val (.long (q0_1 + ((1 : Int64) <<< ((q0_2 &&& (63 : Int64)).toInt32 &&& 0x3f).toInt64))), .second] [(.long (r3 q0_0 q0_1 (q0_1 + ((1 : Int64) <<< ((q0_2 &&& (63 : Int64)).toInt32 &&& 0x3f).toInt64))))])) (fun _ k => XS.lload X20.here hx rfl (hb hby at_88) rfl k) ?_
    refine own_s (g' := (mkF m 91 #[.val (.long q0_0), .second, .val (.long q0_1), .second, .val (.long q0_2), .second, .val (.int p0_3), .val (.long q0_1), .second, .val (.long (q0_1 + ((1 : Int64) <<< ((q0_2 &&& (63 : Int64)).toInt32 &&& 0x3f).toInt64))), .second, .val (.long (r3 q0_0 q0_1 (q0_1 + ((1 : Int64) <<< ((q0_2 &&& (63 : Int64)).toInt32 &&& 0x3f).toInt64)))), .second, .val (.long (q0_1 + ((1 : Int64) <<< ((q0_2 &&& (63 : Int64)).toInt32 &&& 0x3f).toInt64))), .second] [(.long q0_0), (.long (r3 q0_0 q0_1 (q0_1 + ((1 : Int64) <<< ((q0_2 &&& (63 : Int64)).toInt32 &&& 0x3f).toInt64))))])) (fun _ k => XS.lloadN X20.here hx rfl (hb hby at_90) rfl k) ?_
    refine own_s (g' := (mkF m 93 #[.val (.long q0_0), .second, .val (.long q0_1), .second, .val (.long q0_2), .second, .val (.int p0_3), .val (.long q0_1), .second, .val (.long (q0_1 + ((1 : Int64) <<< ((q0_2 &&& (63 : Int64)).toInt32 &&& 0x3f).toInt64))), .second, .val (.long (r3 q0_0 q0_1 (q0_1 + ((1 : Int64) <<< ((q0_2 &&& (63 : Int64)).toInt32 &&& 0x3f).toInt64)))), .second, .val (.long (q0_1 + ((1 : Int64) <<< ((q0_2 &&& (63 : Int64)).toInt32 &&& 0x3f).toInt64))), .second] [(.long q0_1), (.long q0_0), (.long (r3 q0_0 q0_1 (q0_1 + ((1 : Int64) <<< ((q0_2 &&& (63 : Int64)).toInt32 &&& 0x3f).toInt64))))])) (fun _ k => XS.lload X20.here hx rfl (hb hby at_91) rfl k) ?_
    refine own_s (g' := (mkF m 95 #[.val (.long q0_0), .second, .val (.long q0_1), .second, .val (.long q0_2), .second, .val (.int p0_3), .val (.long q0_1), .second, .val (.long (q0_1 + ((1 : Int64) <<< ((q0_2 &&& (63 : Int64)).toInt32 &&& 0x3f).toInt64))), .second, .val (.long (r3 q0_0 q0_1 (q0_1 + ((1 : Int64) <<< ((q0_2 &&& (63 : Int64)).toInt32 &&& 0x3f).toInt64)))), .second, .val (.long (q0_1 + ((1 : Int64) <<< ((q0_2 &&& (63 : Int64)).toInt32 &&& 0x3f).toInt64))), .second] [(.long (q0_1 + ((1 : Int64) <<< ((q0_2 &&& (63 : Int64)).toInt32 &&& 0x3f).toInt64))), (.long q0_1), (.long q0_0), (.long (r3 q0_0 q0_1 (q0_1 + ((1 : Int64) <<< ((q0_2 &&& (63 : Int64)).toInt32 &&& 0x3f).toInt64))))])) (fun _ k => XS.lload X20.here hx rfl (hb hby at_93) rfl k) ?_
    obtain ⟨_, _, ⟨T21, L21, k21, n21⟩, -, X21, ⟨Lc21, hQ21, l21, y21, z21⟩, st21⟩ := Jvm.LawKit.callS X20 hx (y := (⟨"com/example/forkstream/forkstream/WordGeneratorLongOffsetPinLaw", "expected", "(JJJ)J"⟩ : MethodName)) hown (mvT hZ ww12) (mvT hZ ww13) (mvT hZ ww14) (mvT hZ ww15) (by decide) (backOf (W := 2) (rm4 l Z a0 hw [] q0_0 q0_1 (q0_1 + ((1 : Int64) <<< ((q0_2 &&& (63 : Int64)).toInt32 &&& 0x3f).toInt64)) h0 n0 Z0 ) hZ ww15 ww14 (by decide) (by decide)) (g := (mkF m 95 #[.val (.long q0_0), .second, .val (.long q0_1), .second, .val (.long q0_2), .second, .val (.int p0_3), .val (.long q0_1), .second, .val (.long (q0_1 + ((1 : Int64) <<< ((q0_2 &&& (63 : Int64)).toInt32 &&& 0x3f).toInt64))), .second, .val (.long (r3 q0_0 q0_1 (q0_1 + ((1 : Int64) <<< ((q0_2 &&& (63 : Int64)).toInt32 &&& 0x3f).toInt64)))), .second, .val (.long (q0_1 + ((1 : Int64) <<< ((q0_2 &&& (63 : Int64)).toInt32 &&& 0x3f).toInt64))), .second] [(.long (q0_1 + ((1 : Int64) <<< ((q0_2 &&& (63 : Int64)).toInt32 &&& 0x3f).toInt64))), (.long q0_1), (.long q0_0), (.long (r3 q0_0 q0_1 (q0_1 + ((1 : Int64) <<< ((q0_2 &&& (63 : Int64)).toInt32 &&& 0x3f).toInt64))))])) rfl (by rw [hml]; rfl) (argsL := [(.long q0_0), (.long q0_1), (.long (q0_1 + ((1 : Int64) <<< ((q0_2 &&& (63 : Int64)).toInt32 &&& 0x3f).toInt64)))]) (rest := [(.long (r3 q0_0 q0_1 (q0_1 + ((1 : Int64) <<< ((q0_2 &&& (63 : Int64)).toInt32 &&& 0x3f).toInt64))))]) (lenOf pd__JJJ_J rfl) rfl (by show 2 * 0 + _ ≤ _; exact Nat.le_of_eq rfl) (hb hby at_95) (fun _ _ => ⟨rfl, eh20, (by decide : 0 + 0 ≤ _), (by decide : 0 + 0 ≤ _)⟩)
    dsimp only [Pt.U, Pt.locs, Pt.cells, Pt.slots] at X21 l21 y21 z21 st21 hQ21
    subst l21 y21 z21
    obtain ⟨rfl, N21q, eh21⟩ := hQ21
    have N21 := Fr.app N20 N21q
    refine own_s (g' := (mkF m 98 #[.val (.long q0_0), .second, .val (.long q0_1), .second, .val (.long q0_2), .second, .val (.int p0_3), .val (.long q0_1), .second, .val (.long (q0_1 + ((1 : Int64) <<< ((q0_2 &&& (63 : Int64)).toInt32 &&& 0x3f).toInt64))), .second, .val (.long (r3 q0_0 q0_1 (q0_1 + ((1 : Int64) <<< ((q0_2 &&& (63 : Int64)).toInt32 &&& 0x3f).toInt64)))), .second, .val (.long (q0_1 + ((1 : Int64) <<< ((q0_2 &&& (63 : Int64)).toInt32 &&& 0x3f).toInt64))), .second] [(.long (r4 q0_0 q0_1 (q0_1 + ((1 : Int64) <<< ((q0_2 &&& (63 : Int64)).toInt32 &&& 0x3f).toInt64)))), (.long (r3 q0_0 q0_1 (q0_1 + ((1 : Int64) <<< ((q0_2 &&& (63 : Int64)).toInt32 &&& 0x3f).toInt64))))])) st21 ?_
    refine own_s (g' := (mkF m 99 #[.val (.long q0_0), .second, .val (.long q0_1), .second, .val (.long q0_2), .second, .val (.int p0_3), .val (.long q0_1), .second, .val (.long (q0_1 + ((1 : Int64) <<< ((q0_2 &&& (63 : Int64)).toInt32 &&& 0x3f).toInt64))), .second, .val (.long (r3 q0_0 q0_1 (q0_1 + ((1 : Int64) <<< ((q0_2 &&& (63 : Int64)).toInt32 &&& 0x3f).toInt64)))), .second, .val (.long (q0_1 + ((1 : Int64) <<< ((q0_2 &&& (63 : Int64)).toInt32 &&& 0x3f).toInt64))), .second] [(.int (lcmpW (r3 q0_0 q0_1 (q0_1 + ((1 : Int64) <<< ((q0_2 &&& (63 : Int64)).toInt32 &&& 0x3f).toInt64))) (r4 q0_0 q0_1 (q0_1 + ((1 : Int64) <<< ((q0_2 &&& (63 : Int64)).toInt32 &&& 0x3f).toInt64)))))])) (fun _ k => XS.lcmp X21.here hx rfl (hb hby at_98) rfl k) ?_
    refine own_s (g' := (mkF m 102 #[.val (.long q0_0), .second, .val (.long q0_1), .second, .val (.long q0_2), .second, .val (.int p0_3), .val (.long q0_1), .second, .val (.long (q0_1 + ((1 : Int64) <<< ((q0_2 &&& (63 : Int64)).toInt32 &&& 0x3f).toInt64))), .second, .val (.long (r3 q0_0 q0_1 (q0_1 + ((1 : Int64) <<< ((q0_2 &&& (63 : Int64)).toInt32 &&& 0x3f).toInt64)))), .second, .val (.long (q0_1 + ((1 : Int64) <<< ((q0_2 &&& (63 : Int64)).toInt32 &&& 0x3f).toInt64))), .second] [])) (fun _ k => XS.ifNo X21.here hx rfl (hb hby at_99) rfl ((if0 _ _).trans (teq ((lw_eq (r3 q0_0 q0_1 (q0_1 + ((1 : Int64) <<< ((q0_2 &&& (63 : Int64)).toInt32 &&& 0x3f).toInt64))) (r4 q0_0 q0_1 (q0_1 + ((1 : Int64) <<< ((q0_2 &&& (63 : Int64)).toInt32 &&& 0x3f).toInt64)))).mpr (own_main _ _ _ c19))).2) k) ?_
    refine own_s (g' := (mkF m 103 #[.val (.long q0_0), .second, .val (.long q0_1), .second, .val (.long q0_2), .second, .val (.int p0_3), .val (.long q0_1), .second, .val (.long (q0_1 + ((1 : Int64) <<< ((q0_2 &&& (63 : Int64)).toInt32 &&& 0x3f).toInt64))), .second, .val (.long (r3 q0_0 q0_1 (q0_1 + ((1 : Int64) <<< ((q0_2 &&& (63 : Int64)).toInt32 &&& 0x3f).toInt64)))), .second, .val (.long (q0_1 + ((1 : Int64) <<< ((q0_2 &&& (63 : Int64)).toInt32 &&& 0x3f).toInt64))), .second] [(.int 1)])) (fun _ k => XS.iconst X21.here hx rfl (hb hby at_102) k) ?_
    refine own_s (g' := (mkF m 107 #[.val (.long q0_0), .second, .val (.long q0_1), .second, .val (.long q0_2), .second, .val (.int p0_3), .val (.long q0_1), .second, .val (.long (q0_1 + ((1 : Int64) <<< ((q0_2 &&& (63 : Int64)).toInt32 &&& 0x3f).toInt64))), .second, .val (.long (r3 q0_0 q0_1 (q0_1 + ((1 : Int64) <<< ((q0_2 &&& (63 : Int64)).toInt32 &&& 0x3f).toInt64)))), .second, .val (.long (q0_1 + ((1 : Int64) <<< ((q0_2 &&& (63 : Int64)).toInt32 &&& 0x3f).toInt64))), .second] [(.int 1)])) (fun _ k => XS.goto X21.here hx rfl (pc0 := 103) (pc' := 107) rfl (hb hby at_103) (by decide) (by decide) k) ?_
    refine own_retN X21 hx hlk (t := .boolean) hret (by simp) (hb hby at_107) (z' := (1 : Int32)) (by decide) (by decide) (by decide) ?_
    show Q0 Z q0_0 q0_1 q0_2 p0_3 h0 n0 _ T21.heap _
    rw [eh21]
    exact ⟨rfl, N21⟩
   ·skip
    refine own_s (g' := (mkF m 41 #[.val (.long q0_0), .second, .val (.long q0_1), .second, .val (.long q0_2), .second, .val (.int p0_3), .unset, .unset, .unset, .unset, .val (.long ((1 : Int64) <<< ((q0_2 &&& (63 : Int64)).toInt32 &&& 0x3f).toInt64)), .second, .val (.long (q0_1 + ((1 : Int64) <<< ((q0_2 &&& (63 : Int64)).toInt32 &&& 0x3f).toInt64))), .second] [])) (fun _ k => XS.ifYes X0.here hx rfl (pc0 := 28) (pc' := 41) rfl (hb hby at_28) rfl ((if0 _ _).trans (flt (mt (lw_gt (q0_1 + ((1 : Int64) <<< ((q0_2 &&& (63 : Int64)).toInt32 &&& 0x3f).toInt64)) q0_1).mp c19)).2.2.2) (by decide) (by decide) k) ?_
    refine own_s (g' := (mkF m 42 #[.val (.long q0_0), .second, .val (.long q0_1), .second, .val (.long q0_2), .second, .val (.int p0_3), .unset, .unset, .unset, .unset, .val (.long ((1 : Int64) <<< ((q0_2 &&& (63 : Int64)).toInt32 &&& 0x3f).toInt64)), .second, .val (.long (q0_1 + ((1 : Int64) <<< ((q0_2 &&& (63 : Int64)).toInt32 &&& 0x3f).toInt64))), .second] [(.long q0_1)])) (fun _ k => XS.lloadN X0.here hx rfl (hb hby at_41) rfl k) ?_
    refine own_s (g' := (mkF m 44 #[.val (.long q0_0), .second, .val (.long q0_1), .second, .val (.long q0_2), .second, .val (.int p0_3), .unset, .unset, .unset, .unset, .val (.long ((1 : Int64) <<< ((q0_2 &&& (63 : Int64)).toInt32 &&& 0x3f).toInt64)), .second, .val (.long (q0_1 + ((1 : Int64) <<< ((q0_2 &&& (63 : Int64)).toInt32 &&& 0x3f).toInt64))), .second] [(.long ((1 : Int64) <<< ((q0_2 &&& (63 : Int64)).toInt32 &&& 0x3f).toInt64)), (.long q0_1)])) (fun _ k => XS.lload X0.here hx rfl (hb hby at_42) rfl k) ?_
    refine own_s (g' := (mkF m 45 #[.val (.long q0_0), .second, .val (.long q0_1), .second, .val (.long q0_2), .second, .val (.int p0_3), .unset, .unset, .unset, .unset, .val (.long ((1 : Int64) <<< ((q0_2 &&& (63 : Int64)).toInt32 &&& 0x3f).toInt64)), .second, .val (.long (q0_1 + ((1 : Int64) <<< ((q0_2 &&& (63 : Int64)).toInt32 &&& 0x3f).toInt64))), .second] [(.long (q0_1 - ((1 : Int64) <<< ((q0_2 &&& (63 : Int64)).toInt32 &&& 0x3f).toInt64)))])) (fun _ k => XS.lsub X0.here hx rfl (hb hby at_44) rfl k) ?_
    refine own_s (g' := (mkF m 47 #[.val (.long q0_0), .second, .val (.long q0_1), .second, .val (.long q0_2), .second, .val (.int p0_3), .val (.long (q0_1 - ((1 : Int64) <<< ((q0_2 &&& (63 : Int64)).toInt32 &&& 0x3f).toInt64))), .second, .unset, .unset, .val (.long ((1 : Int64) <<< ((q0_2 &&& (63 : Int64)).toInt32 &&& 0x3f).toInt64)), .second, .val (.long (q0_1 + ((1 : Int64) <<< ((q0_2 &&& (63 : Int64)).toInt32 &&& 0x3f).toInt64))), .second] [])) (fun _ k => XS.lstore X0.here hx rfl (hb hby at_45) rfl (l' := #[.val (.long q0_0), .second, .val (.long q0_1), .second, .val (.long q0_2), .second, .val (.int p0_3), .val (.long (q0_1 - ((1 : Int64) <<< ((q0_2 &&& (63 : Int64)).toInt32 &&& 0x3f).toInt64))), .second, .unset, .unset, .val (.long ((1 : Int64) <<< ((q0_2 &&& (63 : Int64)).toInt32 &&& 0x3f).toInt64)), .second, .val (.long (q0_1 + ((1 : Int64) <<< ((q0_2 &&& (63 : Int64)).toInt32 &&& 0x3f).toInt64))), .second]) rfl k) ?_
    refine own_s (g' := (mkF m 48 #[.val (.long q0_0), .second, .val (.long q0_1), .second, .val (.long q0_2), .second, .val (.int p0_3), .val (.long (q0_1 - ((1 : Int64) <<< ((q0_2 &&& (63 : Int64)).toInt32 &&& 0x3f).toInt64))), .second, .unset, .unset, .val (.long ((1 : Int64) <<< ((q0_2 &&& (63 : Int64)).toInt32 &&& 0x3f).toInt64)), .second, .val (.long (q0_1 + ((1 : Int64) <<< ((q0_2 &&& (63 : Int64)).toInt32 &&& 0x3f).toInt64))), .second] [(.long q0_1)])) (fun _ k => XS.lloadN X0.here hx rfl (hb hby at_47) rfl k) ?_
    refine own_s (g' := (mkF m 50 #[.val (.long q0_0), .second, .val (.long q0_1), .second, .val (.long q0_2), .second, .val (.int p0_3), .val (.long (q0_1 - ((1 : Int64) <<< ((q0_2 &&& (63 : Int64)).toInt32 &&& 0x3f).toInt64))), .second, .val (.long q0_1), .second, .val (.long ((1 : Int64) <<< ((q0_2 &&& (63 : Int64)).toInt32 &&& 0x3f).toInt64)), .second, .val (.long (q0_1 + ((1 : Int64) <<< ((q0_2 &&& (63 : Int64)).toInt32 &&& 0x3f).toInt64))), .second] [])) (fun _ k => XS.lstore X0.here hx rfl (hb hby at_48) rfl (l' := #[.val (.long q0_0), .second, .val (.long q0_1), .second, .val (.long q0_2), .second, .val (.int p0_3), .val (.long (q0_1 - ((1 : Int64) <<< ((q0_2 &&& (63 : Int64)).toInt32 &&& 0x3f).toInt64))), .second, .val (.long q0_1), .second, .val (.long ((1 : Int64) <<< ((q0_2 &&& (63 : Int64)).toInt32 &&& 0x3f).toInt64)), .second, .val (.long (q0_1 + ((1 : Int64) <<< ((q0_2 &&& (63 : Int64)).toInt32 &&& 0x3f).toInt64))), .second]) rfl k) ?_
    refine own_s (g' := (mkF m 78 #[.val (.long q0_0), .second, .val (.long q0_1), .second, .val (.long q0_2), .second, .val (.int p0_3), .val (.long (q0_1 - ((1 : Int64) <<< ((q0_2 &&& (63 : Int64)).toInt32 &&& 0x3f).toInt64))), .second, .val (.long q0_1), .second, .val (.long ((1 : Int64) <<< ((q0_2 &&& (63 : Int64)).toInt32 &&& 0x3f).toInt64)), .second, .val (.long (q0_1 + ((1 : Int64) <<< ((q0_2 &&& (63 : Int64)).toInt32 &&& 0x3f).toInt64))), .second] [])) (fun _ k => XS.goto X0.here hx rfl (pc0 := 50) (pc' := 78) rfl (hb hby at_50) (by decide) (by decide) k) ?_
    refine own_s (g' := (mkF m 79 #[.val (.long q0_0), .second, .val (.long q0_1), .second, .val (.long q0_2), .second, .val (.int p0_3), .val (.long (q0_1 - ((1 : Int64) <<< ((q0_2 &&& (63 : Int64)).toInt32 &&& 0x3f).toInt64))), .second, .val (.long q0_1), .second, .val (.long ((1 : Int64) <<< ((q0_2 &&& (63 : Int64)).toInt32 &&& 0x3f).toInt64)), .second, .val (.long (q0_1 + ((1 : Int64) <<< ((q0_2 &&& (63 : Int64)).toInt32 &&& 0x3f).toInt64))), .second] [(.long q0_0)])) (fun _ k => XS.lloadN X0.here hx rfl (hb hby at_78) rfl k) ?_
    refine own_s (g' := (mkF m 81 #[.val (.long q0_0), .second, .val (.long q0_1), .second, .val (.long q0_2), .second, .val (.int p0_3), .val (.long (q0_1 - ((1 : Int64) <<< ((q0_2 &&& (63 : Int64)).toInt32 &&& 0x3f).toInt64))), .second, .val (.long q0_1), .second, .val (.long ((1 : Int64) <<< ((q0_2 &&& (63 : Int64)).toInt32 &&& 0x3f).toInt64)), .second, .val (.long (q0_1 + ((1 : Int64) <<< ((q0_2 &&& (63 : Int64)).toInt32 &&& 0x3f).toInt64))), .second] [(.long (q0_1 - ((1 : Int64) <<< ((q0_2 &&& (63 : Int64)).toInt32 &&& 0x3f).toInt64))), (.long q0_0)])) (fun _ k => XS.lload X0.here hx rfl (hb hby at_79) rfl k) ?_
    refine own_s (g' := (mkF m 83 #[.val (.long q0_0), .second, .val (.long q0_1), .second, .val (.long q0_2), .second, .val (.int p0_3), .val (.long (q0_1 - ((1 : Int64) <<< ((q0_2 &&& (63 : Int64)).toInt32 &&& 0x3f).toInt64))), .second, .val (.long q0_1), .second, .val (.long ((1 : Int64) <<< ((q0_2 &&& (63 : Int64)).toInt32 &&& 0x3f).toInt64)), .second, .val (.long (q0_1 + ((1 : Int64) <<< ((q0_2 &&& (63 : Int64)).toInt32 &&& 0x3f).toInt64))), .second] [(.long q0_1), (.long (q0_1 - ((1 : Int64) <<< ((q0_2 &&& (63 : Int64)).toInt32 &&& 0x3f).toInt64))), (.long q0_0)])) (fun _ k => XS.lload X0.here hx rfl (hb hby at_81) rfl k) ?_
    obtain ⟨_, _, ⟨T22, L22, k22, n22⟩, -, X22, ⟨Lc22, hQ22, l22, y22, z22⟩, st22⟩ := Jvm.LawKit.callS X0 hx (y := (⟨"com/example/forkstream/forkstream/WordGenerator", "longOffset", "(JJJ)J"⟩ : MethodName)) hown (mvT hZ ww7) (mvT hZ ww8) (mvT hZ ww9) (mvT hZ ww10) (by decide) (backOf (W := 0) (rm3 l Z a0 hw [] q0_0 (q0_1 - ((1 : Int64) <<< ((q0_2 &&& (63 : Int64)).toInt32 &&& 0x3f).toInt64)) q0_1 h0 n0 Z0 ) hZ ww10 ww9 (by decide) (by decide)) (g := (mkF m 83 #[.val (.long q0_0), .second, .val (.long q0_1), .second, .val (.long q0_2), .second, .val (.int p0_3), .val (.long (q0_1 - ((1 : Int64) <<< ((q0_2 &&& (63 : Int64)).toInt32 &&& 0x3f).toInt64))), .second, .val (.long q0_1), .second, .val (.long ((1 : Int64) <<< ((q0_2 &&& (63 : Int64)).toInt32 &&& 0x3f).toInt64)), .second, .val (.long (q0_1 + ((1 : Int64) <<< ((q0_2 &&& (63 : Int64)).toInt32 &&& 0x3f).toInt64))), .second] [(.long q0_1), (.long (q0_1 - ((1 : Int64) <<< ((q0_2 &&& (63 : Int64)).toInt32 &&& 0x3f).toInt64))), (.long q0_0)])) rfl (by rw [hml]; rfl) (argsL := [(.long q0_0), (.long (q0_1 - ((1 : Int64) <<< ((q0_2 &&& (63 : Int64)).toInt32 &&& 0x3f).toInt64))), (.long q0_1)]) (rest := []) (lenOf pd__JJJ_J rfl) rfl (by show 2 * 0 + _ ≤ _; exact Nat.le_of_eq rfl) (hb hby at_83) (fun _ _ => ⟨rfl, e0, (by decide : 0 + 0 ≤ _), (by decide : 0 + 0 ≤ _)⟩)
    dsimp only [Pt.U, Pt.locs, Pt.cells, Pt.slots] at X22 l22 y22 z22 st22 hQ22
    subst l22 y22 z22
    obtain ⟨rfl, N22q, eh22⟩ := hQ22
    have N22 := Fr.app N0 N22q
    refine own_s (g' := (mkF m 86 #[.val (.long q0_0), .second, .val (.long q0_1), .second, .val (.long q0_2), .second, .val (.int p0_3), .val (.long (q0_1 - ((1 : Int64) <<< ((q0_2 &&& (63 : Int64)).toInt32 &&& 0x3f).toInt64))), .second, .val (.long q0_1), .second, .val (.long ((1 : Int64) <<< ((q0_2 &&& (63 : Int64)).toInt32 &&& 0x3f).toInt64)), .second, .val (.long (q0_1 + ((1 : Int64) <<< ((q0_2 &&& (63 : Int64)).toInt32 &&& 0x3f).toInt64))), .second] [(.long (r3 q0_0 (q0_1 - ((1 : Int64) <<< ((q0_2 &&& (63 : Int64)).toInt32 &&& 0x3f).toInt64)) q0_1))])) st22 ?_
    refine own_s (g' := (mkF m 88 #[.val (.long q0_0), .second, .val (.long q0_1), .second, .val (.long q0_2), .second, .val (.int p0_3), .val (.long (q0_1 - ((1 : Int64) <<< ((q0_2 &&& (63 : Int64)).toInt32 &&& 0x3f).toInt64))), .second, .val (.long q0_1), .second, .val (.long (r3 q0_0 (q0_1 - ((1 : Int64) <<< ((q0_2 &&& (63 : Int64)).toInt32 &&& 0x3f).toInt64)) q0_1)), .second, .val (.long (q0_1 + ((1 : Int64) <<< ((q0_2 &&& (63 : Int64)).toInt32 &&& 0x3f).toInt64))), .second] [])) (fun _ k => XS.lstore X22.here hx rfl (hb hby at_86) rfl (l' := #[.val (.long q0_0), .second, .val (.long q0_1), .second, .val (.long q0_2), .second, .val (.int p0_3), .val (.long (q0_1 - ((1 : Int64) <<< ((q0_2 &&& (63 : Int64)).toInt32 &&& 0x3f).toInt64))), .second, .val (.long q0_1), .second, .val (.long (r3 q0_0 (q0_1 - ((1 : Int64) <<< ((q0_2 &&& (63 : Int64)).toInt32 &&& 0x3f).toInt64)) q0_1)), .second, .val (.long (q0_1 + ((1 : Int64) <<< ((q0_2 &&& (63 : Int64)).toInt32 &&& 0x3f).toInt64))), .second]) rfl k) ?_
    refine own_s (g' := (mkF m 90 #[.val (.long q0_0), .second, .val (.long q0_1), .second, .val (.long q0_2), .second, .val (.int p0_3), .val (.long (q0_1 - ((1 : Int64) <<< ((q0_2 &&& (63 : Int64)).toInt32 &&& 0x3f).toInt64))), .second, .val (.long q0_1), .second, .val (.long (r3 q0_0 (q0_1 - ((1 : Int64) <<< ((q0_2 &&& (63 : Int64)).toInt32 &&& 0x3f).toInt64)) q0_1)), .second, .val (.long (q0_1 + ((1 : Int64) <<< ((q0_2 &&& (63 : Int64)).toInt32 &&& 0x3f).toInt64))), .second] [(.long (r3 q0_0 (q0_1 - ((1 : Int64) <<< ((q0_2 &&& (63 : Int64)).toInt32 &&& 0x3f).toInt64)) q0_1))])) (fun _ k => XS.lload X22.here hx rfl (hb hby at_88) rfl k) ?_
    refine own_s (g' := (mkF m 91 #[.val (.long q0_0), .second, .val (.long q0_1), .second, .val (.long q0_2), .second, .val (.int p0_3), .val (.long (q0_1 - ((1 : Int64) <<< ((q0_2 &&& (63 : Int64)).toInt32 &&& 0x3f).toInt64))), .second, .val (.long q0_1), .second, .val (.long (r3 q0_0 (q0_1 - ((1 : Int64) <<< ((q0_2 &&& (63 : Int64)).toInt32 &&& 0x3f).toInt64)) q0_1)), .second, .val (.long (q0_1 + ((1 : Int64) <<< ((q0_2 &&& (63 : Int64)).toInt32 &&& 0x3f).toInt64))), .second] [(.long q0_0), (.long (r3 q0_0 (q0_1 - ((1 : Int64) <<< ((q0_2 &&& (63 : Int64)).toInt32 &&& 0x3f).toInt64)) q0_1))])) (fun _ k => XS.lloadN X22.here hx rfl (hb hby at_90) rfl k) ?_
    refine own_s (g' := (mkF m 93 #[.val (.long q0_0), .second, .val (.long q0_1), .second, .val (.long q0_2), .second, .val (.int p0_3), .val (.long (q0_1 - ((1 : Int64) <<< ((q0_2 &&& (63 : Int64)).toInt32 &&& 0x3f).toInt64))), .second, .val (.long q0_1), .second, .val (.long (r3 q0_0 (q0_1 - ((1 : Int64) <<< ((q0_2 &&& (63 : Int64)).toInt32 &&& 0x3f).toInt64)) q0_1)), .second, .val (.long (q0_1 + ((1 : Int64) <<< ((q0_2 &&& (63 : Int64)).toInt32 &&& 0x3f).toInt64))), .second] [(.long (q0_1 - ((1 : Int64) <<< ((q0_2 &&& (63 : Int64)).toInt32 &&& 0x3f).toInt64))), (.long q0_0), (.long (r3 q0_0 (q0_1 - ((1 : Int64) <<< ((q0_2 &&& (63 : Int64)).toInt32 &&& 0x3f).toInt64)) q0_1))])) (fun _ k => XS.lload X22.here hx rfl (hb hby at_91) rfl k) ?_
    refine own_s (g' := (mkF m 95 #[.val (.long q0_0), .second, .val (.long q0_1), .second, .val (.long q0_2), .second, .val (.int p0_3), .val (.long (q0_1 - ((1 : Int64) <<< ((q0_2 &&& (63 : Int64)).toInt32 &&& 0x3f).toInt64))), .second, .val (.long q0_1), .second, .val (.long (r3 q0_0 (q0_1 - ((1 : Int64) <<< ((q0_2 &&& (63 : Int64)).toInt32 &&& 0x3f).toInt64)) q0_1)), .second, .val (.long (q0_1 + ((1 : Int64) <<< ((q0_2 &&& (63 : Int64)).toInt32 &&& 0x3f).toInt64))), .second] [(.long q0_1), (.long (q0_1 - ((1 : Int64) <<< ((q0_2 &&& (63 : Int64)).toInt32 &&& 0x3f).toInt64))), (.long q0_0), (.long (r3 q0_0 (q0_1 - ((1 : Int64) <<< ((q0_2 &&& (63 : Int64)).toInt32 &&& 0x3f).toInt64)) q0_1))])) (fun _ k => XS.lload X22.here hx rfl (hb hby at_93) rfl k) ?_
    obtain ⟨_, _, ⟨T23, L23, k23, n23⟩, -, X23, ⟨Lc23, hQ23, l23, y23, z23⟩, st23⟩ := Jvm.LawKit.callS X22 hx (y := (⟨"com/example/forkstream/forkstream/WordGeneratorLongOffsetPinLaw", "expected", "(JJJ)J"⟩ : MethodName)) hown (mvT hZ ww12) (mvT hZ ww13) (mvT hZ ww14) (mvT hZ ww15) (by decide) (backOf (W := 2) (rm4 l Z a0 hw [] q0_0 (q0_1 - ((1 : Int64) <<< ((q0_2 &&& (63 : Int64)).toInt32 &&& 0x3f).toInt64)) q0_1 h0 n0 Z0 ) hZ ww15 ww14 (by decide) (by decide)) (g := (mkF m 95 #[.val (.long q0_0), .second, .val (.long q0_1), .second, .val (.long q0_2), .second, .val (.int p0_3), .val (.long (q0_1 - ((1 : Int64) <<< ((q0_2 &&& (63 : Int64)).toInt32 &&& 0x3f).toInt64))), .second, .val (.long q0_1), .second, .val (.long (r3 q0_0 (q0_1 - ((1 : Int64) <<< ((q0_2 &&& (63 : Int64)).toInt32 &&& 0x3f).toInt64)) q0_1)), .second, .val (.long (q0_1 + ((1 : Int64) <<< ((q0_2 &&& (63 : Int64)).toInt32 &&& 0x3f).toInt64))), .second] [(.long q0_1), (.long (q0_1 - ((1 : Int64) <<< ((q0_2 &&& (63 : Int64)).toInt32 &&& 0x3f).toInt64))), (.long q0_0), (.long (r3 q0_0 (q0_1 - ((1 : Int64) <<< ((q0_2 &&& (63 : Int64)).toInt32 &&& 0x3f).toInt64)) q0_1))])) rfl (by rw [hml]; rfl) (argsL := [(.long q0_0), (.long (q0_1 - ((1 : Int64) <<< ((q0_2 &&& (63 : Int64)).toInt32 &&& 0x3f).toInt64))), (.long q0_1)]) (rest := [(.long (r3 q0_0 (q0_1 - ((1 : Int64) <<< ((q0_2 &&& (63 : Int64)).toInt32 &&& 0x3f).toInt64)) q0_1))]) (lenOf pd__JJJ_J rfl) rfl (by show 2 * 0 + _ ≤ _; exact Nat.le_of_eq rfl) (hb hby at_95) (fun _ _ => ⟨rfl, eh22, (by decide : 0 + 0 ≤ _), (by decide : 0 + 0 ≤ _)⟩)
    dsimp only [Pt.U, Pt.locs, Pt.cells, Pt.slots] at X23 l23 y23 z23 st23 hQ23
    subst l23 y23 z23
    obtain ⟨rfl, N23q, eh23⟩ := hQ23
    have N23 := Fr.app N22 N23q
    refine own_s (g' := (mkF m 98 #[.val (.long q0_0), .second, .val (.long q0_1), .second, .val (.long q0_2), .second, .val (.int p0_3), .val (.long (q0_1 - ((1 : Int64) <<< ((q0_2 &&& (63 : Int64)).toInt32 &&& 0x3f).toInt64))), .second, .val (.long q0_1), .second, .val (.long (r3 q0_0 (q0_1 - ((1 : Int64) <<< ((q0_2 &&& (63 : Int64)).toInt32 &&& 0x3f).toInt64)) q0_1)), .second, .val (.long (q0_1 + ((1 : Int64) <<< ((q0_2 &&& (63 : Int64)).toInt32 &&& 0x3f).toInt64))), .second] [(.long (r4 q0_0 (q0_1 - ((1 : Int64) <<< ((q0_2 &&& (63 : Int64)).toInt32 &&& 0x3f).toInt64)) q0_1)), (.long (r3 q0_0 (q0_1 - ((1 : Int64) <<< ((q0_2 &&& (63 : Int64)).toInt32 &&& 0x3f).toInt64)) q0_1))])) st23 ?_
    refine own_s (g' := (mkF m 99 #[.val (.long q0_0), .second, .val (.long q0_1), .second, .val (.long q0_2), .second, .val (.int p0_3), .val (.long (q0_1 - ((1 : Int64) <<< ((q0_2 &&& (63 : Int64)).toInt32 &&& 0x3f).toInt64))), .second, .val (.long q0_1), .second, .val (.long (r3 q0_0 (q0_1 - ((1 : Int64) <<< ((q0_2 &&& (63 : Int64)).toInt32 &&& 0x3f).toInt64)) q0_1)), .second, .val (.long (q0_1 + ((1 : Int64) <<< ((q0_2 &&& (63 : Int64)).toInt32 &&& 0x3f).toInt64))), .second] [(.int (lcmpW (r3 q0_0 (q0_1 - ((1 : Int64) <<< ((q0_2 &&& (63 : Int64)).toInt32 &&& 0x3f).toInt64)) q0_1) (r4 q0_0 (q0_1 - ((1 : Int64) <<< ((q0_2 &&& (63 : Int64)).toInt32 &&& 0x3f).toInt64)) q0_1)))])) (fun _ k => XS.lcmp X23.here hx rfl (hb hby at_98) rfl k) ?_
    refine own_s (g' := (mkF m 102 #[.val (.long q0_0), .second, .val (.long q0_1), .second, .val (.long q0_2), .second, .val (.int p0_3), .val (.long (q0_1 - ((1 : Int64) <<< ((q0_2 &&& (63 : Int64)).toInt32 &&& 0x3f).toInt64))), .second, .val (.long q0_1), .second, .val (.long (r3 q0_0 (q0_1 - ((1 : Int64) <<< ((q0_2 &&& (63 : Int64)).toInt32 &&& 0x3f).toInt64)) q0_1)), .second, .val (.long (q0_1 + ((1 : Int64) <<< ((q0_2 &&& (63 : Int64)).toInt32 &&& 0x3f).toInt64))), .second] [])) (fun _ k => XS.ifNo X23.here hx rfl (hb hby at_99) rfl ((if0 _ _).trans (teq ((lw_eq (r3 q0_0 (q0_1 - ((1 : Int64) <<< ((q0_2 &&& (63 : Int64)).toInt32 &&& 0x3f).toInt64)) q0_1) (r4 q0_0 (q0_1 - ((1 : Int64) <<< ((q0_2 &&& (63 : Int64)).toInt32 &&& 0x3f).toInt64)) q0_1)).mpr (own_main _ _ _ (own_sub _ _ (own_pw _) c19)))).2) k) ?_
    refine own_s (g' := (mkF m 103 #[.val (.long q0_0), .second, .val (.long q0_1), .second, .val (.long q0_2), .second, .val (.int p0_3), .val (.long (q0_1 - ((1 : Int64) <<< ((q0_2 &&& (63 : Int64)).toInt32 &&& 0x3f).toInt64))), .second, .val (.long q0_1), .second, .val (.long (r3 q0_0 (q0_1 - ((1 : Int64) <<< ((q0_2 &&& (63 : Int64)).toInt32 &&& 0x3f).toInt64)) q0_1)), .second, .val (.long (q0_1 + ((1 : Int64) <<< ((q0_2 &&& (63 : Int64)).toInt32 &&& 0x3f).toInt64))), .second] [(.int 1)])) (fun _ k => XS.iconst X23.here hx rfl (hb hby at_102) k) ?_
    refine own_s (g' := (mkF m 107 #[.val (.long q0_0), .second, .val (.long q0_1), .second, .val (.long q0_2), .second, .val (.int p0_3), .val (.long (q0_1 - ((1 : Int64) <<< ((q0_2 &&& (63 : Int64)).toInt32 &&& 0x3f).toInt64))), .second, .val (.long q0_1), .second, .val (.long (r3 q0_0 (q0_1 - ((1 : Int64) <<< ((q0_2 &&& (63 : Int64)).toInt32 &&& 0x3f).toInt64)) q0_1)), .second, .val (.long (q0_1 + ((1 : Int64) <<< ((q0_2 &&& (63 : Int64)).toInt32 &&& 0x3f).toInt64))), .second] [(.int 1)])) (fun _ k => XS.goto X23.here hx rfl (pc0 := 103) (pc' := 107) rfl (hb hby at_103) (by decide) (by decide) k) ?_
    refine own_retN X23 hx hlk (t := .boolean) hret (by simp) (hb hby at_107) (z' := (1 : Int32)) (by decide) (by decide) (by decide) ?_
    show Q0 Z q0_0 q0_1 q0_2 p0_3 h0 n0 _ T23.heap _
    rw [eh23]
    exact ⟨rfl, N23⟩
set_option maxRecDepth 65536 in
set_option maxHeartbeats 40000000 in
theorem comes_1 {Post : Tables → Env → Array Value → State → Outcome → State → Prop} (hpost : ∀ tb e args s v u, (limb_1_1.after args s (.returned v) u = true ∧ limb_1_2.after args s (.returned v) u = true ∧ True) → FrameEnd s (.returned v) u (Jvm.fieldLocs frame_1_writes args s ++ Jvm.arrayLocs frame_1_arrays args s ++ Jvm.staticLocs frame_1_statics s) 0 0 → Post tb e args s (.returned v) u) :
    ArmFor flags0 classFile x code maxLocals ret World_1 tables_1 room_1 Calls_1 rest_1 Pre_1 Post := by
  intro l hfl _ _ p e ha hc hk s m args below hf hA hF happ hP
  obtain ⟨hcalls, hrest, hpre⟩ := hP
  obtain ⟨-, -, -, hnamed, -, -, -, hat⟩ := (Spec.applies_iff hf).mp happ
  obtain ⟨hg, hn⟩ := and_e (Cond.before_iff.mp (show (Jvm.Cond.and given_1 narrow_1).before args s = true from hpre))
  obtain ⟨gc, hg⟩ := and_e hg
  obtain ⟨gi0, hg⟩ := and_e hg
  obtain ⟨gi1, hg⟩ := and_e hg
  obtain ⟨gi2, hg⟩ := and_e hg
  obtain ⟨w0, w1, w2, w3, rfl⟩ : ∃ w0 w1 w2 w3 : Value, args = #[w0, w1, w2, w3] := by
    have hs : args.size = 4 := by simpa [Cond.value, given_1] using gc
    obtain ⟨L⟩ := args
    match L, hs with
    | [w0, w1, w2, w3], _ => exact ⟨w0, w1, w2, w3, rfl⟩
  have hw := fun d (hd : d ∈ tables_1) => atoms_spec (ws := Jvm.Cond.code x code maxLocals ret :: tables_1) hat d (List.mem_cons_of_mem _ hd)
  obtain ⟨i0, ei0⟩ := isL_v gi0
  obtain rfl : w0 = (.long i0) := Option.some.inj ei0
  obtain ⟨i1, ei1⟩ := isL_v gi1
  obtain rfl : w1 = (.long i1) := Option.some.inj ei1
  obtain ⟨i2, ei2⟩ := isL_v gi2
  obtain rfl : w2 = (.long i2) := Option.some.inj ei2
  obtain ⟨i3, ei3⟩ := is_v hg
  obtain rfl : w3 = (.int i3) := Option.some.inj ei3
  obtain ⟨n, o, h1, h2, h3, _, L, rfl, ⟨rfl, N⟩, hq⟩ := rm0 l s _ hw tables_1 i0 i1 i2 i3 s.heap s.heap.size (Nat.le_refl _)  p e ha hc hk s m _ below hf ((Spec.applies_iff_loose hf).mp happ).1 ⟨rfl, State.Warmed39.refl s, rfl⟩ trivial
  refine ⟨n, _, h1, h2, h3, hpost _ _ _ _ _ _ ⟨Cond.after_iff.mpr rfl, Cond.after_iff.mpr (eq_i res_at (Term.int_eval (1)) rfl), trivial⟩ ⟨hq.1, hq.2.1, (hq.2.2.sift fun y hy => Or.inr (N y hy)).mono (by decide) (by decide)⟩⟩
theorem main_1_1 : Claimed_1_1 := comes_1 fun _ _ _ _ _ _ h hF => ⟨h.1, hF⟩
theorem main_1_2 : Claimed_1_2 := comes_1 fun _ _ _ _ _ _ h hF => ⟨h.2.1, hF⟩
end Jvm.Pilot.@@N@@
namespace Jvm.Pilot.@@N@@
open Jvm Jvm.ClassFile Sem Op Lib Jvm.Free Jvm.Stand Jvm.Pilot.@@N@@.Jvm.D
/-! MADE BY PROGRAM (witnessworld.py) out of the Statement's table words and the real class files: 11 classes; the members and pool entries that the words name. The judged class is class 1, her method 1. -/
namespace start1
open Jvm.ClassFile
def u (s : String) : CpInfo := .utf8 (stringToUtf16 s)
/-- a pool by its gaps: so many unusable entries, then the entry; so many at the end -/
def gap : Nat → List CpInfo → List CpInfo
  | 0, r => r
  | n + 1, r => .unusable :: gap n r
def poolList (es : List (Nat × CpInfo)) (last : Nat) : List CpInfo := es.foldr (fun e r => gap e.1 (e.2 :: r)) (gap last [])
def pool (es : List (Nat × CpInfo)) (last : Nat) : Array CpInfo := ⟨poolList es last⟩
def fileOf (pool : Array CpInfo) (this : Nat) (attrs : Array Attribute := #[]) (ms : Array MethodInfo := #[]) (fl : Nat := 33) (sup : Nat := 0) (ifs : Array Nat := #[]) (fds : Array FieldInfo := #[]) : ClassFile where
  minorVersion := 0
  majorVersion := 65
  constantPool := pool
  accessFlags := fl
  thisClass := this
  superClass := sup
  interfaces := ifs
  fields := fds
  methods := ms
  attributes := attrs
def plain (name : String) (sup : Option ClassId) : Class where
  name := name
  kind := .ordinary
  loader := none
  accessFlags := 33
  super := sup
  interfaces := #[]
  cf := none
  fields := #[]
  methods := #[]
  instanceTypes := #[]
  staticTypes := #[]
  resolved := #[]
  callSites := []
  init := .initialized
  statics := none
  mirror := none

def pool0 : Array CpInfo := pool [(5, u "<init>"), (0, u "()V"), (1, .class_ 10), (1, u "java/lang/Object")] 113

def k0m0 : Method := { name := "<init>", desc := "()V", sig := { parameters := [], returnType := none }, accessFlags := 1, code := none }
/-- java/lang/Object -/
def k0 : Class := { plain "java/lang/Object" none with
  accessFlags := 33
  interfaces := #[]
  cf := some (fileOf pool0 8 #[] #[{ accessFlags := 1, nameIndex := 5, descriptorIndex := 6, attributes := #[] }] 33 0 #[] #[])
  fields := #[]
  methods := #[k0m0]
  instanceTypes := #[]
  staticTypes := #[]
  resolved := Array.replicate 124 none
  statics := none }

def pool1 : Array CpInfo := pool [(2, .class_ 4), (1, u "java/lang/Object"), (0, u "<init>"), (0, u "()V"), (0, .long 63), (1, .methodref 10 11), (0, .class_ 12), (0, .nameAndType 13 14), (0, u "java/lang/Math"), (0, u "min"), (0, u "(JJ)J"), (0, .methodref 10 16), (0, .nameAndType 17 14), (0, u "max"), (0, .methodref 19 20), (0, .class_ 21), (0, .nameAndType 22 23), (0, u "com/example/forkstream/forkstream/WordGenerator"), (0, u "longOffset"), (0, u "(JJJ)J"), (0, .methodref 25 26), (0, .class_ 27), (0, .nameAndType 28 23), (0, u "com/example/forkstream/forkstream/WordGeneratorLongOffsetPinLaw"), (0, u "expected"), (2, .long 9223372036854775807), (1, .long 9223372036854775808), (1, .long 18446744073709551615), (3, u "law"), (0, u "(JJJI)Z")] 3

def k1m0 : Method := { name := "<init>", desc := "()V", sig := { parameters := [], returnType := none }, accessFlags := 2, code := none }
def k1c1 : Code := { maxStack := 8, maxLocals := 15, code := code, exceptionTable := #[], attributes := #[] }
def k1m1 : Method := { name := "law", desc := "(JJJI)Z", sig := { parameters := [.long, .long, .long, .int], returnType := some .boolean }, accessFlags := 9, code := some k1c1 }
def k1c2 : Code := { maxStack := 6, maxLocals := 12, code := method_3_code, exceptionTable := #[], attributes := #[] }
def k1m2 : Method := { name := "expected", desc := "(JJJ)J", sig := { parameters := [.long, .long, .long], returnType := some .long }, accessFlags := 10, code := some k1c2 }
/-- com/example/forkstream/forkstream/WordGeneratorLongOffsetPinLaw -/
def k1 : Class := { plain "com/example/forkstream/forkstream/WordGeneratorLongOffsetPinLaw" (some 0) with
  accessFlags := 49
  interfaces := #[]
  cf := some (fileOf pool1 25 #[] #[{ accessFlags := 2, nameIndex := 5, descriptorIndex := 6, attributes := #[] }, { accessFlags := 9, nameIndex := 39, descriptorIndex := 40, attributes := #[] }, { accessFlags := 10, nameIndex := 28, descriptorIndex := 23, attributes := #[] }] 49 2 #[] #[])
  fields := #[]
  methods := #[k1m0, k1m1, k1m2]
  instanceTypes := #[]
  staticTypes := #[]
  resolved := Array.replicate 44 none
  statics := none }

def pool2 : Array CpInfo := pool [(1, .class_ 2), (0, u "java/lang/Math"), (1, .class_ 6), (1, u "java/lang/Object"), (0, u "<init>"), (0, u "()V"), (89, .class_ 100), (1, u "java/lang/Math$RandomNumberGeneratorHolder"), (20, u "(JJ)J"), (50, u "negativeZeroFloatBits"), (0, u "J"), (2, u "negativeZeroDoubleBits"), (21, u "max"), (2, u "min"), (43, u "$assertionsDisabled"), (0, u "Z"), (91, u "twoToTheDoubleScaleDown"), (0, u "D"), (4, u "twoToTheDoubleScaleUp"), (9, u "E"), (3, u "PI"), (2, u "TAU"), (2, u "DEGREES_TO_RADIANS"), (0, u "RADIANS_TO_DEGREES")] 94

def k2m0 : Method := { name := "<init>", desc := "()V", sig := { parameters := [], returnType := none }, accessFlags := 2, code := none }
def k2c1 : Code := { maxStack := 4, maxLocals := 4, code := jdk_29_method_66_code, exceptionTable := #[], attributes := #[] }
def k2m1 : Method := { name := "max", desc := "(JJ)J", sig := { parameters := [.long, .long], returnType := some .long }, accessFlags := 9, code := some k2c1 }
def k2c2 : Code := { maxStack := 4, maxLocals := 4, code := jdk_29_method_70_code, exceptionTable := #[], attributes := #[] }
def k2m2 : Method := { name := "min", desc := "(JJ)J", sig := { parameters := [.long, .long], returnType := some .long }, accessFlags := 9, code := some k2c2 }
/-- java/lang/Math -/
def k2 : Class := { plain "java/lang/Math" (some 0) with
  accessFlags := 49
  interfaces := #[]
  cf := some (fileOf pool2 1 #[.nestMembers #[98]] #[{ accessFlags := 2, nameIndex := 7, descriptorIndex := 8, attributes := #[] }, { accessFlags := 9, nameIndex := 198, descriptorIndex := 121, attributes := #[] }, { accessFlags := 9, nameIndex := 201, descriptorIndex := 121, attributes := #[] }] 49 4 #[] #[{ accessFlags := 25, nameIndex := 354, descriptorIndex := 339, attributes := #[] }, { accessFlags := 25, nameIndex := 358, descriptorIndex := 339, attributes := #[] }, { accessFlags := 25, nameIndex := 361, descriptorIndex := 339, attributes := #[] }, { accessFlags := 26, nameIndex := 364, descriptorIndex := 339, attributes := #[] }, { accessFlags := 26, nameIndex := 365, descriptorIndex := 339, attributes := #[] }, { accessFlags := 26, nameIndex := 172, descriptorIndex := 173, attributes := #[] }, { accessFlags := 26, nameIndex := 176, descriptorIndex := 173, attributes := #[] }, { accessFlags := 8, nameIndex := 344, descriptorIndex := 339, attributes := #[] }, { accessFlags := 8, nameIndex := 338, descriptorIndex := 339, attributes := #[] }, { accessFlags := 4120, nameIndex := 245, descriptorIndex := 246, attributes := #[] }])
  fields := #[{ name := "E", type := .double, accessFlags := 25, slot := 0, constantValue := 0 }, { name := "PI", type := .double, accessFlags := 25, slot := 1, constantValue := 0 }, { name := "TAU", type := .double, accessFlags := 25, slot := 2, constantValue := 0 }, { name := "DEGREES_TO_RADIANS", type := .double, accessFlags := 26, slot := 3, constantValue := 0 }, { name := "RADIANS_TO_DEGREES", type := .double, accessFlags := 26, slot := 4, constantValue := 0 }, { name := "negativeZeroFloatBits", type := .long, accessFlags := 26, slot := 5, constantValue := 0 }, { name := "negativeZeroDoubleBits", type := .long, accessFlags := 26, slot := 6, constantValue := 0 }, { name := "twoToTheDoubleScaleUp", type := .double, accessFlags := 8, slot := 7, constantValue := 0 }, { name := "twoToTheDoubleScaleDown", type := .double, accessFlags := 8, slot := 8, constantValue := 0 }, { name := "$assertionsDisabled", type := .boolean, accessFlags := 4120, slot := 9, constantValue := 0 }]
  methods := #[k2m0, k2m1, k2m2]
  instanceTypes := #[]
  staticTypes := #[.double, .double, .double, .double, .double, .long, .long, .double, .double, .boolean]
  resolved := Array.replicate 460 none
  statics := none }

def pool3 : Array CpInfo := pool [(7, .class_ 8), (0, u "java/util/random/RandomGenerator"), (199, .class_ 209), (0, u "java/lang/Object"), (52, .class_ 263), (0, u "java/util/random/RandomGenerator$ArbitrarilyJumpableGenerator"), (0, .class_ 265), (0, u "java/util/random/RandomGenerator$LeapableGenerator"), (0, .class_ 267), (0, u "java/util/random/RandomGenerator$JumpableGenerator"), (0, .class_ 269), (0, u "java/util/random/RandomGenerator$SplittableGenerator"), (0, .class_ 271), (0, u "java/util/random/RandomGenerator$StreamableGenerator")] 36

/-- java/util/random/RandomGenerator -/
def k3 : Class := { plain "java/util/random/RandomGenerator" (some 0) with
  accessFlags := 1537
  interfaces := #[]
  cf := some (fileOf pool3 7 #[.nestMembers #[262, 264, 266, 268, 270]] #[] 1537 208 #[] #[])
  fields := #[]
  methods := #[]
  instanceTypes := #[]
  staticTypes := #[]
  resolved := Array.replicate 308 none
  statics := none }

def pool4 : Array CpInfo := pool [(1, .class_ 2), (0, u "java/io/Serializable"), (0, .class_ 4), (0, u "java/lang/Object")] 2

/-- java/io/Serializable -/
def k4 : Class := { plain "java/io/Serializable" (some 0) with
  accessFlags := 1537
  interfaces := #[]
  cf := some (fileOf pool4 1 #[] #[] 1537 3 #[] #[])
  fields := #[]
  methods := #[]
  instanceTypes := #[]
  staticTypes := #[]
  resolved := Array.replicate 7 none
  statics := none }

def pool5 : Array CpInfo := pool [(4, .class_ 6), (1, u "java/lang/Object"), (0, u "<init>"), (0, u "()V"), (1, .class_ 12), (1, u "com/example/forkstream/forkstream/WordGenerator"), (22, .long 18446744073709551615), (13, u "longOffset"), (0, u "(JJJ)J"), (0, .long 9223372036854775807), (170, .class_ 223), (0, u "com/example/forkstream/forkstream/WordGenerator$SerialForm"), (25, .class_ 250), (0, u "java/util/random/RandomGenerator"), (0, .class_ 252), (0, u "java/io/Serializable"), (0, u "serialVersionUID"), (0, u "J"), (3, u "ENDLESS"), (0, u "REJECTED"), (0, u "FIELDS_REFUSED"), (0, u "Ljava/lang/String;")] 87

def k5m0 : Method := { name := "<init>", desc := "()V", sig := { parameters := [], returnType := none }, accessFlags := 0, code := none }
def k5c1 : Code := { maxStack := 6, maxLocals := 12, code := prog_61_method_10_code, exceptionTable := #[], attributes := #[] }
def k5m1 : Method := { name := "longOffset", desc := "(JJJ)J", sig := { parameters := [.long, .long, .long], returnType := some .long }, accessFlags := 8, code := some k5c1 }
/-- com/example/forkstream/forkstream/WordGenerator -/
def k5 : Class := { plain "com/example/forkstream/forkstream/WordGenerator" (some 0) with
  accessFlags := 1057
  interfaces := #[3, 4]
  cf := some (fileOf pool5 10 #[.nestMembers #[222]] #[{ accessFlags := 0, nameIndex := 7, descriptorIndex := 8, attributes := #[] }, { accessFlags := 8, nameIndex := 49, descriptorIndex := 50, attributes := #[] }] 1057 4 #[249, 251] #[{ accessFlags := 26, nameIndex := 253, descriptorIndex := 254, attributes := #[] }, { accessFlags := 24, nameIndex := 258, descriptorIndex := 254, attributes := #[] }, { accessFlags := 24, nameIndex := 259, descriptorIndex := 254, attributes := #[] }, { accessFlags := 26, nameIndex := 260, descriptorIndex := 261, attributes := #[] }])
  fields := #[{ name := "serialVersionUID", type := .long, accessFlags := 26, slot := 0, constantValue := 0 }, { name := "ENDLESS", type := .long, accessFlags := 24, slot := 1, constantValue := 0 }, { name := "REJECTED", type := .long, accessFlags := 24, slot := 2, constantValue := 0 }, { name := "FIELDS_REFUSED", type := (.object "java/lang/String"), accessFlags := 26, slot := 3, constantValue := 0 }]
  methods := #[k5m0, k5m1]
  instanceTypes := #[]
  staticTypes := #[.long, .long, .long, (.object "java/lang/String")]
  resolved := Array.replicate 349 none
  statics := none }

def pool6 : Array CpInfo := pool [(1, u "java/lang/Cloneable"), (0, .class_ 1), (0, u "java/lang/Object"), (0, .class_ 3)] 3

/-- java/lang/Cloneable -/
def k6 : Class := { plain "java/lang/Cloneable" (some 0) with
  accessFlags := 1537
  interfaces := #[]
  cf := some (fileOf pool6 2 #[] #[] 1537 4 #[] #[])
  fields := #[]
  methods := #[]
  instanceTypes := #[]
  staticTypes := #[]
  resolved := Array.replicate 8 none
  statics := none }

/-- the primitive byte -/
def k7 : Class := { plain "byte" none with kind := .primitive 'B', accessFlags := 0x411 }
/-- [B -/
def k8 : Class := { plain "[B" (some 0) with kind := .array 7 .byte, interfaces := #[6, 4], accessFlags := 1041 }

/-- the primitive int -/
def k9 : Class := { plain "int" none with kind := .primitive 'I', accessFlags := 0x411 }
/-- [I -/
def k10 : Class := { plain "[I" (some 0) with kind := .array 9 .int, interfaces := #[6, 4], accessFlags := 1041 }

def heap : Heap := #[]
def classes : Array Class := #[k0, k1, k2, k3, k4, k5, k6, k7, k8, k9, k10]
def interned : List (Array UInt16 × Addr) := []
def slotsUsed : Nat := 0
def theMethod : MethodId := ⟨1, 1⟩
def args0 : Array Value := #[.long 7, .long 7, .long 7, .int 5]
def aboutOver (below : List Frame) : State where
  vm := { classes := classes, interned := interned.toArray }
  heap := heap
  slotsUsed := slotsUsed
  threads := #[{ frames := .invoking theMethod args0 :: below }]
def below0 : List Frame := [.native { method := ⟨0, 0⟩, args := #[] }]
def about1 : State := aboutOver below0
def p0 : Program := .bare "" "" ""
def e0 : Env := launch0.env 0 0 0
theorem w_frames : about1.frames = Frame.invoking theMethod args0 :: below0 := rfl
set_option maxRecDepth 65536 in
theorem w_args : argsFit about1.vm theMethod args0 = true := by decide +kernel
set_option maxRecDepth 65536 in
theorem w_heap : heapFits about1 = true := by decide +kernel
set_option maxRecDepth 65536 in
theorem w_runnable : about1.curStatus? = some .runnable := by decide +kernel
set_option maxRecDepth 65536 in
theorem w_alone : about1.alone = true := by decide +kernel
set_option maxRecDepth 65536 in
theorem w_named : about1.methodNamed? x = some theMethod := by decide +kernel
set_option maxRecDepth 65536 in
theorem w_hears : about1.hears theMethod below0 = true := by decide +kernel
set_option maxRecDepth 65536 in
theorem w_ripe : about1.ripe theMethod args0 below0 = true := by decide +kernel
theorem w_running : about1.status = .running := rfl
set_option maxRecDepth 65536 in
theorem w_room : about1.hasRoom e0.platform room_1 = true :=
  launch0.hasRoom_least _ room_1 (by decide +kernel) (by decide +kernel) (by decide +kernel) (by decide +kernel) (by decide +kernel) (by decide +kernel)
theorem allAtoms_all (ts : List Jvm.Cond) (a : Array Jvm.Value) (st : Jvm.State) : (allAtoms ts).before a st = ts.all (fun c => c.before a st) := by
  induction ts with
  | nil => rfl
  | cons c t ih =>
    show (Jvm.Cond.and c (allAtoms t)).before a st = _
    rw [Jvm.Cond.before_and, ih, List.all_cons]
def words1 : List Jvm.Cond := Jvm.Cond.code x code maxLocals ret :: tables_1
/-- a 'code' word, met by the world's own term for the bytes: nothing is compared byte by byte -/
theorem code_word {y : MethodName} {bytes : ByteArray} {mx : Nat} {rt : Option FieldType} {a : Array Value} {s : State} {m : MethodId} {meth : Method} {c : Code} (h1 : s.methodNamed? y = some m) (h2 : s.vm.method? m = some meth) (h3 : meth.code = some c) (h4 : c.code = bytes)
    (h5 : (c.maxLocals == mx && c.exceptionTable.isEmpty && decide (c.maxStack ≤ mostOperands) && decide (meth.sig.returnType = rt) && !meth.locks && decide (parseMethodDescriptor y.desc = some meth.sig)) = true) : (Jvm.Cond.code y bytes mx rt).before a s = true := by
  simp only [Bool.and_eq_true, beq_iff_eq, Bool.not_eq_true', decide_eq_true_eq] at h5
  obtain ⟨⟨⟨⟨⟨g1, g2⟩, g3⟩, g4⟩, g5⟩, g6⟩ := h5
  simp [Cond.before, Cond.holds, Cond.value, h1, h2, h3, h4, g1, g2, g3, g4, g5, g6]
def isCode : Jvm.Cond → Bool
  | .code _ _ _ _ => true
  | _ => false
theorem all_split {L : List Jvm.Cond} {P : Jvm.Cond → Bool} (h1 : L.all (fun c => isCode c || P c) = true) (h2 : ∀ c ∈ L.filter isCode, P c = true) : L.all P = true := by
  refine List.all_eq_true.mpr fun c hc => ?_
  have h := List.all_eq_true.mp h1 c hc
  rcases Bool.eq_false_or_eq_true (isCode c) with hi | hi
  · exact h2 c (List.mem_filter.mpr ⟨hc, hi⟩)
  · simpa [hi] using h
set_option maxRecDepth 65536 in
theorem w_c0 : (Jvm.Cond.code x code maxLocals ret).before args0 about1 = true := code_word (m := ⟨1, 1⟩) (meth := k1m1) (c := k1c1) (by decide +kernel) rfl rfl rfl (by decide +kernel)
set_option maxRecDepth 65536 in
theorem w_c1 : (Jvm.Cond.code ({ cls := "java/lang/Math", name := "min", desc := "(JJ)J" } : Jvm.MethodName) jdk_29_method_70_code (4 : Nat) (Option.some Jvm.ClassFile.FieldType.long)).before args0 about1 = true := code_word (m := ⟨2, 2⟩) (meth := k2m2) (c := k2c2) (by decide +kernel) rfl rfl rfl (by decide +kernel)
set_option maxRecDepth 65536 in
theorem w_c2 : (Jvm.Cond.code ({ cls := "java/lang/Math", name := "max", desc := "(JJ)J" } : Jvm.MethodName) jdk_29_method_66_code (4 : Nat) (Option.some Jvm.ClassFile.FieldType.long)).before args0 about1 = true := code_word (m := ⟨2, 1⟩) (meth := k2m1) (c := k2c1) (by decide +kernel) rfl rfl rfl (by decide +kernel)
set_option maxRecDepth 65536 in
theorem w_c3 : (Jvm.Cond.code ({ cls := "com/example/forkstream/forkstream/WordGenerator", name := "longOffset", desc := "(JJJ)J" } : Jvm.MethodName) prog_61_method_10_code (12 : Nat) (Option.some Jvm.ClassFile.FieldType.long)).before args0 about1 = true := code_word (m := ⟨5, 1⟩) (meth := k5m1) (c := k5c1) (by decide +kernel) rfl rfl rfl (by decide +kernel)
set_option maxRecDepth 65536 in
theorem w_c4 : (Jvm.Cond.code ({ cls := "com/example/forkstream/forkstream/WordGeneratorLongOffsetPinLaw", name := "expected", desc := "(JJJ)J" } : Jvm.MethodName) method_3_code (12 : Nat) (Option.some Jvm.ClassFile.FieldType.long)).before args0 about1 = true := code_word (m := ⟨1, 2⟩) (meth := k1m2) (c := k1c2) (by decide +kernel) rfl rfl rfl (by decide +kernel)
def codes1 : List Jvm.Cond := [Jvm.Cond.code x code maxLocals ret, Jvm.Cond.code ({ cls := "java/lang/Math", name := "min", desc := "(JJ)J" } : Jvm.MethodName) jdk_29_method_70_code (4 : Nat) (Option.some Jvm.ClassFile.FieldType.long), Jvm.Cond.code ({ cls := "java/lang/Math", name := "max", desc := "(JJ)J" } : Jvm.MethodName) jdk_29_method_66_code (4 : Nat) (Option.some Jvm.ClassFile.FieldType.long), Jvm.Cond.code ({ cls := "com/example/forkstream/forkstream/WordGenerator", name := "longOffset", desc := "(JJJ)J" } : Jvm.MethodName) prog_61_method_10_code (12 : Nat) (Option.some Jvm.ClassFile.FieldType.long), Jvm.Cond.code ({ cls := "com/example/forkstream/forkstream/WordGeneratorLongOffsetPinLaw", name := "expected", desc := "(JJJ)J" } : Jvm.MethodName) method_3_code (12 : Nat) (Option.some Jvm.ClassFile.FieldType.long)]
set_option maxRecDepth 65536 in
theorem codes_eq : words1.filter isCode = codes1 := rfl
theorem w_codes : ∀ c ∈ words1.filter isCode, c.before args0 about1 = true := by
  rw [codes_eq]
  intro c hc
  simp only [codes1, List.mem_cons, List.not_mem_nil, or_false] at hc
  rcases hc with rfl | rfl | rfl | rfl | rfl
  · exact w_c0
  · exact w_c1
  · exact w_c2
  · exact w_c3
  · exact w_c4
set_option maxRecDepth 65536 in
theorem w_t1 : words1.all (fun c => isCode c || c.before args0 about1) = true := by decide +kernel
theorem w_tables : (allAtoms (Jvm.Cond.code x code maxLocals ret :: tables_1)).before args0 about1 = true := by
  rw [allAtoms_all]
  show words1.all (fun c => c.before args0 about1) = true
  refine all_split ?_ w_codes
  rw [w_t1]
set_option maxRecDepth 65536 in
theorem w_case : (Jvm.Cond.and given_1 narrow_1).before args0 about1 = true := by decide +kernel
theorem w_applies : (headSpec (Jvm.Cond.code x code maxLocals ret :: tables_1) room_1).applies x e0.platform about1 = true :=
  (Spec.applies_iff w_frames).mpr ⟨w_running, w_runnable, w_alone, w_named, w_hears, w_ripe, w_room, w_tables⟩
theorem atStart : AtStart classFile x code maxLocals ret World_1 tables_1 room_1 Calls_1 rest_1 Pre_1 launch0 p0 e0 about1 theMethod args0 below0 :=
  ⟨lists_1, trivial, launch0.admits_env _ _ _, launch0.least_env, fairChoices_fair.cas, fairChoices_fair.clock, w_frames, w_args, w_heap, w_applies, trivial, trivial, w_case⟩
end start1
theorem witness_1 : WitnessClaimed_1 := ⟨start1.p0, start1.e0, start1.about1, start1.theMethod, start1.args0, start1.below0, start1.atStart⟩
end Jvm.Pilot.@@N@@
