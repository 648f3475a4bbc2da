import JvmDerived
import JvmDerived.Pilot.@@N@@Statement
import JvmDerived.Pilot.@@N@@Code
set_option linter.unusedVariables false
set_option linter.unusedSimpArgs false
namespace Jvm.Pilot.@@N@@
open Jvm Jvm.ClassFile Sem Op Lib Jvm.Free Jvm.Stand Jvm.LawKit Jvm.RoadKit Bundle Jvm.Pilot.@@N@@.Jvm.D
/-- what is left of a walk: from the frame g on, the run ends as K says -/
def own_G (p : Program) (e : Env) (below : List Frame) (s : State) (K : Option Value → Heap → List Loc → Prop) (nc ns : Nat) (T : State) (g : JFrame) : Prop :=
  ∃ s₂ o, Steps p.tables e below (T.setTop g) s₂ ∧ s₂.status = .running ∧ Ended s₂ below o ∧ ∃ v L, o = .returned v ∧ K v s₂.heap L ∧ FrameEnd s o s₂ L nc ns
section Own
variable {p : Program} {l : Launch} {e : Env} {R : Room} {s : State} {m : MethodId} {args : Array Value} {below : List Frame} {meth : Method} {c : Code} {T T' : State} {locs : List Loc} {cells slots : Nat} {K : Option Value → Heap → List Loc → Prop} {nc ns : Nat} {g g' : JFrame}
theorem own_s (h : ∀ t, Steps p.tables e below (T'.setTop g') t → Steps p.tables e below (T.setTop g) t) (k : own_G p e below s K nc ns T' g') : own_G p e below s K nc ns T g := by
  obtain ⟨s₂, o, h1, r⟩ := k
  exact ⟨s₂, o, h _ h1, r⟩
theorem own_trans (h : Steps p.tables e below (T.setTop g) (T'.setTop g')) (k : own_G p e below s K nc ns T' g') : own_G p e below s K nc ns T g := by
  obtain ⟨s₂, o, h1, r⟩ := k
  exact ⟨s₂, o, h.trans h1, r⟩
theorem own_cast (q : g = g') (k : own_G p e below s K nc ns T g') : own_G p e below s K nc ns T g := q ▸ k
theorem own_leave (X : Stand p l e R s m args below meth c T locs cells slots) {v : Option Value} (hlk : meth.locks = false) (hv : meth.sig.returnType = none → v = none) (hc : cells ≤ nc) (hn : slots ≤ ns) (hq : K v T.heap locs)
    (st : ∀ fs, (∀ (f : JFrame) (acts : List Action), f.method = m → f.locked = none → f.entered = [] → (doReturn e (T.setTop f) acts v).1 = T.setFrames fs) → Steps p.tables e below (T.setTop g) (T.setFrames fs)) : own_G p e below s K nc ns T g := by
  obtain ⟨fs, hr, hrun, hended, hW, hsame⟩ := X.leave (v := v) hv hlk
  exact ⟨_, _, st fs hr, hrun, hended, _, _, rfl, hq, ⟨_, rfl⟩, hW, hsame.mono hc hn⟩
theorem own_retN (X : Stand p l e R s m args below meth c T locs cells slots) (hx : p.tables.exec = Jvm.exec) (hlk : meth.locks = false) {pc : Nat} {Ls : Array Slot} {z z' : Int32} {t : FieldType} {rest : List Value} (hret : meth.sig.returnType = some t) (ht : t = .boolean ∨ t = .byte ∨ t = .char ∨ t = .short)
    (hd : decode c.code pc = .ok (.ireturn, 1)) (hz : nar t z = z') (hc : cells ≤ nc) (hn : slots ≤ ns) (hq : K (some (.int z')) T.heap locs) : own_G p e below s K nc ns T (mkF m pc Ls (.int z :: rest)) := by
  subst hz
  exact own_leave X hlk (fun h => by rw [hret] at h; cases h) hc hn hq fun fs hr => retN X hx hret ht hd hr
theorem own_retI (X : Stand p l e R s m args below meth c T locs cells slots) (hx : p.tables.exec = Jvm.exec) (hlk : meth.locks = false) {pc : Nat} {Ls : Array Slot} {z : Int32} {rest : List Value} (hret : meth.sig.returnType = some .int)
    (hd : decode c.code pc = .ok (.ireturn, 1)) (hc : cells ≤ nc) (hn : slots ≤ ns) (hq : K (some (.int z)) T.heap locs) : own_G p e below s K nc ns T (mkF m pc Ls (.int z :: rest)) :=
  own_leave X hlk (fun h => by rw [hret] at h; cases h) hc hn hq fun fs hr => retOut X hx hret rfl (Or.inl ⟨rfl, Or.inl rfl, _, rfl⟩) hd hr
theorem own_retJ (X : Stand p l e R s m args below meth c T locs cells slots) (hx : p.tables.exec = Jvm.exec) (hlk : meth.locks = false) {pc : Nat} {Ls : Array Slot} {z : Int64} {rest : List Value} (hret : meth.sig.returnType = some .long)
    (hd : decode c.code pc = .ok (.lreturn, 1)) (hc : cells ≤ nc) (hn : slots ≤ ns) (hq : K (some (.long z)) T.heap locs) : own_G p e below s K nc ns T (mkF m pc Ls (.long z :: rest)) :=
  own_leave X hlk (fun h => by rw [hret] at h; cases h) hc hn hq fun fs hr => retOut X hx hret rfl (Or.inr (Or.inl ⟨rfl, rfl, _, rfl⟩)) hd hr
theorem own_retR (X : Stand p l e R s m args below meth c T locs cells slots) (hx : p.tables.exec = Jvm.exec) (hlk : meth.locks = false) {pc : Nat} {Ls : Array Slot} {v : Value} {t : FieldType} {rest : List Value} (hret : meth.sig.returnType = some t) (ht : t.isReference = true) (hv : v.isRef = true) (hnv : narrow t v = v)
    (hd : decode c.code pc = .ok (.areturn, 1)) (hc : cells ≤ nc) (hn : slots ≤ ns) (hq : K (some v) T.heap locs) : own_G p e below s K nc ns T (mkF m pc Ls (v :: rest)) :=
  own_leave X hlk (fun h => by rw [hret] at h; cases h) hc hn hq fun fs hr => retOut X hx hret hnv (Or.inr (Or.inr (Or.inr (Or.inr ⟨rfl, ht, hv⟩)))) hd hr
theorem own_retV (X : Stand p l e R s m args below meth c T locs cells slots) (hx : p.tables.exec = Jvm.exec) (hlk : meth.locks = false) {pc : Nat} {Ls : Array Slot} (hret : meth.sig.returnType = none)
    (hd : decode c.code pc = .ok (.return_, 1)) (hc : cells ≤ nc) (hn : slots ≤ ns) (hq : K none T.heap locs) : own_G p e below s K nc ns T (mkF m pc Ls []) :=
  own_leave X hlk (fun _ => rfl) hc hn hq fun fs hr => X.returnOut hx hret hd hr
theorem own_selp {s : State} {args : Array Value} {y : MethodName} {n : Nat} (wi : (Jvm.Cond.instantiable y.cls n).before args s = true) (hp : (Jvm.Cond.privateMethod y).before args s = true) (hi : (Jvm.Cond.instanceMethod y).before args s = true)
    (hy : y.cls ≠ "java/lang/invoke/MethodHandle" ∧ y.cls ≠ "java/lang/invoke/VarHandle") : (Jvm.Cond.selects y.cls y y).before args s = true := by
  obtain ⟨c, k, h1, h2, h3, h4, -⟩ := Cond.instantiable_spec wi
  exact Jvm.Stand.selects_self_of_private h1 h2 (Bool.or_eq_false_iff.mp h4).1 (Cond.privateMethod_at hp) hi hy
theorem own_miss {k : Int32} (i : Int) (n : Int32) (e : n.toInt = i) (hc : ¬ k = n) : i ≠ k.toInt := fun h => hc (Int32.toInt_inj.mp (h.symm.trans e.symm))
theorem own_posI {x : Int32} (h : (0 : Int32) < x) : x ≠ 0 := fun q => by rw [q] at h; exact absurd h (by decide)
theorem own_posJ {x : Int64} (h : (0 : Int64) < x) : x ≠ 0 := fun q => by rw [q] at h; exact absurd h (by decide)
theorem own_asI {x y : Int32} (h : y < x) : ¬ x < y := fun q => Int32.lt_irrefl (Int32.lt_trans h q)
theorem own_asJ {x y : Int64} (h : y < x) : ¬ x < y := fun q => Int64.lt_irrefl (Int64.lt_trans h q)
theorem own_eqltI {x y : Int32} (h : x = y) : ¬ x < y := fun q => by rw [h] at q; exact Int32.lt_irrefl q
theorem own_eqltJ {x y : Int64} (h : x = y) : ¬ x < y := fun q => by rw [h] at q; exact Int64.lt_irrefl q
theorem own_triI {x y : Int32} (h : ¬ x = y) (q : ¬ y < x) : x < y := by
  rw [Int32.lt_iff_toInt_lt] at *
  rw [← Int32.toInt_inj] at h
  omega
theorem own_triJ {x y : Int64} (h : ¬ x = y) (q : ¬ y < x) : x < y := by
  rw [Int64.lt_iff_toInt_lt] at *
  rw [← Int64.toInt_inj] at h
  omega
theorem own_ltneI {x y : Int32} (h : x < y) : ¬ x = y := fun q => by rw [q] at h; exact Int32.lt_irrefl h
theorem own_ltneJ {x y : Int64} (h : x < y) : ¬ x = y := fun q => by rw [q] at h; exact Int64.lt_irrefl h
theorem own_ltne'I {x y : Int32} (h : y < x) : ¬ x = y := fun q => by rw [q] at h; exact Int32.lt_irrefl h
theorem own_ltne'J {x y : Int64} (h : y < x) : ¬ x = y := fun q => by rw [q] at h; exact Int64.lt_irrefl h
theorem own_nnI {x y : Int32} (h : ¬ x < y) (q : ¬ y < x) : x = y := by
  rw [Int32.lt_iff_toInt_lt] at *
  rw [← Int32.toInt_inj]
  omega
theorem own_nnJ {x y : Int64} (h : ¬ x < y) (q : ¬ y < x) : x = y := by
  rw [Int64.lt_iff_toInt_lt] at *
  rw [← Int64.toInt_inj]
  omega
end Own
theorem d1_0 : decode method_2_code 0 = .ok (.iload_n 0, 1) := by decide +kernel
theorem d1_1 : decode method_2_code 1 = .ok (.iconst 3, 1) := by decide +kernel
theorem d1_2 : decode method_2_code 2 = .ok (.iand, 1) := by decide +kernel
theorem d1_3 : decode method_2_code 3 = .ok (.istore_n 1, 1) := by decide +kernel
theorem d1_4 : decode method_2_code 4 = .ok (.iload_n 1, 1) := by decide +kernel
theorem d1_5 : decode method_2_code 5 = .ok (.ifCond .ne 6, 3) := by decide +kernel
theorem d1_8 : decode method_2_code 8 = .ok (.bipush 13, 2) := by decide +kernel
theorem d1_10 : decode method_2_code 10 = .ok (.ireturn, 1) := by decide +kernel
theorem d1_11 : decode method_2_code 11 = .ok (.iload_n 1, 1) := by decide +kernel
theorem d1_12 : decode method_2_code 12 = .ok (.iconst 1, 1) := by decide +kernel
theorem d1_13 : decode method_2_code 13 = .ok (.if_icmp .ne 6, 3) := by decide +kernel
theorem d1_16 : decode method_2_code 16 = .ok (.bipush 10, 2) := by decide +kernel
theorem d1_18 : decode method_2_code 18 = .ok (.ireturn, 1) := by decide +kernel
theorem d1_19 : decode method_2_code 19 = .ok (.iload_n 0, 1) := by decide +kernel
theorem d1_20 : decode method_2_code 20 = .ok (.iconst 2, 1) := by decide +kernel
theorem d1_21 : decode method_2_code 21 = .ok (.iushr, 1) := by decide +kernel
theorem d1_22 : decode method_2_code 22 = .ok (.i2c, 1) := by decide +kernel
theorem d1_23 : decode method_2_code 23 = .ok (.ireturn, 1) := by decide +kernel
theorem pn_com_example_burn_to_balance_burntobalance_io_LineCountTakePinLaw : plainName "com/example/burn_to_balance/burntobalance/io/LineCountTakePinLaw" = true := by first | (simp [plainName, overriddenIn]; done) | decide +kernel
theorem ef_1 (m : MethodId) (p1_0 : Int32) : entryFrame m #[(.int p1_0)] 2 = mkF m 0 #[.val (.int p1_0), .unset] [] := by first | (simp [entryFrame, mkF, argsToLocals, Value.category]; done) | rfl
def r1 (p1_0 : Int32) : Int32 := (if (p1_0 &&& (3 : Int32)) = (0 : Int32) then (13 : Int32) else (if (p1_0 &&& (3 : Int32)) = (1 : Int32) then (10 : Int32) else (nar .char ((p1_0.toUInt32 >>> ((2 : Int32) &&& 31).toUInt32).toInt32).toUInt32.toUInt16.toUInt32.toInt32)))
def Q1 (Z : State) (p1_0 : Int32) (h0 : Heap) (n0 : Nat) (v : Option Value) (h : Heap) (L : List Loc) : Prop := v = some (.int (r1 p1_0)) ∧ Fr n0 L ∧ h = h0
set_option maxRecDepth 65536 in
set_option maxHeartbeats 40000000 in
theorem rm1 (l : Launch) (Z : State) (a0 : Array Value) (hw : ∀ d ∈ tables_1, d.before a0 Z = true) (ws : List Jvm.Cond) (p1_0 : Int32) (h0 : Heap) (n0 : Nat) (Z0 : n0 ≤ h0.size) :
    MetFree l (⟨"com/example/burn_to_balance/burntobalance/io/LineCountTakePinLaw", "ch", "(I)C"⟩ : MethodName) (head1 (Jvm.Cond.code (⟨"com/example/burn_to_balance/burntobalance/io/LineCountTakePinLaw", "ch", "(I)C"⟩ : MethodName) method_2_code 2 (some .char) :: ws) ({ frames := 0, cells := 0, slots := 0, locals := 0 } : Room)) (fun a U => a = #[(.int p1_0)] ∧ Z.Warmed39 U.vm ∧ U.heap = h0) (fun _ _ _ _ _ => True) (fun _ U o U' => ∃ v L, o = .returned v ∧ Q1 Z p1_0 h0 n0 v U'.heap L ∧ FrameEnd U o U' L ({ frames := 0, cells := 0, slots := 0, locals := 0 } : Room).cells ({ frames := 0, cells := 0, slots := 0, locals := 0 } : Room).slots) := by
  refine MetFree.of_bodySF (plainFor_of_name pn_com_example_burn_to_balance_burntobalance_io_LineCountTakePinLaw) hisR ?_
  intro p e s m args below meth c s₁ Bd hml0 hP hK
  obtain ⟨rfl, hZ, hh⟩ := hP
  have hx := Bd.exec
  have hby := Bd.bytes
  have hlk := Bd.notSynchronized
  have hret := Bd.returns
  have hml : c.maxLocals = 2 := hml0
  have hown : s.vm.findClass "com/example/burn_to_balance/burntobalance/io/LineCountTakePinLaw" = some m.cls := findClass_of_methodNamed Bd.named
  have hnm := (name_of_methodNamed Bd.named Bd.method).1
  have X0 : Stand p l e ({ frames := 0, cells := 0, slots := 0, locals := 0 } : Room) s m #[(.int p1_0)] below meth c s₁ [] 0 0 := Stand.of_body Bd
  have e0 : s₁.heap = h0 := by rw [← hh, Bd.state]; rfl
  have N0 := Fr.nil n0
  have K0 : Keep h0 h0 [] := Keep.refl _ _
  show own_G p e below s (Q1 Z p1_0 h0 n0) ({ frames := 0, cells := 0, slots := 0, locals := 0 } : Room).cells ({ frames := 0, cells := 0, slots := 0, locals := 0 } : Room).slots s₁ (entryFrame m #[(.int p1_0)] 2)
  refine own_cast (ef_1 m p1_0) ?_
  refine own_s (g' := (mkF m 1 #[.val (.int p1_0), .unset] [(.int p1_0)])) (fun _ k => XS.iloadN X0.here hx rfl (hb hby d1_0) rfl k) ?_
  refine own_s (g' := (mkF m 2 #[.val (.int p1_0), .unset] [(.int 3), (.int p1_0)])) (fun _ k => XS.iconst X0.here hx rfl (hb hby d1_1) k) ?_
  refine own_s (g' := (mkF m 3 #[.val (.int p1_0), .unset] [(.int (p1_0 &&& (3 : Int32)))])) (fun _ k => XS.iand X0.here hx rfl (hb hby d1_2) rfl k) ?_
  refine own_s (g' := (mkF m 4 #[.val (.int p1_0), .val (.int (p1_0 &&& (3 : Int32)))] [])) (fun _ k => XS.istoreN X0.here hx rfl (hb hby d1_3) rfl (l' := #[.val (.int p1_0), .val (.int (p1_0 &&& (3 : Int32)))]) rfl k) ?_
  refine own_s (g' := (mkF m 5 #[.val (.int p1_0), .val (.int (p1_0 &&& (3 : Int32)))] [(.int (p1_0 &&& (3 : Int32)))])) (fun _ k => XS.iloadN X0.here hx rfl (hb hby d1_4) rfl k) ?_
  by_cases c1 : (p1_0 &&& (3 : Int32)) = (0 : Int32)
  ·skip
   refine own_s (g' := (mkF m 8 #[.val (.int p1_0), .val (.int (p1_0 &&& (3 : Int32)))] [])) (fun _ k => XS.ifNo X0.here hx rfl (hb hby d1_5) rfl ((if0 _ _).trans (teq c1).2) k) ?_
   refine own_s (g' := (mkF m 10 #[.val (.int p1_0), .val (.int (p1_0 &&& (3 : Int32)))] [(.int 13)])) (fun _ k => XS.bipush X0.here hx rfl (hb hby d1_8) k) ?_
   refine own_retN X0 hx hlk (t := .char) hret (by simp) (hb hby d1_10) (z' := (13 : Int32)) (by decide) (by decide) (by decide) ?_
   show Q1 Z p1_0 h0 n0 _ s₁.heap _
   rw [e0]
   exact ⟨(congrArg (fun z => some (Value.int z)) (show (13 : Int32) = (r1 p1_0) from (Eq.symm (if_pos c1)))), N0, rfl⟩
  ·skip
   refine own_s (g' := (mkF m 11 #[.val (.int p1_0), .val (.int (p1_0 &&& (3 : Int32)))] [])) (fun _ k => XS.ifYes X0.here hx rfl (pc0 := 5) (pc' := 11) rfl (hb hby d1_5) rfl ((if0 _ _).trans (feq c1).2) (by decide) (by decide) k) ?_
   refine own_s (g' := (mkF m 12 #[.val (.int p1_0), .val (.int (p1_0 &&& (3 : Int32)))] [(.int (p1_0 &&& (3 : Int32)))])) (fun _ k => XS.iloadN X0.here hx rfl (hb hby d1_11) rfl k) ?_
   refine own_s (g' := (mkF m 13 #[.val (.int p1_0), .val (.int (p1_0 &&& (3 : Int32)))] [(.int 1), (.int (p1_0 &&& (3 : Int32)))])) (fun _ k => XS.iconst X0.here hx rfl (hb hby d1_12) k) ?_
   by_cases c2 : (p1_0 &&& (3 : Int32)) = (1 : Int32)
   ·skip
    refine own_s (g' := (mkF m 16 #[.val (.int p1_0), .val (.int (p1_0 &&& (3 : Int32)))] [])) (fun _ k => XS.icmpNo X0.here hx rfl (hb hby d1_13) rfl (teq c2).2 k) ?_
    refine own_s (g' := (mkF m 18 #[.val (.int p1_0), .val (.int (p1_0 &&& (3 : Int32)))] [(.int 10)])) (fun _ k => XS.bipush X0.here hx rfl (hb hby d1_16) k) ?_
    refine own_retN X0 hx hlk (t := .char) hret (by simp) (hb hby d1_18) (z' := (10 : Int32)) (by decide) (by decide) (by decide) ?_
    show Q1 Z p1_0 h0 n0 _ s₁.heap _
    rw [e0]
    exact ⟨(congrArg (fun z => some (Value.int z)) (show (10 : Int32) = (r1 p1_0) from (Eq.symm ((if_neg c1).trans (if_pos c2))))), N0, rfl⟩
   ·skip
    refine own_s (g' := (mkF m 19 #[.val (.int p1_0), .val (.int (p1_0 &&& (3 : Int32)))] [])) (fun _ k => XS.icmpYes X0.here hx rfl (pc0 := 13) (pc' := 19) rfl (hb hby d1_13) rfl (feq c2).2 (by decide) (by decide) k) ?_
    refine own_s (g' := (mkF m 20 #[.val (.int p1_0), .val (.int (p1_0 &&& (3 : Int32)))] [(.int p1_0)])) (fun _ k => XS.iloadN X0.here hx rfl (hb hby d1_19) rfl k) ?_
    refine own_s (g' := (mkF m 21 #[.val (.int p1_0), .val (.int (p1_0 &&& (3 : Int32)))] [(.int 2), (.int p1_0)])) (fun _ k => XS.iconst X0.here hx rfl (hb hby d1_20) k) ?_
    refine own_s (g' := (mkF m 22 #[.val (.int p1_0), .val (.int (p1_0 &&& (3 : Int32)))] [(.int ((p1_0.toUInt32 >>> ((2 : Int32) &&& 31).toUInt32).toInt32))])) (fun _ k => XS.iushr X0.here hx rfl (hb hby d1_21) rfl k) ?_
    refine own_s (g' := (mkF m 23 #[.val (.int p1_0), .val (.int (p1_0 &&& (3 : Int32)))] [(.int ((p1_0.toUInt32 >>> ((2 : Int32) &&& 31).toUInt32).toInt32).toUInt32.toUInt16.toUInt32.toInt32)])) (fun _ k => XS.i2c X0.here hx rfl (hb hby d1_22) rfl k) ?_
    refine own_retN X0 hx hlk (t := .char) hret (by simp) (hb hby d1_23) (z' := (nar .char ((p1_0.toUInt32 >>> ((2 : Int32) &&& 31).toUInt32).toInt32).toUInt32.toUInt16.toUInt32.toInt32)) rfl (by decide) (by decide) ?_
    show Q1 Z p1_0 h0 n0 _ s₁.heap _
    rw [e0]
    exact ⟨(congrArg (fun z => some (Value.int z)) (show (nar .char ((p1_0.toUInt32 >>> ((2 : Int32) &&& 31).toUInt32).toInt32).toUInt32.toUInt16.toUInt32.toInt32) = (r1 p1_0) from (Eq.symm ((if_neg c1).trans (if_neg c2))))), N0, rfl⟩
theorem own_sn_29_14 {Z : State} {a0 : Array Value} (hw : ∀ d ∈ tables_1, d.before a0 Z = true) : Jvm.RoadKit.slotOf Z "com/example/burn_to_balance/burntobalance/io/LineCount" "afterReturn" "Z" ≠ Jvm.RoadKit.slotOf Z "com/example/burn_to_balance/burntobalance/io/LineCount" "line" "J" := slot_ne (Or.inl (hw _ (List.mem_of_getElem? (i := 29) rfl))) (Or.inl (hw _ (List.mem_of_getElem? (i := 14) rfl))) (by decide) (t := .boolean) (t' := .long) (by decide) (by decide)
theorem d2_0 : decode prog_24_method_1_code 0 = .ok (.aload_n 0, 1) := by decide +kernel
theorem d2_1 : decode prog_24_method_1_code 1 = .ok (.invokespecial 1, 3) := by decide +kernel
theorem d2_4 : decode prog_24_method_1_code 4 = .ok (.aload_n 0, 1) := by decide +kernel
theorem d2_5 : decode prog_24_method_1_code 5 = .ok (.lconst 1, 1) := by decide +kernel
theorem d2_6 : decode prog_24_method_1_code 6 = .ok (.putfield 7, 3) := by decide +kernel
theorem d2_9 : decode prog_24_method_1_code 9 = .ok (.return_, 1) := by decide +kernel
theorem pn_com_example_burn_to_balance_burntobalance_io_LineCount : plainName "com/example/burn_to_balance/burntobalance/io/LineCount" = true := by first | (simp [plainName, overriddenIn]; done) | decide +kernel
theorem ef_2 (m : MethodId) (a2_0 : Addr) : entryFrame m #[(.ref a2_0)] 1 = mkF m 0 #[.val (.ref a2_0)] [] := by first | (simp [entryFrame, mkF, argsToLocals, Value.category]; done) | rfl
def Q2 (Z : State) (a2_0 : Addr) (v2_line : Int64) (u2_afterReturn : Int32) (h0 : Heap) (n0 : Nat) (v : Option Value) (h : Heap) (L : List Loc) : Prop := v = none ∧ Fr n0 L ∧ Keep h0 h [a2_0] ∧ Exa Z h a2_0 "com/example/burn_to_balance/burntobalance/io/LineCount" ∧ Fld Z h a2_0 "com/example/burn_to_balance/burntobalance/io/LineCount" "afterReturn" "Z" (.int u2_afterReturn) ∧ Fld Z h a2_0 "com/example/burn_to_balance/burntobalance/io/LineCount" "line" "J" (.long 1)
set_option maxRecDepth 65536 in
set_option maxHeartbeats 40000000 in
theorem rm2 (l : Launch) (Z : State) (a0 : Array Value) (hw : ∀ d ∈ tables_1, d.before a0 Z = true) (ws : List Jvm.Cond) (a2_0 : Addr) (v2_line : Int64) (u2_afterReturn : Int32) (h0 : Heap) (n0 : Nat) (Z0 : n0 ≤ h0.size) (F_line_a2_0 : Fld Z h0 a2_0 "com/example/burn_to_balance/burntobalance/io/LineCount" "line" "J" (.long v2_line)) (F_afterReturn_a2_0 : Fld Z h0 a2_0 "com/example/burn_to_balance/burntobalance/io/LineCount" "afterReturn" "Z" (.int u2_afterReturn)) (E_a2_0 : Exa Z h0 a2_0 "com/example/burn_to_balance/burntobalance/io/LineCount") (g_a2_0 : n0 ≤ a2_0) :
    MetFree l (⟨"com/example/burn_to_balance/burntobalance/io/LineCount", "<init>", "()V"⟩ : MethodName) (head1 (Jvm.Cond.code (⟨"com/example/burn_to_balance/burntobalance/io/LineCount", "<init>", "()V"⟩ : MethodName) prog_24_method_1_code 1 none :: ws) ({ frames := 1, cells := 0, slots := 0, locals := 12 } : Room)) (fun a U => a = #[(.ref a2_0)] ∧ Z.Warmed39 U.vm ∧ U.heap = h0) (fun _ _ _ _ _ => True) (fun _ U o U' => ∃ v L, o = .returned v ∧ Q2 Z a2_0 v2_line u2_afterReturn h0 n0 v U'.heap L ∧ FrameEnd U o U' L ({ frames := 1, cells := 0, slots := 0, locals := 12 } : Room).cells ({ frames := 1, cells := 0, slots := 0, locals := 12 } : Room).slots) := by
  refine MetFree.of_bodySF (plainFor_of_name pn_com_example_burn_to_balance_burntobalance_io_LineCount) hisR ?_
  intro p e s m args below meth c s₁ Bd hml0 hP hK
  obtain ⟨rfl, hZ, hh⟩ := hP
  have hx := Bd.exec
  have hby := Bd.bytes
  have hlk := Bd.notSynchronized
  have hret := Bd.returns
  have hml : c.maxLocals = 1 := hml0
  have hown : s.vm.findClass "com/example/burn_to_balance/burntobalance/io/LineCount" = some m.cls := findClass_of_methodNamed Bd.named
  have hnm := (name_of_methodNamed Bd.named Bd.method).1
  have X0 : Stand p l e ({ frames := 1, cells := 0, slots := 0, locals := 12 } : Room) s m #[(.ref a2_0)] below meth c s₁ [] 0 0 := Stand.of_body Bd
  have e0 : s₁.heap = h0 := by rw [← hh, Bd.state]; rfl
  have N0 := Fr.nil n0
  have K0 : Keep h0 h0 [a2_0] := Keep.refl _ _
  show own_G p e below s (Q2 Z a2_0 v2_line u2_afterReturn h0 n0) ({ frames := 1, cells := 0, slots := 0, locals := 12 } : Room).cells ({ frames := 1, cells := 0, slots := 0, locals := 12 } : Room).slots s₁ (entryFrame m #[(.ref a2_0)] 1)
  have ww5 := hw _ (List.mem_of_getElem? (i := 5) rfl)
  have ww10 := hw _ (List.mem_of_getElem? (i := 10) rfl)
  have ww11 := hw _ (List.mem_of_getElem? (i := 11) rfl)
  have ww12 := hw _ (List.mem_of_getElem? (i := 12) rfl)
  have ww13 := hw _ (List.mem_of_getElem? (i := 13) rfl)
  have ww14 := hw _ (List.mem_of_getElem? (i := 14) rfl)
  refine own_cast (ef_2 m a2_0) ?_
  refine own_s (g' := (mkF m 1 #[.val (.ref a2_0)] [(.ref a2_0)])) (fun _ k => XS.aloadN X0.here hx rfl (hb hby d2_0) rfl rfl k) ?_
  obtain ⟨T3, X3, e3, st3⟩ := initO X0 hx hZ hown ww10 ww11 ww12 e0 (g := (mkF m 1 #[.val (.ref a2_0)] [(.ref a2_0)])) rfl (by rw [hml]; rfl) rfl (hb hby d2_1) (by decide) (W := 0) (by show 2 * 0 + _ ≤ _; exact Nat.le_of_eq rfl) (by decide)
  refine own_s (g' := (mkF m 4 #[.val (.ref a2_0)] [])) st3 ?_
  refine own_s (g' := (mkF m 5 #[.val (.ref a2_0)] [(.ref a2_0)])) (fun _ k => XS.aloadN X3.here hx rfl (hb hby d2_4) rfl rfl k) ?_
  refine own_s (g' := (mkF m 6 #[.val (.ref a2_0)] [(.long 1), (.ref a2_0)])) (fun _ k => XS.lconst X3.here hx rfl (hb hby d2_5) k) ?_
  obtain ⟨T4, h4, X4, e4, W4, st4⟩ := putF X3 hx hZ hown (host := "") (Or.inl ww13) Via.refl e3 F_line_a2_0 E_a2_0 (Or.inl ww14) ww5 (ty := .long) (by decide) rfl rfl (g := (mkF m 6 #[.val (.ref a2_0)] [(.long 1), (.ref a2_0)])) rfl rfl (hb hby d2_6)
  have f5 := F_line_a2_0.same W4
  have K4 := K0.wr W4 (Or.inl (List.mem_of_getElem? (i := 0) rfl))
  have N4 := Fr.snoc X4 N0 g_a2_0
  refine own_s (g' := (mkF m 9 #[.val (.ref a2_0)] [])) st4 ?_
  have f6 := (F_afterReturn_a2_0.other W4 (Or.inr (own_sn_29_14 hw)))
  have f7 := (E_a2_0.wr W4)
  refine own_retV X4 hx hlk hret (hb hby d2_9) (by decide) (by decide) ?_
  show Q2 Z a2_0 v2_line u2_afterReturn h0 n0 _ T4.heap _
  rw [e4]
  exact ⟨rfl, N4, K4, f7, f6, f5⟩
theorem d4_0 : decode prog_24_method_4_code 0 = .ok (.aload_n 0, 1) := by decide +kernel
theorem d4_1 : decode prog_24_method_4_code 1 = .ok (.getfield 7, 3) := by decide +kernel
theorem d4_4 : decode prog_24_method_4_code 4 = .ok (.lreturn, 1) := by decide +kernel
theorem ef_4 (m : MethodId) (a4_0 : Addr) : entryFrame m #[(.ref a4_0)] 1 = mkF m 0 #[.val (.ref a4_0)] [] := by first | (simp [entryFrame, mkF, argsToLocals, Value.category]; done) | rfl
def Q4 (Z : State) (a4_0 : Addr) (v4_line : Int64) (h0 : Heap) (n0 : Nat) (v : Option Value) (h : Heap) (L : List Loc) : Prop := v = some (.long v4_line) ∧ Fr n0 L ∧ h = h0
set_option maxRecDepth 65536 in
set_option maxHeartbeats 40000000 in
theorem rm4 (l : Launch) (Z : State) (a0 : Array Value) (hw : ∀ d ∈ tables_1, d.before a0 Z = true) (ws : List Jvm.Cond) (a4_0 : Addr) (v4_line : Int64) (h0 : Heap) (n0 : Nat) (Z0 : n0 ≤ h0.size) (F_line_a4_0 : Fld Z h0 a4_0 "com/example/burn_to_balance/burntobalance/io/LineCount" "line" "J" (.long v4_line)) :
    MetFree l (⟨"com/example/burn_to_balance/burntobalance/io/LineCount", "line", "()J"⟩ : MethodName) (head1 (Jvm.Cond.code (⟨"com/example/burn_to_balance/burntobalance/io/LineCount", "line", "()J"⟩ : MethodName) prog_24_method_4_code 1 (some .long) :: ws) ({ frames := 0, cells := 0, slots := 0, locals := 0 } : Room)) (fun a U => a = #[(.ref a4_0)] ∧ Z.Warmed39 U.vm ∧ U.heap = h0) (fun _ _ _ _ _ => True) (fun _ U o U' => ∃ v L, o = .returned v ∧ Q4 Z a4_0 v4_line h0 n0 v U'.heap L ∧ FrameEnd U o U' L ({ frames := 0, cells := 0, slots := 0, locals := 0 } : Room).cells ({ frames := 0, cells := 0, slots := 0, locals := 0 } : Room).slots) := by
  refine MetFree.of_bodySF (plainFor_of_name pn_com_example_burn_to_balance_burntobalance_io_LineCount) hisR ?_
  intro p e s m args below meth c s₁ Bd hml0 hP hK
  obtain ⟨rfl, hZ, hh⟩ := hP
  have hx := Bd.exec
  have hby := Bd.bytes
  have hlk := Bd.notSynchronized
  have hret := Bd.returns
  have hml : c.maxLocals = 1 := hml0
  have hown : s.vm.findClass "com/example/burn_to_balance/burntobalance/io/LineCount" = some m.cls := findClass_of_methodNamed Bd.named
  have hnm := (name_of_methodNamed Bd.named Bd.method).1
  have X0 : Stand p l e ({ frames := 0, cells := 0, slots := 0, locals := 0 } : Room) s m #[(.ref a4_0)] below meth c s₁ [] 0 0 := Stand.of_body Bd
  have e0 : s₁.heap = h0 := by rw [← hh, Bd.state]; rfl
  have N0 := Fr.nil n0
  have K0 : Keep h0 h0 [] := Keep.refl _ _
  show own_G p e below s (Q4 Z a4_0 v4_line h0 n0) ({ frames := 0, cells := 0, slots := 0, locals := 0 } : Room).cells ({ frames := 0, cells := 0, slots := 0, locals := 0 } : Room).slots s₁ (entryFrame m #[(.ref a4_0)] 1)
  have ww13 := hw _ (List.mem_of_getElem? (i := 13) rfl)
  refine own_cast (ef_4 m a4_0) ?_
  refine own_s (g' := (mkF m 1 #[.val (.ref a4_0)] [(.ref a4_0)])) (fun _ k => XS.aloadN X0.here hx rfl (hb hby d4_0) rfl rfl k) ?_
  obtain ⟨T8, X8, e8, st8⟩ := getF X0 hx hZ hown (host := "") (Or.inl ww13) Via.refl e0 F_line_a4_0 (g := (mkF m 1 #[.val (.ref a4_0)] [(.ref a4_0)])) rfl rfl (hb hby d4_1)
  refine own_s (g' := (mkF m 4 #[.val (.ref a4_0)] [(.long v4_line)])) st8 ?_
  refine own_retJ X8 hx hlk hret (hb hby d4_4) (by decide) (by decide) ?_
  show Q4 Z a4_0 v4_line h0 n0 _ T8.heap _
  rw [e8]
  exact ⟨rfl, N0, rfl⟩
theorem d5_0 : decode method_3_code 0 = .ok (.iload_n 1, 1) := by decide +kernel
theorem d5_1 : decode method_3_code 1 = .ok (.bipush 13, 2) := by decide +kernel
theorem d5_3 : decode method_3_code 3 = .ok (.if_icmp .ne 5, 3) := by decide +kernel
theorem d5_6 : decode method_3_code 6 = .ok (.lconst 1, 1) := by decide +kernel
theorem d5_7 : decode method_3_code 7 = .ok (.lreturn, 1) := by decide +kernel
theorem d5_8 : decode method_3_code 8 = .ok (.iload_n 1, 1) := by decide +kernel
theorem d5_9 : decode method_3_code 9 = .ok (.bipush 10, 2) := by decide +kernel
theorem d5_11 : decode method_3_code 11 = .ok (.if_icmp .ne 13, 3) := by decide +kernel
theorem d5_14 : decode method_3_code 14 = .ok (.iload_n 0, 1) := by decide +kernel
theorem d5_15 : decode method_3_code 15 = .ok (.bipush 13, 2) := by decide +kernel
theorem d5_17 : decode method_3_code 17 = .ok (.if_icmp .ne 5, 3) := by decide +kernel
theorem d5_20 : decode method_3_code 20 = .ok (.lconst 0, 1) := by decide +kernel
theorem d5_21 : decode method_3_code 21 = .ok (.lreturn, 1) := by decide +kernel
theorem d5_22 : decode method_3_code 22 = .ok (.lconst 1, 1) := by decide +kernel
theorem d5_23 : decode method_3_code 23 = .ok (.lreturn, 1) := by decide +kernel
theorem d5_24 : decode method_3_code 24 = .ok (.lconst 0, 1) := by decide +kernel
theorem d5_25 : decode method_3_code 25 = .ok (.lreturn, 1) := by decide +kernel
theorem ef_5 (m : MethodId) (p5_0 : Int32) (p5_1 : Int32) : entryFrame m #[(.int p5_0), (.int p5_1)] 2 = mkF m 0 #[.val (.int p5_0), .val (.int p5_1)] [] := by first | (simp [entryFrame, mkF, argsToLocals, Value.category]; done) | rfl
def r5 (p5_0 : Int32) (p5_1 : Int32) : Int64 := (if p5_1 = (13 : Int32) then (1 : Int64) else (if p5_1 = (10 : Int32) then (if p5_0 = (13 : Int32) then (0 : Int64) else (1 : Int64)) else (0 : Int64)))
def Q5 (Z : State) (p5_0 : Int32) (p5_1 : Int32) (h0 : Heap) (n0 : Nat) (v : Option Value) (h : Heap) (L : List Loc) : Prop := v = some (.long (r5 p5_0 p5_1)) ∧ Fr n0 L ∧ h = h0
set_option maxRecDepth 65536 in
set_option maxHeartbeats 40000000 in
theorem rm5 (l : Launch) (Z : State) (a0 : Array Value) (hw : ∀ d ∈ tables_1, d.before a0 Z = true) (ws : List Jvm.Cond) (p5_0 : Int32) (p5_1 : Int32) (h0 : Heap) (n0 : Nat) (Z0 : n0 ≤ h0.size) :
    MetFree l (⟨"com/example/burn_to_balance/burntobalance/io/LineCountTakePinLaw", "step", "(IC)J"⟩ : MethodName) (head1 (Jvm.Cond.code (⟨"com/example/burn_to_balance/burntobalance/io/LineCountTakePinLaw", "step", "(IC)J"⟩ : MethodName) method_3_code 2 (some .long) :: ws) ({ frames := 0, cells := 0, slots := 0, locals := 0 } : Room)) (fun a U => a = #[(.int p5_0), (.int p5_1)] ∧ Z.Warmed39 U.vm ∧ U.heap = h0) (fun _ _ _ _ _ => True) (fun _ U o U' => ∃ v L, o = .returned v ∧ Q5 Z p5_0 p5_1 h0 n0 v U'.heap L ∧ FrameEnd U o U' L ({ frames := 0, cells := 0, slots := 0, locals := 0 } : Room).cells ({ frames := 0, cells := 0, slots := 0, locals := 0 } : Room).slots) := by
  refine MetFree.of_bodySF (plainFor_of_name pn_com_example_burn_to_balance_burntobalance_io_LineCountTakePinLaw) hisR ?_
  intro p e s m args below meth c s₁ Bd hml0 hP hK
  obtain ⟨rfl, hZ, hh⟩ := hP
  have hx := Bd.exec
  have hby := Bd.bytes
  have hlk := Bd.notSynchronized
  have hret := Bd.returns
  have hml : c.maxLocals = 2 := hml0
  have hown : s.vm.findClass "com/example/burn_to_balance/burntobalance/io/LineCountTakePinLaw" = some m.cls := findClass_of_methodNamed Bd.named
  have hnm := (name_of_methodNamed Bd.named Bd.method).1
  have X0 : Stand p l e ({ frames := 0, cells := 0, slots := 0, locals := 0 } : Room) s m #[(.int p5_0), (.int p5_1)] below meth c s₁ [] 0 0 := Stand.of_body Bd
  have e0 : s₁.heap = h0 := by rw [← hh, Bd.state]; rfl
  have N0 := Fr.nil n0
  have K0 : Keep h0 h0 [] := Keep.refl _ _
  show own_G p e below s (Q5 Z p5_0 p5_1 h0 n0) ({ frames := 0, cells := 0, slots := 0, locals := 0 } : Room).cells ({ frames := 0, cells := 0, slots := 0, locals := 0 } : Room).slots s₁ (entryFrame m #[(.int p5_0), (.int p5_1)] 2)
  refine own_cast (ef_5 m p5_0 p5_1) ?_
  refine own_s (g' := (mkF m 1 #[.val (.int p5_0), .val (.int p5_1)] [(.int p5_1)])) (fun _ k => XS.iloadN X0.here hx rfl (hb hby d5_0) rfl k) ?_
  refine own_s (g' := (mkF m 3 #[.val (.int p5_0), .val (.int p5_1)] [(.int 13), (.int p5_1)])) (fun _ k => XS.bipush X0.here hx rfl (hb hby d5_1) k) ?_
  by_cases c9 : p5_1 = (13 : Int32)
  ·skip
   refine own_s (g' := (mkF m 6 #[.val (.int p5_0), .val (.int p5_1)] [])) (fun _ k => XS.icmpNo X0.here hx rfl (hb hby d5_3) rfl (teq c9).2 k) ?_
   refine own_s (g' := (mkF m 7 #[.val (.int p5_0), .val (.int p5_1)] [(.long 1)])) (fun _ k => XS.lconst X0.here hx rfl (hb hby d5_6) k) ?_
   refine own_retJ X0 hx hlk hret (hb hby d5_7) (by decide) (by decide) ?_
   show Q5 Z p5_0 p5_1 h0 n0 _ s₁.heap _
   rw [e0]
   exact ⟨(congrArg (fun z => some (Value.long z)) (show (1 : Int64) = (r5 p5_0 p5_1) from (Eq.symm (if_pos c9)))), N0, rfl⟩
  ·skip
   refine own_s (g' := (mkF m 8 #[.val (.int p5_0), .val (.int p5_1)] [])) (fun _ k => XS.icmpYes X0.here hx rfl (pc0 := 3) (pc' := 8) rfl (hb hby d5_3) rfl (feq c9).2 (by decide) (by decide) k) ?_
   refine own_s (g' := (mkF m 9 #[.val (.int p5_0), .val (.int p5_1)] [(.int p5_1)])) (fun _ k => XS.iloadN X0.here hx rfl (hb hby d5_8) rfl k) ?_
   refine own_s (g' := (mkF m 11 #[.val (.int p5_0), .val (.int p5_1)] [(.int 10), (.int p5_1)])) (fun _ k => XS.bipush X0.here hx rfl (hb hby d5_9) k) ?_
   by_cases c10 : p5_1 = (10 : Int32)
   ·skip
    refine own_s (g' := (mkF m 14 #[.val (.int p5_0), .val (.int p5_1)] [])) (fun _ k => XS.icmpNo X0.here hx rfl (hb hby d5_11) rfl (teq c10).2 k) ?_
    refine own_s (g' := (mkF m 15 #[.val (.int p5_0), .val (.int p5_1)] [(.int p5_0)])) (fun _ k => XS.iloadN X0.here hx rfl (hb hby d5_14) rfl k) ?_
    refine own_s (g' := (mkF m 17 #[.val (.int p5_0), .val (.int p5_1)] [(.int 13), (.int p5_0)])) (fun _ k => XS.bipush X0.here hx rfl (hb hby d5_15) k) ?_
    by_cases c11 : p5_0 = (13 : Int32)
    ·skip
     refine own_s (g' := (mkF m 20 #[.val (.int p5_0), .val (.int p5_1)] [])) (fun _ k => XS.icmpNo X0.here hx rfl (hb hby d5_17) rfl (teq c11).2 k) ?_
     refine own_s (g' := (mkF m 21 #[.val (.int p5_0), .val (.int p5_1)] [(.long 0)])) (fun _ k => XS.lconst X0.here hx rfl (hb hby d5_20) k) ?_
     refine own_retJ X0 hx hlk hret (hb hby d5_21) (by decide) (by decide) ?_
     show Q5 Z p5_0 p5_1 h0 n0 _ s₁.heap _
     rw [e0]
     exact ⟨(congrArg (fun z => some (Value.long z)) (show (0 : Int64) = (r5 p5_0 p5_1) from (Eq.symm ((if_neg c9).trans ((if_pos c10).trans (if_pos c11)))))), N0, rfl⟩
    ·skip
     refine own_s (g' := (mkF m 22 #[.val (.int p5_0), .val (.int p5_1)] [])) (fun _ k => XS.icmpYes X0.here hx rfl (pc0 := 17) (pc' := 22) rfl (hb hby d5_17) rfl (feq c11).2 (by decide) (by decide) k) ?_
     refine own_s (g' := (mkF m 23 #[.val (.int p5_0), .val (.int p5_1)] [(.long 1)])) (fun _ k => XS.lconst X0.here hx rfl (hb hby d5_22) k) ?_
     refine own_retJ X0 hx hlk hret (hb hby d5_23) (by decide) (by decide) ?_
     show Q5 Z p5_0 p5_1 h0 n0 _ s₁.heap _
     rw [e0]
     exact ⟨(congrArg (fun z => some (Value.long z)) (show (1 : Int64) = (r5 p5_0 p5_1) from (Eq.symm ((if_neg c9).trans ((if_pos c10).trans (if_neg c11)))))), N0, rfl⟩
   ·skip
    refine own_s (g' := (mkF m 24 #[.val (.int p5_0), .val (.int p5_1)] [])) (fun _ k => XS.icmpYes X0.here hx rfl (pc0 := 11) (pc' := 24) rfl (hb hby d5_11) rfl (feq c10).2 (by decide) (by decide) k) ?_
    refine own_s (g' := (mkF m 25 #[.val (.int p5_0), .val (.int p5_1)] [(.long 0)])) (fun _ k => XS.lconst X0.here hx rfl (hb hby d5_24) k) ?_
    refine own_retJ X0 hx hlk hret (hb hby d5_25) (by decide) (by decide) ?_
    show Q5 Z p5_0 p5_1 h0 n0 _ s₁.heap _
    rw [e0]
    exact ⟨(congrArg (fun z => some (Value.long z)) (show (0 : Int64) = (r5 p5_0 p5_1) from (Eq.symm ((if_neg c9).trans (if_neg c10))))), N0, rfl⟩
theorem own_sn_14_29 {Z : State} {a0 : Array Value} (hw : ∀ d ∈ tables_1, d.before a0 Z = true) : Jvm.RoadKit.slotOf Z "com/example/burn_to_balance/burntobalance/io/LineCount" "line" "J" ≠ Jvm.RoadKit.slotOf Z "com/example/burn_to_balance/burntobalance/io/LineCount" "afterReturn" "Z" := slot_ne (Or.inl (hw _ (List.mem_of_getElem? (i := 14) rfl))) (Or.inl (hw _ (List.mem_of_getElem? (i := 29) rfl))) (by decide) (t := .long) (t' := .boolean) (by decide) (by decide)
theorem d6_0 : decode prog_24_method_3_code 0 = .ok (.iload_n 1, 1) := by decide +kernel
theorem d6_1 : decode prog_24_method_3_code 1 = .ok (.bipush 13, 2) := by decide +kernel
theorem d6_3 : decode prog_24_method_3_code 3 = .ok (.if_icmp .eq 16, 3) := by decide +kernel
theorem d6_6 : decode prog_24_method_3_code 6 = .ok (.iload_n 1, 1) := by decide +kernel
theorem d6_7 : decode prog_24_method_3_code 7 = .ok (.bipush 10, 2) := by decide +kernel
theorem d6_9 : decode prog_24_method_3_code 9 = .ok (.if_icmp .ne 20, 3) := by decide +kernel
theorem d6_12 : decode prog_24_method_3_code 12 = .ok (.aload_n 0, 1) := by decide +kernel
theorem d6_13 : decode prog_24_method_3_code 13 = .ok (.getfield 13, 3) := by decide +kernel
theorem d6_16 : decode prog_24_method_3_code 16 = .ok (.ifCond .ne 13, 3) := by decide +kernel
theorem d6_19 : decode prog_24_method_3_code 19 = .ok (.aload_n 0, 1) := by decide +kernel
theorem d6_20 : decode prog_24_method_3_code 20 = .ok (.dup, 1) := by decide +kernel
theorem d6_21 : decode prog_24_method_3_code 21 = .ok (.getfield 7, 3) := by decide +kernel
theorem d6_24 : decode prog_24_method_3_code 24 = .ok (.lconst 1, 1) := by decide +kernel
theorem d6_25 : decode prog_24_method_3_code 25 = .ok (.ladd, 1) := by decide +kernel
theorem d6_26 : decode prog_24_method_3_code 26 = .ok (.putfield 7, 3) := by decide +kernel
theorem d6_29 : decode prog_24_method_3_code 29 = .ok (.aload_n 0, 1) := by decide +kernel
theorem d6_30 : decode prog_24_method_3_code 30 = .ok (.iload_n 1, 1) := by decide +kernel
theorem d6_31 : decode prog_24_method_3_code 31 = .ok (.bipush 13, 2) := by decide +kernel
theorem d6_33 : decode prog_24_method_3_code 33 = .ok (.if_icmp .ne 7, 3) := by decide +kernel
theorem d6_36 : decode prog_24_method_3_code 36 = .ok (.iconst 1, 1) := by decide +kernel
theorem d6_37 : decode prog_24_method_3_code 37 = .ok (.goto 4, 3) := by decide +kernel
theorem d6_40 : decode prog_24_method_3_code 40 = .ok (.iconst 0, 1) := by decide +kernel
theorem d6_41 : decode prog_24_method_3_code 41 = .ok (.putfield 13, 3) := by decide +kernel
theorem d6_44 : decode prog_24_method_3_code 44 = .ok (.return_, 1) := by decide +kernel
theorem ef_6 (m : MethodId) (a6_0 : Addr) (p6_1 : Int32) : entryFrame m #[(.ref a6_0), (.int p6_1)] 2 = mkF m 0 #[.val (.ref a6_0), .val (.int p6_1)] [] := by first | (simp [entryFrame, mkF, argsToLocals, Value.category]; done) | rfl
def w6_line (p6_1 : Int32) (v6_line : Int64) (u6_afterReturn : Int32) : Int64 := (if p6_1 = (13 : Int32) then (v6_line + (1 : Int64)) else (if p6_1 = (10 : Int32) then (if u6_afterReturn = (0 : Int32) then (v6_line + (1 : Int64)) else v6_line) else v6_line))
def w6_afterReturn (p6_1 : Int32) (u6_afterReturn : Int32) : Int32 := (if p6_1 = (13 : Int32) then (1 : Int32) else (if p6_1 = (10 : Int32) then (if u6_afterReturn = (0 : Int32) then (0 : Int32) else (0 : Int32)) else (0 : Int32)))
def Q6 (Z : State) (a6_0 : Addr) (p6_1 : Int32) (v6_line : Int64) (u6_afterReturn : Int32) (h0 : Heap) (n0 : Nat) (v : Option Value) (h : Heap) (L : List Loc) : Prop := v = none ∧ Fr n0 L ∧ Keep h0 h [a6_0] ∧ Exa Z h a6_0 "com/example/burn_to_balance/burntobalance/io/LineCount" ∧ Fld Z h a6_0 "com/example/burn_to_balance/burntobalance/io/LineCount" "line" "J" (.long (w6_line p6_1 v6_line u6_afterReturn)) ∧ Fld Z h a6_0 "com/example/burn_to_balance/burntobalance/io/LineCount" "afterReturn" "Z" (.int (w6_afterReturn p6_1 u6_afterReturn))
set_option maxRecDepth 65536 in
set_option maxHeartbeats 40000000 in
theorem rm6 (l : Launch) (Z : State) (a0 : Array Value) (hw : ∀ d ∈ tables_1, d.before a0 Z = true) (ws : List Jvm.Cond) (a6_0 : Addr) (p6_1 : Int32) (v6_line : Int64) (u6_afterReturn : Int32) (h0 : Heap) (n0 : Nat) (Z0 : n0 ≤ h0.size) (F_line_a6_0 : Fld Z h0 a6_0 "com/example/burn_to_balance/burntobalance/io/LineCount" "line" "J" (.long v6_line)) (F_afterReturn_a6_0 : Fld Z h0 a6_0 "com/example/burn_to_balance/burntobalance/io/LineCount" "afterReturn" "Z" (.int u6_afterReturn)) (E_a6_0 : Exa Z h0 a6_0 "com/example/burn_to_balance/burntobalance/io/LineCount") (g_a6_0 : n0 ≤ a6_0) :
    MetFree l (⟨"com/example/burn_to_balance/burntobalance/io/LineCount", "take", "(C)V"⟩ : MethodName) (head1 (Jvm.Cond.code (⟨"com/example/burn_to_balance/burntobalance/io/LineCount", "take", "(C)V"⟩ : MethodName) prog_24_method_3_code 2 none :: ws) ({ frames := 0, cells := 0, slots := 0, locals := 0 } : Room)) (fun a U => a = #[(.ref a6_0), (.int p6_1)] ∧ Z.Warmed39 U.vm ∧ U.heap = h0) (fun _ _ _ _ _ => True) (fun _ U o U' => ∃ v L, o = .returned v ∧ Q6 Z a6_0 p6_1 v6_line u6_afterReturn h0 n0 v U'.heap L ∧ FrameEnd U o U' L ({ frames := 0, cells := 0, slots := 0, locals := 0 } : Room).cells ({ frames := 0, cells := 0, slots := 0, locals := 0 } : Room).slots) := by
  refine MetFree.of_bodySF (plainFor_of_name pn_com_example_burn_to_balance_burntobalance_io_LineCount) hisR ?_
  intro p e s m args below meth c s₁ Bd hml0 hP hK
  obtain ⟨rfl, hZ, hh⟩ := hP
  have hx := Bd.exec
  have hby := Bd.bytes
  have hlk := Bd.notSynchronized
  have hret := Bd.returns
  have hml : c.maxLocals = 2 := hml0
  have hown : s.vm.findClass "com/example/burn_to_balance/burntobalance/io/LineCount" = some m.cls := findClass_of_methodNamed Bd.named
  have hnm := (name_of_methodNamed Bd.named Bd.method).1
  have X0 : Stand p l e ({ frames := 0, cells := 0, slots := 0, locals := 0 } : Room) s m #[(.ref a6_0), (.int p6_1)] below meth c s₁ [] 0 0 := Stand.of_body Bd
  have e0 : s₁.heap = h0 := by rw [← hh, Bd.state]; rfl
  have N0 := Fr.nil n0
  have K0 : Keep h0 h0 [a6_0] := Keep.refl _ _
  show own_G p e below s (Q6 Z a6_0 p6_1 v6_line u6_afterReturn h0 n0) ({ frames := 0, cells := 0, slots := 0, locals := 0 } : Room).cells ({ frames := 0, cells := 0, slots := 0, locals := 0 } : Room).slots s₁ (entryFrame m #[(.ref a6_0), (.int p6_1)] 2)
  have ww5 := hw _ (List.mem_of_getElem? (i := 5) rfl)
  have ww13 := hw _ (List.mem_of_getElem? (i := 13) rfl)
  have ww14 := hw _ (List.mem_of_getElem? (i := 14) rfl)
  have ww28 := hw _ (List.mem_of_getElem? (i := 28) rfl)
  have ww29 := hw _ (List.mem_of_getElem? (i := 29) rfl)
  refine own_cast (ef_6 m a6_0 p6_1) ?_
  refine own_s (g' := (mkF m 1 #[.val (.ref a6_0), .val (.int p6_1)] [(.int p6_1)])) (fun _ k => XS.iloadN X0.here hx rfl (hb hby d6_0) rfl k) ?_
  refine own_s (g' := (mkF m 3 #[.val (.ref a6_0), .val (.int p6_1)] [(.int 13), (.int p6_1)])) (fun _ k => XS.bipush X0.here hx rfl (hb hby d6_1) k) ?_
  by_cases c12 : p6_1 = (13 : Int32)
  ·skip
   refine own_s (g' := (mkF m 19 #[.val (.ref a6_0), .val (.int p6_1)] [])) (fun _ k => XS.icmpYes X0.here hx rfl (pc0 := 3) (pc' := 19) rfl (hb hby d6_3) rfl (teq c12).1 (by decide) (by decide) k) ?_
   refine own_s (g' := (mkF m 20 #[.val (.ref a6_0), .val (.int p6_1)] [(.ref a6_0)])) (fun _ k => XS.aloadN X0.here hx rfl (hb hby d6_19) rfl rfl k) ?_
   refine own_s (g' := (mkF m 21 #[.val (.ref a6_0), .val (.int p6_1)] [(.ref a6_0), (.ref a6_0)])) (fun _ k => XS.dup X0.here hx rfl (hb hby d6_20) rfl rfl k) ?_
   obtain ⟨T13, X13, e13, st13⟩ := getF X0 hx hZ hown (host := "") (Or.inl ww13) Via.refl e0 F_line_a6_0 (g := (mkF m 21 #[.val (.ref a6_0), .val (.int p6_1)] [(.ref a6_0), (.ref a6_0)])) rfl rfl (hb hby d6_21)
   refine own_s (g' := (mkF m 24 #[.val (.ref a6_0), .val (.int p6_1)] [(.long v6_line), (.ref a6_0)])) st13 ?_
   refine own_s (g' := (mkF m 25 #[.val (.ref a6_0), .val (.int p6_1)] [(.long 1), (.long v6_line), (.ref a6_0)])) (fun _ k => XS.lconst X13.here hx rfl (hb hby d6_24) k) ?_
   refine own_s (g' := (mkF m 26 #[.val (.ref a6_0), .val (.int p6_1)] [(.long (v6_line + (1 : Int64))), (.ref a6_0)])) (fun _ k => XS.ladd X13.here hx rfl (hb hby d6_25) rfl k) ?_
   obtain ⟨T14, h14, X14, e14, W14, st14⟩ := putF X13 hx hZ hown (host := "") (Or.inl ww13) Via.refl e13 F_line_a6_0 E_a6_0 (Or.inl ww14) ww5 (ty := .long) (by decide) rfl rfl (g := (mkF m 26 #[.val (.ref a6_0), .val (.int p6_1)] [(.long (v6_line + (1 : Int64))), (.ref a6_0)])) rfl rfl (hb hby d6_26)
   have f15 := F_line_a6_0.same W14
   have K14 := K0.wr W14 (Or.inl (List.mem_of_getElem? (i := 0) rfl))
   have N14 := Fr.snoc X14 N0 g_a6_0
   refine own_s (g' := (mkF m 29 #[.val (.ref a6_0), .val (.int p6_1)] [])) st14 ?_
   refine own_s (g' := (mkF m 30 #[.val (.ref a6_0), .val (.int p6_1)] [(.ref a6_0)])) (fun _ k => XS.aloadN X14.here hx rfl (hb hby d6_29) rfl rfl k) ?_
   refine own_s (g' := (mkF m 31 #[.val (.ref a6_0), .val (.int p6_1)] [(.int p6_1), (.ref a6_0)])) (fun _ k => XS.iloadN X14.here hx rfl (hb hby d6_30) rfl k) ?_
   refine own_s (g' := (mkF m 33 #[.val (.ref a6_0), .val (.int p6_1)] [(.int 13), (.int p6_1), (.ref a6_0)])) (fun _ k => XS.bipush X14.here hx rfl (hb hby d6_31) k) ?_
   refine own_s (g' := (mkF m 36 #[.val (.ref a6_0), .val (.int p6_1)] [(.ref a6_0)])) (fun _ k => XS.icmpNo X14.here hx rfl (hb hby d6_33) rfl (teq c12).2 k) ?_
   refine own_s (g' := (mkF m 37 #[.val (.ref a6_0), .val (.int p6_1)] [(.int 1), (.ref a6_0)])) (fun _ k => XS.iconst X14.here hx rfl (hb hby d6_36) k) ?_
   refine own_s (g' := (mkF m 41 #[.val (.ref a6_0), .val (.int p6_1)] [(.int 1), (.ref a6_0)])) (fun _ k => XS.goto X14.here hx rfl (pc0 := 37) (pc' := 41) rfl (hb hby d6_37) (by decide) (by decide) k) ?_
   have f16 := (E_a6_0.wr W14)
   have f17 := (F_afterReturn_a6_0.other W14 (Or.inr (own_sn_29_14 hw)))
   obtain ⟨T18, h18, X18, e18, W18, st18⟩ := putFN X14 hx hZ hown ww28 Via.refl e14 f17 f16 (Or.inl ww29) ww5 (ty := .boolean) (v' := (.int (1 : Int32))) (by decide) rfl (by decide) (g := (mkF m 41 #[.val (.ref a6_0), .val (.int p6_1)] [(.int 1), (.ref a6_0)])) rfl rfl (hb hby d6_41)
   have f19 := f17.same W18
   have K18 := K14.wr W18 (Or.inl (List.mem_of_getElem? (i := 0) rfl))
   have N18 := Fr.snoc X18 N14 g_a6_0
   refine own_s (g' := (mkF m 44 #[.val (.ref a6_0), .val (.int p6_1)] [])) st18 ?_
   have f20 := (f16.wr W18)
   have f21 := (f15.other W18 (Or.inr (own_sn_14_29 hw)))
   refine own_retV X18 hx hlk hret (hb hby d6_44) (by decide) (by decide) ?_
   show Q6 Z a6_0 p6_1 v6_line u6_afterReturn h0 n0 _ T18.heap _
   rw [e18]
   exact ⟨rfl, N18, K18, f20, (show Fld Z _ a6_0 "com/example/burn_to_balance/burntobalance/io/LineCount" "line" "J" (.long (w6_line p6_1 v6_line u6_afterReturn)) from (by rw [show (w6_line p6_1 v6_line u6_afterReturn) = (v6_line + (1 : Int64)) from (if_pos c12)]; exact f21)), (show Fld Z _ a6_0 "com/example/burn_to_balance/burntobalance/io/LineCount" "afterReturn" "Z" (.int (w6_afterReturn p6_1 u6_afterReturn)) from (by rw [show (w6_afterReturn p6_1 u6_afterReturn) = (1 : Int32) from (if_pos c12)]; exact f19))⟩
  ·skip
   refine own_s (g' := (mkF m 6 #[.val (.ref a6_0), .val (.int p6_1)] [])) (fun _ k => XS.icmpNo X0.here hx rfl (hb hby d6_3) rfl (feq c12).1 k) ?_
   refine own_s (g' := (mkF m 7 #[.val (.ref a6_0), .val (.int p6_1)] [(.int p6_1)])) (fun _ k => XS.iloadN X0.here hx rfl (hb hby d6_6) rfl k) ?_
   refine own_s (g' := (mkF m 9 #[.val (.ref a6_0), .val (.int p6_1)] [(.int 10), (.int p6_1)])) (fun _ k => XS.bipush X0.here hx rfl (hb hby d6_7) k) ?_
   by_cases c22 : p6_1 = (10 : Int32)
   ·skip
    refine own_s (g' := (mkF m 12 #[.val (.ref a6_0), .val (.int p6_1)] [])) (fun _ k => XS.icmpNo X0.here hx rfl (hb hby d6_9) rfl (teq c22).2 k) ?_
    refine own_s (g' := (mkF m 13 #[.val (.ref a6_0), .val (.int p6_1)] [(.ref a6_0)])) (fun _ k => XS.aloadN X0.here hx rfl (hb hby d6_12) rfl rfl k) ?_
    obtain ⟨T23, X23, e23, st23⟩ := getF X0 hx hZ hown (host := "") (Or.inl ww28) Via.refl e0 F_afterReturn_a6_0 (g := (mkF m 13 #[.val (.ref a6_0), .val (.int p6_1)] [(.ref a6_0)])) rfl rfl (hb hby d6_13)
    refine own_s (g' := (mkF m 16 #[.val (.ref a6_0), .val (.int p6_1)] [(.int u6_afterReturn)])) st23 ?_
    by_cases c24 : u6_afterReturn = (0 : Int32)
    ·skip
     refine own_s (g' := (mkF m 19 #[.val (.ref a6_0), .val (.int p6_1)] [])) (fun _ k => XS.ifNo X23.here hx rfl (hb hby d6_16) rfl ((if0 _ _).trans (teq c24).2) k) ?_
     refine own_s (g' := (mkF m 20 #[.val (.ref a6_0), .val (.int p6_1)] [(.ref a6_0)])) (fun _ k => XS.aloadN X23.here hx rfl (hb hby d6_19) rfl rfl k) ?_
     refine own_s (g' := (mkF m 21 #[.val (.ref a6_0), .val (.int p6_1)] [(.ref a6_0), (.ref a6_0)])) (fun _ k => XS.dup X23.here hx rfl (hb hby d6_20) rfl rfl k) ?_
     obtain ⟨T25, X25, e25, st25⟩ := getF X23 hx hZ hown (host := "") (Or.inl ww13) Via.refl e23 F_line_a6_0 (g := (mkF m 21 #[.val (.ref a6_0), .val (.int p6_1)] [(.ref a6_0), (.ref a6_0)])) rfl rfl (hb hby d6_21)
     refine own_s (g' := (mkF m 24 #[.val (.ref a6_0), .val (.int p6_1)] [(.long v6_line), (.ref a6_0)])) st25 ?_
     refine own_s (g' := (mkF m 25 #[.val (.ref a6_0), .val (.int p6_1)] [(.long 1), (.long v6_line), (.ref a6_0)])) (fun _ k => XS.lconst X25.here hx rfl (hb hby d6_24) k) ?_
     refine own_s (g' := (mkF m 26 #[.val (.ref a6_0), .val (.int p6_1)] [(.long (v6_line + (1 : Int64))), (.ref a6_0)])) (fun _ k => XS.ladd X25.here hx rfl (hb hby d6_25) rfl k) ?_
     obtain ⟨T26, h26, X26, e26, W26, st26⟩ := putF X25 hx hZ hown (host := "") (Or.inl ww13) Via.refl e25 F_line_a6_0 E_a6_0 (Or.inl ww14) ww5 (ty := .long) (by decide) rfl rfl (g := (mkF m 26 #[.val (.ref a6_0), .val (.int p6_1)] [(.long (v6_line + (1 : Int64))), (.ref a6_0)])) rfl rfl (hb hby d6_26)
     have f27 := F_line_a6_0.same W26
     have K26 := K0.wr W26 (Or.inl (List.mem_of_getElem? (i := 0) rfl))
     have N26 := Fr.snoc X26 N0 g_a6_0
     refine own_s (g' := (mkF m 29 #[.val (.ref a6_0), .val (.int p6_1)] [])) st26 ?_
     refine own_s (g' := (mkF m 30 #[.val (.ref a6_0), .val (.int p6_1)] [(.ref a6_0)])) (fun _ k => XS.aloadN X26.here hx rfl (hb hby d6_29) rfl rfl k) ?_
     refine own_s (g' := (mkF m 31 #[.val (.ref a6_0), .val (.int p6_1)] [(.int p6_1), (.ref a6_0)])) (fun _ k => XS.iloadN X26.here hx rfl (hb hby d6_30) rfl k) ?_
     refine own_s (g' := (mkF m 33 #[.val (.ref a6_0), .val (.int p6_1)] [(.int 13), (.int p6_1), (.ref a6_0)])) (fun _ k => XS.bipush X26.here hx rfl (hb hby d6_31) k) ?_
     refine own_s (g' := (mkF m 40 #[.val (.ref a6_0), .val (.int p6_1)] [(.ref a6_0)])) (fun _ k => XS.icmpYes X26.here hx rfl (pc0 := 33) (pc' := 40) rfl (hb hby d6_33) rfl (feq c12).2 (by decide) (by decide) k) ?_
     refine own_s (g' := (mkF m 41 #[.val (.ref a6_0), .val (.int p6_1)] [(.int 0), (.ref a6_0)])) (fun _ k => XS.iconst X26.here hx rfl (hb hby d6_40) k) ?_
     have f28 := (E_a6_0.wr W26)
     have f29 := (F_afterReturn_a6_0.other W26 (Or.inr (own_sn_29_14 hw)))
     obtain ⟨T30, h30, X30, e30, W30, st30⟩ := putFN X26 hx hZ hown ww28 Via.refl e26 f29 f28 (Or.inl ww29) ww5 (ty := .boolean) (v' := (.int (0 : Int32))) (by decide) rfl (by decide) (g := (mkF m 41 #[.val (.ref a6_0), .val (.int p6_1)] [(.int 0), (.ref a6_0)])) rfl rfl (hb hby d6_41)
     have f31 := f29.same W30
     have K30 := K26.wr W30 (Or.inl (List.mem_of_getElem? (i := 0) rfl))
     have N30 := Fr.snoc X30 N26 g_a6_0
     refine own_s (g' := (mkF m 44 #[.val (.ref a6_0), .val (.int p6_1)] [])) st30 ?_
     have f32 := (f28.wr W30)
     have f33 := (f27.other W30 (Or.inr (own_sn_14_29 hw)))
     refine own_retV X30 hx hlk hret (hb hby d6_44) (by decide) (by decide) ?_
     show Q6 Z a6_0 p6_1 v6_line u6_afterReturn h0 n0 _ T30.heap _
     rw [e30]
     exact ⟨rfl, N30, K30, f32, (show Fld Z _ a6_0 "com/example/burn_to_balance/burntobalance/io/LineCount" "line" "J" (.long (w6_line p6_1 v6_line u6_afterReturn)) from (by rw [show (w6_line p6_1 v6_line u6_afterReturn) = (v6_line + (1 : Int64)) from ((if_neg c12).trans ((if_pos c22).trans (if_pos c24)))]; exact f33)), (show Fld Z _ a6_0 "com/example/burn_to_balance/burntobalance/io/LineCount" "afterReturn" "Z" (.int (w6_afterReturn p6_1 u6_afterReturn)) from (by rw [show (w6_afterReturn p6_1 u6_afterReturn) = (0 : Int32) from ((if_neg c12).trans ((if_pos c22).trans (if_pos c24)))]; exact f31))⟩
    ·skip
     refine own_s (g' := (mkF m 29 #[.val (.ref a6_0), .val (.int p6_1)] [])) (fun _ k => XS.ifYes X23.here hx rfl (pc0 := 16) (pc' := 29) rfl (hb hby d6_16) rfl ((if0 _ _).trans (feq c24).2) (by decide) (by decide) k) ?_
     refine own_s (g' := (mkF m 30 #[.val (.ref a6_0), .val (.int p6_1)] [(.ref a6_0)])) (fun _ k => XS.aloadN X23.here hx rfl (hb hby d6_29) rfl rfl k) ?_
     refine own_s (g' := (mkF m 31 #[.val (.ref a6_0), .val (.int p6_1)] [(.int p6_1), (.ref a6_0)])) (fun _ k => XS.iloadN X23.here hx rfl (hb hby d6_30) rfl k) ?_
     refine own_s (g' := (mkF m 33 #[.val (.ref a6_0), .val (.int p6_1)] [(.int 13), (.int p6_1), (.ref a6_0)])) (fun _ k => XS.bipush X23.here hx rfl (hb hby d6_31) k) ?_
     refine own_s (g' := (mkF m 40 #[.val (.ref a6_0), .val (.int p6_1)] [(.ref a6_0)])) (fun _ k => XS.icmpYes X23.here hx rfl (pc0 := 33) (pc' := 40) rfl (hb hby d6_33) rfl (feq c12).2 (by decide) (by decide) k) ?_
     refine own_s (g' := (mkF m 41 #[.val (.ref a6_0), .val (.int p6_1)] [(.int 0), (.ref a6_0)])) (fun _ k => XS.iconst X23.here hx rfl (hb hby d6_40) k) ?_
     obtain ⟨T34, h34, X34, e34, W34, st34⟩ := putFN X23 hx hZ hown ww28 Via.refl e23 F_afterReturn_a6_0 E_a6_0 (Or.inl ww29) ww5 (ty := .boolean) (v' := (.int (0 : Int32))) (by decide) rfl (by decide) (g := (mkF m 41 #[.val (.ref a6_0), .val (.int p6_1)] [(.int 0), (.ref a6_0)])) rfl rfl (hb hby d6_41)
     have f35 := F_afterReturn_a6_0.same W34
     have K34 := K0.wr W34 (Or.inl (List.mem_of_getElem? (i := 0) rfl))
     have N34 := Fr.snoc X34 N0 g_a6_0
     refine own_s (g' := (mkF m 44 #[.val (.ref a6_0), .val (.int p6_1)] [])) st34 ?_
     have f36 := (F_line_a6_0.other W34 (Or.inr (own_sn_14_29 hw)))
     have f37 := (E_a6_0.wr W34)
     refine own_retV X34 hx hlk hret (hb hby d6_44) (by decide) (by decide) ?_
     show Q6 Z a6_0 p6_1 v6_line u6_afterReturn h0 n0 _ T34.heap _
     rw [e34]
     exact ⟨rfl, N34, K34, f37, (show Fld Z _ a6_0 "com/example/burn_to_balance/burntobalance/io/LineCount" "line" "J" (.long (w6_line p6_1 v6_line u6_afterReturn)) from (by rw [show (w6_line p6_1 v6_line u6_afterReturn) = v6_line from ((if_neg c12).trans ((if_pos c22).trans (if_neg c24)))]; exact f36)), (show Fld Z _ a6_0 "com/example/burn_to_balance/burntobalance/io/LineCount" "afterReturn" "Z" (.int (w6_afterReturn p6_1 u6_afterReturn)) from (by rw [show (w6_afterReturn p6_1 u6_afterReturn) = (0 : Int32) from ((if_neg c12).trans ((if_pos c22).trans (if_neg c24)))]; exact f35))⟩
   ·skip
    refine own_s (g' := (mkF m 29 #[.val (.ref a6_0), .val (.int p6_1)] [])) (fun _ k => XS.icmpYes X0.here hx rfl (pc0 := 9) (pc' := 29) rfl (hb hby d6_9) rfl (feq c22).2 (by decide) (by decide) k) ?_
    refine own_s (g' := (mkF m 30 #[.val (.ref a6_0), .val (.int p6_1)] [(.ref a6_0)])) (fun _ k => XS.aloadN X0.here hx rfl (hb hby d6_29) rfl rfl k) ?_
    refine own_s (g' := (mkF m 31 #[.val (.ref a6_0), .val (.int p6_1)] [(.int p6_1), (.ref a6_0)])) (fun _ k => XS.iloadN X0.here hx rfl (hb hby d6_30) rfl k) ?_
    refine own_s (g' := (mkF m 33 #[.val (.ref a6_0), .val (.int p6_1)] [(.int 13), (.int p6_1), (.ref a6_0)])) (fun _ k => XS.bipush X0.here hx rfl (hb hby d6_31) k) ?_
    refine own_s (g' := (mkF m 40 #[.val (.ref a6_0), .val (.int p6_1)] [(.ref a6_0)])) (fun _ k => XS.icmpYes X0.here hx rfl (pc0 := 33) (pc' := 40) rfl (hb hby d6_33) rfl (feq c12).2 (by decide) (by decide) k) ?_
    refine own_s (g' := (mkF m 41 #[.val (.ref a6_0), .val (.int p6_1)] [(.int 0), (.ref a6_0)])) (fun _ k => XS.iconst X0.here hx rfl (hb hby d6_40) k) ?_
    obtain ⟨T38, h38, X38, e38, W38, st38⟩ := putFN X0 hx hZ hown ww28 Via.refl e0 F_afterReturn_a6_0 E_a6_0 (Or.inl ww29) ww5 (ty := .boolean) (v' := (.int (0 : Int32))) (by decide) rfl (by decide) (g := (mkF m 41 #[.val (.ref a6_0), .val (.int p6_1)] [(.int 0), (.ref a6_0)])) rfl rfl (hb hby d6_41)
    have f39 := F_afterReturn_a6_0.same W38
    have K38 := K0.wr W38 (Or.inl (List.mem_of_getElem? (i := 0) rfl))
    have N38 := Fr.snoc X38 N0 g_a6_0
    refine own_s (g' := (mkF m 44 #[.val (.ref a6_0), .val (.int p6_1)] [])) st38 ?_
    have f40 := (F_line_a6_0.other W38 (Or.inr (own_sn_14_29 hw)))
    have f41 := (E_a6_0.wr W38)
    refine own_retV X38 hx hlk hret (hb hby d6_44) (by decide) (by decide) ?_
    show Q6 Z a6_0 p6_1 v6_line u6_afterReturn h0 n0 _ T38.heap _
    rw [e38]
    exact ⟨rfl, N38, K38, f41, (show Fld Z _ a6_0 "com/example/burn_to_balance/burntobalance/io/LineCount" "line" "J" (.long (w6_line p6_1 v6_line u6_afterReturn)) from (by rw [show (w6_line p6_1 v6_line u6_afterReturn) = v6_line from ((if_neg c12).trans (if_neg c22))]; exact f40)), (show Fld Z _ a6_0 "com/example/burn_to_balance/burntobalance/io/LineCount" "afterReturn" "Z" (.int (w6_afterReturn p6_1 u6_afterReturn)) from (by rw [show (w6_afterReturn p6_1 u6_afterReturn) = (0 : Int32) from ((if_neg c12).trans (if_neg c22))]; exact f39))⟩
theorem own_take (c pr ar : Int32) (ln : Int64) (h : ar = 0 ↔ ¬ pr = 13) : (w6_line c ln ar) = ln + r5 pr c := by
  unfold w6_line r5
  have z : ∀ x : Int64, x = x + 0 := fun x => (Int64.add_zero x).symm
  by_cases c1 : c = (13 : Int32)
  · rw [if_pos c1, if_pos c1]
  · rw [if_neg c1, if_neg c1]
    by_cases c2 : c = (10 : Int32)
    · rw [if_pos c2, if_pos c2]
      by_cases c3 : pr = (13 : Int32)
      · rw [if_neg (fun q => (h.mp q) c3), if_pos c3]; exact z ln
      · rw [if_pos (h.mpr c3), if_neg c3]
    · rw [if_neg c2, if_neg c2]; exact z ln
theorem own_ar (c ar : Int32) : (w6_afterReturn c ar) = 0 ↔ ¬ c = 13 := by
  unfold w6_afterReturn
  by_cases c1 : c = (13 : Int32)
  · rw [if_pos c1]; exact ⟨fun q => absurd q (by decide), fun q => absurd c1 q⟩
  · rw [if_neg c1]
    (repeat' split) <;> exact ⟨fun _ => c1, fun _ => rfl⟩
theorem pd__I_C : parseMethodDescriptor "(I)C" = some ⟨[.int], some .char⟩ := by decide +kernel
theorem pd___V : parseMethodDescriptor "()V" = some ⟨[], none⟩ := by decide +kernel
theorem pd___J : parseMethodDescriptor "()J" = some ⟨[], some .long⟩ := by decide +kernel
theorem pd__IC_J : parseMethodDescriptor "(IC)J" = some ⟨[.int, .char], some .long⟩ := by decide +kernel
theorem pd__C_V : parseMethodDescriptor "(C)V" = some ⟨[.char], none⟩ := by decide +kernel
theorem ef_0 (m : MethodId) (p0_0 : Int32) (p0_1 : Int32) (p0_2 : Int32) (p0_3 : Int32) : entryFrame m #[(.int p0_0), (.int p0_1), (.int p0_2), (.int p0_3)] maxLocals = mkF m 0 #[.val (.int p0_0), .val (.int p0_1), .val (.int p0_2), .val (.int p0_3), .unset, .unset, .unset, .unset, .unset, .unset, .unset, .unset] [] := by first | (simp [entryFrame, mkF, argsToLocals, Value.category, maxLocals]; done) | rfl
def t0_4 (p0_0 : Int32) : Int32 := (r1 p0_0)
def t0_10 (p0_1 : Int32) : Int32 := (r1 p0_1)
def t0_16 (p0_2 : Int32) : Int32 := (r1 p0_2)
def t0_22 (p0_3 : Int32) : Int32 := (r1 p0_3)
def Q0 (Z : State) (p0_0 : Int32) (p0_1 : Int32) (p0_2 : Int32) (p0_3 : Int32) (h0 : Heap) (n0 : Nat) (v : Option Value) (h : Heap) (L : List Loc) : Prop := v = some (.int (1 : Int32)) ∧ Fr n0 L
set_option maxRecDepth 65536 in
set_option maxHeartbeats 40000000 in
theorem rm0 (l : Launch) (Z : State) (a0 : Array Value) (hw : ∀ d ∈ tables_1, d.before a0 Z = true) (ws : List Jvm.Cond) (p0_0 : Int32) (p0_1 : Int32) (p0_2 : Int32) (p0_3 : Int32) (h0 : Heap) (n0 : Nat) (Z0 : n0 ≤ h0.size) :
    MetFree l x (head1 (Jvm.Cond.code x code maxLocals ret :: ws) room_1) (fun a U => a = #[(.int p0_0), (.int p0_1), (.int p0_2), (.int p0_3)] ∧ Z.Warmed39 U.vm ∧ U.heap = h0) (fun _ _ _ _ _ => True) (fun _ U o U' => ∃ v L, o = .returned v ∧ Q0 Z p0_0 p0_1 p0_2 p0_3 h0 n0 v U'.heap L ∧ FrameEnd U o U' L 16 128) := by
  refine MetFree.of_bodySF (plainFor_of_name pn_com_example_burn_to_balance_burntobalance_io_LineCountTakePinLaw) hisR ?_
  intro p e s m args below meth c s₁ Bd hml0 hP hK
  obtain ⟨rfl, hZ, hh⟩ := hP
  have hx := Bd.exec
  have hby := Bd.bytes
  have hlk := Bd.notSynchronized
  have hret := Bd.returns
  have hml : c.maxLocals = 12 := hml0
  have hown : s.vm.findClass "com/example/burn_to_balance/burntobalance/io/LineCountTakePinLaw" = some m.cls := findClass_of_methodNamed Bd.named
  have hnm := (name_of_methodNamed Bd.named Bd.method).1
  have X0 : Stand p l e room_1 s m #[(.int p0_0), (.int p0_1), (.int p0_2), (.int p0_3)] below meth c s₁ [] 0 0 := Stand.of_body Bd
  have e0 : s₁.heap = h0 := by rw [← hh, Bd.state]; rfl
  have N0 := Fr.nil n0
  have K0 : Keep h0 h0 [] := Keep.refl _ _
  show own_G p e below s (Q0 Z p0_0 p0_1 p0_2 p0_3 h0 n0) 16 128 s₁ (entryFrame m #[(.int p0_0), (.int p0_1), (.int p0_2), (.int p0_3)] maxLocals)
  have ww0 := hw _ (List.mem_of_getElem? (i := 0) rfl)
  have ww1 := hw _ (List.mem_of_getElem? (i := 1) rfl)
  have ww2 := hw _ (List.mem_of_getElem? (i := 2) rfl)
  have ww3 := hw _ (List.mem_of_getElem? (i := 3) rfl)
  have ww4 := hw _ (List.mem_of_getElem? (i := 4) rfl)
  have ww5 := hw _ (List.mem_of_getElem? (i := 5) rfl)
  have ww6 := hw _ (List.mem_of_getElem? (i := 6) rfl)
  have ww7 := hw _ (List.mem_of_getElem? (i := 7) rfl)
  have ww8 := hw _ (List.mem_of_getElem? (i := 8) rfl)
  have ww9 := hw _ (List.mem_of_getElem? (i := 9) rfl)
  have ww14 := hw _ (List.mem_of_getElem? (i := 14) rfl)
  have ww15 := hw _ (List.mem_of_getElem? (i := 15) rfl)
  have ww16 := hw _ (List.mem_of_getElem? (i := 16) rfl)
  have ww17 := hw _ (List.mem_of_getElem? (i := 17) rfl)
  have ww18 := hw _ (List.mem_of_getElem? (i := 18) rfl)
  have ww19 := hw _ (List.mem_of_getElem? (i := 19) rfl)
  have ww20 := hw _ (List.mem_of_getElem? (i := 20) rfl)
  have ww21 := hw _ (List.mem_of_getElem? (i := 21) rfl)
  have ww22 := hw _ (List.mem_of_getElem? (i := 22) rfl)
  have ww23 := hw _ (List.mem_of_getElem? (i := 23) rfl)
  have ww24 := hw _ (List.mem_of_getElem? (i := 24) rfl)
  have ww25 := hw _ (List.mem_of_getElem? (i := 25) rfl)
  have ww26 := hw _ (List.mem_of_getElem? (i := 26) rfl)
  have ww27 := hw _ (List.mem_of_getElem? (i := 27) rfl)
  have ww29 := hw _ (List.mem_of_getElem? (i := 29) rfl)
  refine own_cast (ef_0 m p0_0 p0_1 p0_2 p0_3) ?_
  refine own_s (g' := (mkF m 1 #[.val (.int p0_0), .val (.int p0_1), .val (.int p0_2), .val (.int p0_3), .unset, .unset, .unset, .unset, .unset, .unset, .unset, .unset] [(.int p0_0)])) (fun _ k => XS.iloadN X0.here hx rfl (hb hby at_0) rfl k) ?_
  obtain ⟨_, _, ⟨T42, L42, k42, n42⟩, -, X42, ⟨Lc42, hQ42, l42, y42, z42⟩, st42⟩ := Jvm.LawKit.callS X0 hx (y := (⟨"com/example/burn_to_balance/burntobalance/io/LineCountTakePinLaw", "ch", "(I)C"⟩ : MethodName)) hown (mvT hZ ww0) (mvT hZ ww1) (mvT hZ ww2) (mvT hZ ww3) (by decide) (backOf (W := 0) (rm1 l Z a0 hw [] p0_0 h0 n0 Z0 ) hZ ww3 ww2 (by decide) (by decide)) (g := (mkF m 1 #[.val (.int p0_0), .val (.int p0_1), .val (.int p0_2), .val (.int p0_3), .unset, .unset, .unset, .unset, .unset, .unset, .unset, .unset] [(.int p0_0)])) rfl (by rw [hml]; rfl) (argsL := [(.int p0_0)]) (rest := []) (lenOf pd__I_C rfl) rfl (by show 2 * 0 + _ ≤ _; exact Nat.le_of_eq rfl) (hb hby at_1) (fun _ _ => ⟨rfl, e0, (by decide : 0 + 0 ≤ _), (by decide : 0 + 0 ≤ _)⟩)
  dsimp only [Pt.U, Pt.locs, Pt.cells, Pt.slots] at X42 l42 y42 z42 st42 hQ42
  subst l42 y42 z42
  obtain ⟨rfl, N42q, eh42⟩ := hQ42
  have N42 := Fr.app N0 N42q
  refine own_s (g' := (mkF m 4 #[.val (.int p0_0), .val (.int p0_1), .val (.int p0_2), .val (.int p0_3), .unset, .unset, .unset, .unset, .unset, .unset, .unset, .unset] [(.int (r1 p0_0))])) st42 ?_
  refine own_s (g' := (mkF m 6 #[.val (.int p0_0), .val (.int p0_1), .val (.int p0_2), .val (.int p0_3), .val (.int (t0_4 p0_0)), .unset, .unset, .unset, .unset, .unset, .unset, .unset] [])) (fun _ k => XS.istore X42.here hx rfl (hb hby at_4) rfl (l' := #[.val (.int p0_0), .val (.int p0_1), .val (.int p0_2), .val (.int p0_3), .val (.int (t0_4 p0_0)), .unset, .unset, .unset, .unset, .unset, .unset, .unset]) rfl k) ?_
  refine own_s (g' := (mkF m 7 #[.val (.int p0_0), .val (.int p0_1), .val (.int p0_2), .val (.int p0_3), .val (.int (t0_4 p0_0)), .unset, .unset, .unset, .unset, .unset, .unset, .unset] [(.int p0_1)])) (fun _ k => XS.iloadN X42.here hx rfl (hb hby at_6) rfl k) ?_
  obtain ⟨_, _, ⟨T43, L43, k43, n43⟩, -, X43, ⟨Lc43, hQ43, l43, y43, z43⟩, st43⟩ := Jvm.LawKit.callS X42 hx (y := (⟨"com/example/burn_to_balance/burntobalance/io/LineCountTakePinLaw", "ch", "(I)C"⟩ : MethodName)) hown (mvT hZ ww0) (mvT hZ ww1) (mvT hZ ww2) (mvT hZ ww3) (by decide) (backOf (W := 0) (rm1 l Z a0 hw [] p0_1 h0 n0 Z0 ) hZ ww3 ww2 (by decide) (by decide)) (g := (mkF m 7 #[.val (.int p0_0), .val (.int p0_1), .val (.int p0_2), .val (.int p0_3), .val (.int (t0_4 p0_0)), .unset, .unset, .unset, .unset, .unset, .unset, .unset] [(.int p0_1)])) rfl (by rw [hml]; rfl) (argsL := [(.int p0_1)]) (rest := []) (lenOf pd__I_C rfl) rfl (by show 2 * 0 + _ ≤ _; exact Nat.le_of_eq rfl) (hb hby at_7) (fun _ _ => ⟨rfl, eh42, (by decide : 0 + 0 ≤ _), (by decide : 0 + 0 ≤ _)⟩)
  dsimp only [Pt.U, Pt.locs, Pt.cells, Pt.slots] at X43 l43 y43 z43 st43 hQ43
  subst l43 y43 z43
  obtain ⟨rfl, N43q, eh43⟩ := hQ43
  have N43 := Fr.app N42 N43q
  refine own_s (g' := (mkF m 10 #[.val (.int p0_0), .val (.int p0_1), .val (.int p0_2), .val (.int p0_3), .val (.int (t0_4 p0_0)), .unset, .unset, .unset, .unset, .unset, .unset, .unset] [(.int (r1 p0_1))])) st43 ?_
  refine own_s (g' := (mkF m 12 #[.val (.int p0_0), .val (.int p0_1), .val (.int p0_2), .val (.int p0_3), .val (.int (t0_4 p0_0)), .val (.int (t0_10 p0_1)), .unset, .unset, .unset, .unset, .unset, .unset] [])) (fun _ k => XS.istore X43.here hx rfl (hb hby at_10) rfl (l' := #[.val (.int p0_0), .val (.int p0_1), .val (.int p0_2), .val (.int p0_3), .val (.int (t0_4 p0_0)), .val (.int (t0_10 p0_1)), .unset, .unset, .unset, .unset, .unset, .unset]) rfl k) ?_
  refine own_s (g' := (mkF m 13 #[.val (.int p0_0), .val (.int p0_1), .val (.int p0_2), .val (.int p0_3), .val (.int (t0_4 p0_0)), .val (.int (t0_10 p0_1)), .unset, .unset, .unset, .unset, .unset, .unset] [(.int p0_2)])) (fun _ k => XS.iloadN X43.here hx rfl (hb hby at_12) rfl k) ?_
  obtain ⟨_, _, ⟨T44, L44, k44, n44⟩, -, X44, ⟨Lc44, hQ44, l44, y44, z44⟩, st44⟩ := Jvm.LawKit.callS X43 hx (y := (⟨"com/example/burn_to_balance/burntobalance/io/LineCountTakePinLaw", "ch", "(I)C"⟩ : MethodName)) hown (mvT hZ ww0) (mvT hZ ww1) (mvT hZ ww2) (mvT hZ ww3) (by decide) (backOf (W := 0) (rm1 l Z a0 hw [] p0_2 h0 n0 Z0 ) hZ ww3 ww2 (by decide) (by decide)) (g := (mkF m 13 #[.val (.int p0_0), .val (.int p0_1), .val (.int p0_2), .val (.int p0_3), .val (.int (t0_4 p0_0)), .val (.int (t0_10 p0_1)), .unset, .unset, .unset, .unset, .unset, .unset] [(.int p0_2)])) rfl (by rw [hml]; rfl) (argsL := [(.int p0_2)]) (rest := []) (lenOf pd__I_C rfl) rfl (by show 2 * 0 + _ ≤ _; exact Nat.le_of_eq rfl) (hb hby at_13) (fun _ _ => ⟨rfl, eh43, (by decide : 0 + 0 ≤ _), (by decide : 0 + 0 ≤ _)⟩)
  dsimp only [Pt.U, Pt.locs, Pt.cells, Pt.slots] at X44 l44 y44 z44 st44 hQ44
  subst l44 y44 z44
  obtain ⟨rfl, N44q, eh44⟩ := hQ44
  have N44 := Fr.app N43 N44q
  refine own_s (g' := (mkF m 16 #[.val (.int p0_0), .val (.int p0_1), .val (.int p0_2), .val (.int p0_3), .val (.int (t0_4 p0_0)), .val (.int (t0_10 p0_1)), .unset, .unset, .unset, .unset, .unset, .unset] [(.int (r1 p0_2))])) st44 ?_
  refine own_s (g' := (mkF m 18 #[.val (.int p0_0), .val (.int p0_1), .val (.int p0_2), .val (.int p0_3), .val (.int (t0_4 p0_0)), .val (.int (t0_10 p0_1)), .val (.int (t0_16 p0_2)), .unset, .unset, .unset, .unset, .unset] [])) (fun _ k => XS.istore X44.here hx rfl (hb hby at_16) rfl (l' := #[.val (.int p0_0), .val (.int p0_1), .val (.int p0_2), .val (.int p0_3), .val (.int (t0_4 p0_0)), .val (.int (t0_10 p0_1)), .val (.int (t0_16 p0_2)), .unset, .unset, .unset, .unset, .unset]) rfl k) ?_
  refine own_s (g' := (mkF m 19 #[.val (.int p0_0), .val (.int p0_1), .val (.int p0_2), .val (.int p0_3), .val (.int (t0_4 p0_0)), .val (.int (t0_10 p0_1)), .val (.int (t0_16 p0_2)), .unset, .unset, .unset, .unset, .unset] [(.int p0_3)])) (fun _ k => XS.iloadN X44.here hx rfl (hb hby at_18) rfl k) ?_
  obtain ⟨_, _, ⟨T45, L45, k45, n45⟩, -, X45, ⟨Lc45, hQ45, l45, y45, z45⟩, st45⟩ := Jvm.LawKit.callS X44 hx (y := (⟨"com/example/burn_to_balance/burntobalance/io/LineCountTakePinLaw", "ch", "(I)C"⟩ : MethodName)) hown (mvT hZ ww0) (mvT hZ ww1) (mvT hZ ww2) (mvT hZ ww3) (by decide) (backOf (W := 0) (rm1 l Z a0 hw [] p0_3 h0 n0 Z0 ) hZ ww3 ww2 (by decide) (by decide)) (g := (mkF m 19 #[.val (.int p0_0), .val (.int p0_1), .val (.int p0_2), .val (.int p0_3), .val (.int (t0_4 p0_0)), .val (.int (t0_10 p0_1)), .val (.int (t0_16 p0_2)), .unset, .unset, .unset, .unset, .unset] [(.int p0_3)])) rfl (by rw [hml]; rfl) (argsL := [(.int p0_3)]) (rest := []) (lenOf pd__I_C rfl) rfl (by show 2 * 0 + _ ≤ _; exact Nat.le_of_eq rfl) (hb hby at_19) (fun _ _ => ⟨rfl, eh44, (by decide : 0 + 0 ≤ _), (by decide : 0 + 0 ≤ _)⟩)
  dsimp only [Pt.U, Pt.locs, Pt.cells, Pt.slots] at X45 l45 y45 z45 st45 hQ45
  subst l45 y45 z45
  obtain ⟨rfl, N45q, eh45⟩ := hQ45
  have N45 := Fr.app N44 N45q
  refine own_s (g' := (mkF m 22 #[.val (.int p0_0), .val (.int p0_1), .val (.int p0_2), .val (.int p0_3), .val (.int (t0_4 p0_0)), .val (.int (t0_10 p0_1)), .val (.int (t0_16 p0_2)), .unset, .unset, .unset, .unset, .unset] [(.int (r1 p0_3))])) st45 ?_
  refine own_s (g' := (mkF m 24 #[.val (.int p0_0), .val (.int p0_1), .val (.int p0_2), .val (.int p0_3), .val (.int (t0_4 p0_0)), .val (.int (t0_10 p0_1)), .val (.int (t0_16 p0_2)), .val (.int (t0_22 p0_3)), .unset, .unset, .unset, .unset] [])) (fun _ k => XS.istore X45.here hx rfl (hb hby at_22) rfl (l' := #[.val (.int p0_0), .val (.int p0_1), .val (.int p0_2), .val (.int p0_3), .val (.int (t0_4 p0_0)), .val (.int (t0_10 p0_1)), .val (.int (t0_16 p0_2)), .val (.int (t0_22 p0_3)), .unset, .unset, .unset, .unset]) rfl k) ?_
  obtain ⟨T46, h46, X46, e46, E46, A46, D46, -, st46⟩ := newO X45 hx hZ hown ww4 ww5 ww6 eh45 (g := (mkF m 24 #[.val (.int p0_0), .val (.int p0_1), .val (.int p0_2), .val (.int p0_3), .val (.int (t0_4 p0_0)), .val (.int (t0_10 p0_1)), .val (.int (t0_16 p0_2)), .val (.int (t0_22 p0_3)), .unset, .unset, .unset, .unset] [])) rfl (hb hby at_24) (by decide) (by decide)
  obtain ⟨b46, ga46⟩ : ∃ z, z = h0.size := ⟨_, rfl⟩
  rw [← ga46] at A46 D46 st46
  have g_b46 := Nat.le_trans Z0 (Nat.le_of_eq ga46.symm)
  have sz_b46 := Nat.le_trans K0.1 (Nat.le_of_eq ga46.symm)
  have f46_line : Fld Z h46 b46 "com/example/burn_to_balance/burntobalance/io/LineCount" "line" "J" (.long 0) := D46 (Or.inl ww14) (ty := .long) (by decide)
  have f46_afterReturn : Fld Z h46 b46 "com/example/burn_to_balance/burntobalance/io/LineCount" "afterReturn" "Z" (.int 0) := D46 (Or.inl ww29) (ty := .boolean) (by decide)
  have K46 := K0.ext E46
  refine own_s (g' := (mkF m 27 #[.val (.int p0_0), .val (.int p0_1), .val (.int p0_2), .val (.int p0_3), .val (.int (t0_4 p0_0)), .val (.int (t0_10 p0_1)), .val (.int (t0_16 p0_2)), .val (.int (t0_22 p0_3)), .unset, .unset, .unset, .unset] [(.ref b46)])) st46 ?_
  refine own_s (g' := (mkF m 28 #[.val (.int p0_0), .val (.int p0_1), .val (.int p0_2), .val (.int p0_3), .val (.int (t0_4 p0_0)), .val (.int (t0_10 p0_1)), .val (.int (t0_16 p0_2)), .val (.int (t0_22 p0_3)), .unset, .unset, .unset, .unset] [(.ref b46), (.ref b46)])) (fun _ k => XS.dup X46.here hx rfl (hb hby at_27) rfl rfl k) ?_
  obtain ⟨_, _, ⟨T47, L47, k47, n47⟩, -, X47, ⟨Lc47, hQ47, l47, y47, z47⟩, st47⟩ := X46.specialBack hx (y := (⟨"com/example/burn_to_balance/burntobalance/io/LineCount", "<init>", "()V"⟩ : MethodName)) rfl hown (mvT hZ ww7) (mvT hZ ww8) (mvT hZ ww9) (by decide) (backOf (W := 1) (rm2 l Z a0 hw [] b46 (0 : Int64) (0 : Int32) h46 n0 (Nat.le_trans Z0 K46.1) f46_line f46_afterReturn A46 g_b46) hZ ww9 ww6 (by decide) (by decide)) (g := (mkF m 28 #[.val (.int p0_0), .val (.int p0_1), .val (.int p0_2), .val (.int p0_3), .val (.int (t0_4 p0_0)), .val (.int (t0_10 p0_1)), .val (.int (t0_16 p0_2)), .val (.int (t0_22 p0_3)), .unset, .unset, .unset, .unset] [(.ref b46), (.ref b46)])) rfl (by rw [hml]; rfl) (Steps.refl _) (a := b46) (argsL := []) (rest := [(.ref b46)]) (lenOf pd___V rfl) rfl (by show 2 * 0 + _ ≤ _; exact Nat.le_of_eq rfl) (hb hby at_28) (fun _ _ => ⟨rfl, e46, (by decide : 1 + 0 ≤ _), (by decide : 2 + 0 ≤ _)⟩)
  dsimp only [Pt.U, Pt.locs, Pt.cells, Pt.slots] at X47 l47 y47 z47 st47 hQ47
  subst l47 y47 z47
  obtain ⟨rfl, N47q, K47q, f48, f49, f50⟩ := hQ47
  have K47 := K46.trans K47q (allS (Or.inr sz_b46) all0)
  have N47 := Fr.app N45 N47q
  refine own_trans (g' := (mkF m 31 #[.val (.int p0_0), .val (.int p0_1), .val (.int p0_2), .val (.int p0_3), .val (.int (t0_4 p0_0)), .val (.int (t0_10 p0_1)), .val (.int (t0_16 p0_2)), .val (.int (t0_22 p0_3)), .unset, .unset, .unset, .unset] [(.ref b46)])) st47 ?_
  refine own_s (g' := (mkF m 33 #[.val (.int p0_0), .val (.int p0_1), .val (.int p0_2), .val (.int p0_3), .val (.int (t0_4 p0_0)), .val (.int (t0_10 p0_1)), .val (.int (t0_16 p0_2)), .val (.int (t0_22 p0_3)), .val (.ref b46), .unset, .unset, .unset] [])) (fun _ k => XS.astore X47.here hx rfl (hb hby at_31) rfl rfl (l' := #[.val (.int p0_0), .val (.int p0_1), .val (.int p0_2), .val (.int p0_3), .val (.int (t0_4 p0_0)), .val (.int (t0_10 p0_1)), .val (.int (t0_16 p0_2)), .val (.int (t0_22 p0_3)), .val (.ref b46), .unset, .unset, .unset]) rfl k) ?_
  refine own_s (g' := (mkF m 35 #[.val (.int p0_0), .val (.int p0_1), .val (.int p0_2), .val (.int p0_3), .val (.int (t0_4 p0_0)), .val (.int (t0_10 p0_1)), .val (.int (t0_16 p0_2)), .val (.int (t0_22 p0_3)), .val (.ref b46), .unset, .unset, .unset] [(.ref b46)])) (fun _ k => XS.aload X47.here hx rfl (hb hby at_33) rfl rfl k) ?_
  obtain ⟨cq51, kq51, q51a, q51b, q51c⟩ := isOf hZ rfl f48
  obtain ⟨_, _, ⟨T51, L51, k51, n51⟩, -, X51, ⟨Lc51, hQ51, l51, y51, z51⟩, st51⟩ := X47.virtualBack hx (y := (⟨"com/example/burn_to_balance/burntobalance/io/LineCount", "line", "()J"⟩ : MethodName)) (z := (⟨"com/example/burn_to_balance/burntobalance/io/LineCount", "line", "()J"⟩ : MethodName)) hown (mvT hZ ww15) (mvT hZ ww16) (notFace_of_selects (args := #[]) (mvT hZ ww18)) (mvT hZ ww18) (mvT hZ ww17) (by decide) (backOf (W := 0) (rm4 l Z a0 hw [] b46 (1 : Int64) T47.heap n0 (Nat.le_trans Z0 K47.1) f50) hZ ww19 ww6 (by decide) (by decide)) q51a q51c (g := (mkF m 35 #[.val (.int p0_0), .val (.int p0_1), .val (.int p0_2), .val (.int p0_3), .val (.int (t0_4 p0_0)), .val (.int (t0_10 p0_1)), .val (.int (t0_16 p0_2)), .val (.int (t0_22 p0_3)), .val (.ref b46), .unset, .unset, .unset] [(.ref b46)])) rfl (by rw [hml]; rfl) (Steps.refl _) (argsL := []) (rest := []) (lenOf pd___J rfl) rfl (by show 2 * 0 + _ ≤ _; exact Nat.le_of_eq rfl) (hb hby at_35) (fun _ _ => ⟨rfl, rfl, (by decide : 1 + 0 ≤ _), (by decide : 2 + 0 ≤ _)⟩)
  dsimp only [Pt.U, Pt.locs, Pt.cells, Pt.slots] at X51 l51 y51 z51 st51 hQ51
  subst l51 y51 z51
  obtain ⟨rfl, N51q, eh51⟩ := hQ51
  have N51 := Fr.app N47 N51q
  refine own_trans (g' := (mkF m 38 #[.val (.int p0_0), .val (.int p0_1), .val (.int p0_2), .val (.int p0_3), .val (.int (t0_4 p0_0)), .val (.int (t0_10 p0_1)), .val (.int (t0_16 p0_2)), .val (.int (t0_22 p0_3)), .val (.ref b46), .unset, .unset, .unset] [(.long 1)])) st51 ?_
  refine own_s (g' := (mkF m 39 #[.val (.int p0_0), .val (.int p0_1), .val (.int p0_2), .val (.int p0_3), .val (.int (t0_4 p0_0)), .val (.int (t0_10 p0_1)), .val (.int (t0_16 p0_2)), .val (.int (t0_22 p0_3)), .val (.ref b46), .unset, .unset, .unset] [(.long 1), (.long 1)])) (fun _ k => XS.lconst X51.here hx rfl (hb hby at_38) k) ?_
  refine own_s (g' := (mkF m 40 #[.val (.int p0_0), .val (.int p0_1), .val (.int p0_2), .val (.int p0_3), .val (.int (t0_4 p0_0)), .val (.int (t0_10 p0_1)), .val (.int (t0_16 p0_2)), .val (.int (t0_22 p0_3)), .val (.ref b46), .unset, .unset, .unset] [(.int (lcmpW (1 : Int64) (1 : Int64)))])) (fun _ k => XS.lcmp X51.here hx rfl (hb hby at_39) rfl k) ?_
  refine own_s (g' := (mkF m 43 #[.val (.int p0_0), .val (.int p0_1), .val (.int p0_2), .val (.int p0_3), .val (.int (t0_4 p0_0)), .val (.int (t0_10 p0_1)), .val (.int (t0_16 p0_2)), .val (.int (t0_22 p0_3)), .val (.ref b46), .unset, .unset, .unset] [])) (fun _ k => XS.ifNo X51.here hx rfl (hb hby at_40) rfl ((if0 _ _).trans (teq ((lw_eq (1 : Int64) (1 : Int64)).mpr (by decide))).2) k) ?_
  refine own_s (g' := (mkF m 44 #[.val (.int p0_0), .val (.int p0_1), .val (.int p0_2), .val (.int p0_3), .val (.int (t0_4 p0_0)), .val (.int (t0_10 p0_1)), .val (.int (t0_16 p0_2)), .val (.int (t0_22 p0_3)), .val (.ref b46), .unset, .unset, .unset] [(.int 1)])) (fun _ k => XS.iconst X51.here hx rfl (hb hby at_43) k) ?_
  refine own_s (g' := (mkF m 48 #[.val (.int p0_0), .val (.int p0_1), .val (.int p0_2), .val (.int p0_3), .val (.int (t0_4 p0_0)), .val (.int (t0_10 p0_1)), .val (.int (t0_16 p0_2)), .val (.int (t0_22 p0_3)), .val (.ref b46), .unset, .unset, .unset] [(.int 1)])) (fun _ k => XS.goto X51.here hx rfl (pc0 := 44) (pc' := 48) rfl (hb hby at_44) (by decide) (by decide) k) ?_
  refine own_s (g' := (mkF m 50 #[.val (.int p0_0), .val (.int p0_1), .val (.int p0_2), .val (.int p0_3), .val (.int (t0_4 p0_0)), .val (.int (t0_10 p0_1)), .val (.int (t0_16 p0_2)), .val (.int (t0_22 p0_3)), .val (.ref b46), .val (.int 1), .unset, .unset] [])) (fun _ k => XS.istore X51.here hx rfl (hb hby at_48) rfl (l' := #[.val (.int p0_0), .val (.int p0_1), .val (.int p0_2), .val (.int p0_3), .val (.int (t0_4 p0_0)), .val (.int (t0_10 p0_1)), .val (.int (t0_16 p0_2)), .val (.int (t0_22 p0_3)), .val (.ref b46), .val (.int 1), .unset, .unset]) rfl k) ?_
  refine own_s (g' := (mkF m 51 #[.val (.int p0_0), .val (.int p0_1), .val (.int p0_2), .val (.int p0_3), .val (.int (t0_4 p0_0)), .val (.int (t0_10 p0_1)), .val (.int (t0_16 p0_2)), .val (.int (t0_22 p0_3)), .val (.ref b46), .val (.int 1), .unset, .unset] [(.long 1)])) (fun _ k => XS.lconst X51.here hx rfl (hb hby at_50) k) ?_
  refine own_s (g' := (mkF m 52 #[.val (.int p0_0), .val (.int p0_1), .val (.int p0_2), .val (.int p0_3), .val (.int (t0_4 p0_0)), .val (.int (t0_10 p0_1)), .val (.int (t0_16 p0_2)), .val (.int (t0_22 p0_3)), .val (.ref b46), .val (.int 1), .unset, .unset] [(.int (-1)), (.long 1)])) (fun _ k => XS.iconst X51.here hx rfl (hb hby at_51) k) ?_
  refine own_s (g' := (mkF m 54 #[.val (.int p0_0), .val (.int p0_1), .val (.int p0_2), .val (.int p0_3), .val (.int (t0_4 p0_0)), .val (.int (t0_10 p0_1)), .val (.int (t0_16 p0_2)), .val (.int (t0_22 p0_3)), .val (.ref b46), .val (.int 1), .unset, .unset] [(.int (t0_4 p0_0)), (.int (-1)), (.long 1)])) (fun _ k => XS.iload X51.here hx rfl (hb hby at_52) rfl k) ?_
  obtain ⟨_, _, ⟨T52, L52, k52, n52⟩, -, X52, ⟨Lc52, hQ52, l52, y52, z52⟩, st52⟩ := Jvm.LawKit.callS X51 hx (y := (⟨"com/example/burn_to_balance/burntobalance/io/LineCountTakePinLaw", "step", "(IC)J"⟩ : MethodName)) hown (mvT hZ ww20) (mvT hZ ww21) (mvT hZ ww2) (mvT hZ ww22) (by decide) (backOf (W := 2) (rm5 l Z a0 hw [] (-1 : Int32) (t0_4 p0_0) T47.heap n0 (Nat.le_trans Z0 K47.1) ) hZ ww22 ww2 (by decide) (by decide)) (g := (mkF m 54 #[.val (.int p0_0), .val (.int p0_1), .val (.int p0_2), .val (.int p0_3), .val (.int (t0_4 p0_0)), .val (.int (t0_10 p0_1)), .val (.int (t0_16 p0_2)), .val (.int (t0_22 p0_3)), .val (.ref b46), .val (.int 1), .unset, .unset] [(.int (t0_4 p0_0)), (.int (-1)), (.long 1)])) rfl (by rw [hml]; rfl) (argsL := [(.int (-1)), (.int (t0_4 p0_0))]) (rest := [(.long 1)]) (lenOf pd__IC_J rfl) rfl (by show 2 * 0 + _ ≤ _; exact Nat.le_of_eq rfl) (hb hby at_54) (fun _ _ => ⟨rfl, eh51, (by decide : 1 + 0 ≤ _), (by decide : 2 + 0 ≤ _)⟩)
  dsimp only [Pt.U, Pt.locs, Pt.cells, Pt.slots] at X52 l52 y52 z52 st52 hQ52
  subst l52 y52 z52
  obtain ⟨rfl, N52q, eh52⟩ := hQ52
  have N52 := Fr.app N51 N52q
  refine own_s (g' := (mkF m 57 #[.val (.int p0_0), .val (.int p0_1), .val (.int p0_2), .val (.int p0_3), .val (.int (t0_4 p0_0)), .val (.int (t0_10 p0_1)), .val (.int (t0_16 p0_2)), .val (.int (t0_22 p0_3)), .val (.ref b46), .val (.int 1), .unset, .unset] [(.long (r5 (-1 : Int32) (t0_4 p0_0))), (.long 1)])) st52 ?_
  refine own_s (g' := (mkF m 58 #[.val (.int p0_0), .val (.int p0_1), .val (.int p0_2), .val (.int p0_3), .val (.int (t0_4 p0_0)), .val (.int (t0_10 p0_1)), .val (.int (t0_16 p0_2)), .val (.int (t0_22 p0_3)), .val (.ref b46), .val (.int 1), .unset, .unset] [(.long ((1 : Int64) + (r5 (-1 : Int32) (t0_4 p0_0))))])) (fun _ k => XS.ladd X52.here hx rfl (hb hby at_57) rfl k) ?_
  refine own_s (g' := (mkF m 60 #[.val (.int p0_0), .val (.int p0_1), .val (.int p0_2), .val (.int p0_3), .val (.int (t0_4 p0_0)), .val (.int (t0_10 p0_1)), .val (.int (t0_16 p0_2)), .val (.int (t0_22 p0_3)), .val (.ref b46), .val (.int 1), .val (.long ((1 : Int64) + (r5 (-1 : Int32) (t0_4 p0_0)))), .second] [])) (fun _ k => XS.lstore X52.here hx rfl (hb hby at_58) rfl (l' := #[.val (.int p0_0), .val (.int p0_1), .val (.int p0_2), .val (.int p0_3), .val (.int (t0_4 p0_0)), .val (.int (t0_10 p0_1)), .val (.int (t0_16 p0_2)), .val (.int (t0_22 p0_3)), .val (.ref b46), .val (.int 1), .val (.long ((1 : Int64) + (r5 (-1 : Int32) (t0_4 p0_0)))), .second]) rfl k) ?_
  refine own_s (g' := (mkF m 62 #[.val (.int p0_0), .val (.int p0_1), .val (.int p0_2), .val (.int p0_3), .val (.int (t0_4 p0_0)), .val (.int (t0_10 p0_1)), .val (.int (t0_16 p0_2)), .val (.int (t0_22 p0_3)), .val (.ref b46), .val (.int 1), .val (.long ((1 : Int64) + (r5 (-1 : Int32) (t0_4 p0_0)))), .second] [(.ref b46)])) (fun _ k => XS.aload X52.here hx rfl (hb hby at_60) rfl rfl k) ?_
  refine own_s (g' := (mkF m 64 #[.val (.int p0_0), .val (.int p0_1), .val (.int p0_2), .val (.int p0_3), .val (.int (t0_4 p0_0)), .val (.int (t0_10 p0_1)), .val (.int (t0_16 p0_2)), .val (.int (t0_22 p0_3)), .val (.ref b46), .val (.int 1), .val (.long ((1 : Int64) + (r5 (-1 : Int32) (t0_4 p0_0)))), .second] [(.int (t0_4 p0_0)), (.ref b46)])) (fun _ k => XS.iload X52.here hx rfl (hb hby at_62) rfl k) ?_
  obtain ⟨cq53, kq53, q53a, q53b, q53c⟩ := isOf hZ eh52 f48
  obtain ⟨_, _, ⟨T53, L53, k53, n53⟩, -, X53, ⟨Lc53, hQ53, l53, y53, z53⟩, st53⟩ := X52.virtualBack hx (y := (⟨"com/example/burn_to_balance/burntobalance/io/LineCount", "take", "(C)V"⟩ : MethodName)) (z := (⟨"com/example/burn_to_balance/burntobalance/io/LineCount", "take", "(C)V"⟩ : MethodName)) hown (mvT hZ ww23) (mvT hZ ww24) (notFace_of_selects (args := #[]) (mvT hZ ww26)) (mvT hZ ww26) (mvT hZ ww25) (by decide) (backOf (W := 0) (rm6 l Z a0 hw [] b46 (t0_4 p0_0) (1 : Int64) (0 : Int32) T47.heap n0 (Nat.le_trans Z0 K47.1) f50 f49 f48 g_b46) hZ ww27 ww6 (by decide) (by decide)) q53a q53c (g := (mkF m 64 #[.val (.int p0_0), .val (.int p0_1), .val (.int p0_2), .val (.int p0_3), .val (.int (t0_4 p0_0)), .val (.int (t0_10 p0_1)), .val (.int (t0_16 p0_2)), .val (.int (t0_22 p0_3)), .val (.ref b46), .val (.int 1), .val (.long ((1 : Int64) + (r5 (-1 : Int32) (t0_4 p0_0)))), .second] [(.int (t0_4 p0_0)), (.ref b46)])) rfl (by rw [hml]; rfl) (Steps.refl _) (argsL := [(.int (t0_4 p0_0))]) (rest := []) (lenOf pd__C_V rfl) rfl (by show 2 * 0 + _ ≤ _; exact Nat.le_of_eq rfl) (hb hby at_64) (fun _ _ => ⟨rfl, eh52, (by decide : 1 + 0 ≤ _), (by decide : 2 + 0 ≤ _)⟩)
  dsimp only [Pt.U, Pt.locs, Pt.cells, Pt.slots] at X53 l53 y53 z53 st53 hQ53
  subst l53 y53 z53
  obtain ⟨rfl, N53q, K53q, f54, f55, f56⟩ := hQ53
  have K53 := K47.trans K53q (allS (Or.inr sz_b46) all0)
  have N53 := Fr.app N52 N53q
  refine own_trans (g' := (mkF m 67 #[.val (.int p0_0), .val (.int p0_1), .val (.int p0_2), .val (.int p0_3), .val (.int (t0_4 p0_0)), .val (.int (t0_10 p0_1)), .val (.int (t0_16 p0_2)), .val (.int (t0_22 p0_3)), .val (.ref b46), .val (.int 1), .val (.long ((1 : Int64) + (r5 (-1 : Int32) (t0_4 p0_0)))), .second] [])) st53 ?_
  refine own_s (g' := (mkF m 69 #[.val (.int p0_0), .val (.int p0_1), .val (.int p0_2), .val (.int p0_3), .val (.int (t0_4 p0_0)), .val (.int (t0_10 p0_1)), .val (.int (t0_16 p0_2)), .val (.int (t0_22 p0_3)), .val (.ref b46), .val (.int 1), .val (.long ((1 : Int64) + (r5 (-1 : Int32) (t0_4 p0_0)))), .second] [(.int 1)])) (fun _ k => XS.iload X53.here hx rfl (hb hby at_67) rfl k) ?_
  refine own_s (g' := (mkF m 72 #[.val (.int p0_0), .val (.int p0_1), .val (.int p0_2), .val (.int p0_3), .val (.int (t0_4 p0_0)), .val (.int (t0_10 p0_1)), .val (.int (t0_16 p0_2)), .val (.int (t0_22 p0_3)), .val (.ref b46), .val (.int 1), .val (.long ((1 : Int64) + (r5 (-1 : Int32) (t0_4 p0_0)))), .second] [])) (fun _ k => XS.ifNo X53.here hx rfl (hb hby at_69) rfl ((if0 _ _).trans (feq ((by decide) : ¬ (1 : Int32) = (0 : Int32))).1) k) ?_
  refine own_s (g' := (mkF m 74 #[.val (.int p0_0), .val (.int p0_1), .val (.int p0_2), .val (.int p0_3), .val (.int (t0_4 p0_0)), .val (.int (t0_10 p0_1)), .val (.int (t0_16 p0_2)), .val (.int (t0_22 p0_3)), .val (.ref b46), .val (.int 1), .val (.long ((1 : Int64) + (r5 (-1 : Int32) (t0_4 p0_0)))), .second] [(.ref b46)])) (fun _ k => XS.aload X53.here hx rfl (hb hby at_72) rfl rfl k) ?_
  obtain ⟨cq57, kq57, q57a, q57b, q57c⟩ := isOf hZ rfl f54
  obtain ⟨_, _, ⟨T57, L57, k57, n57⟩, -, X57, ⟨Lc57, hQ57, l57, y57, z57⟩, st57⟩ := X53.virtualBack hx (y := (⟨"com/example/burn_to_balance/burntobalance/io/LineCount", "line", "()J"⟩ : MethodName)) (z := (⟨"com/example/burn_to_balance/burntobalance/io/LineCount", "line", "()J"⟩ : MethodName)) hown (mvT hZ ww15) (mvT hZ ww16) (notFace_of_selects (args := #[]) (mvT hZ ww18)) (mvT hZ ww18) (mvT hZ ww17) (by decide) (backOf (W := 0) (rm4 l Z a0 hw [] b46 (w6_line (t0_4 p0_0) (1 : Int64) (0 : Int32)) T53.heap n0 (Nat.le_trans Z0 K53.1) f55) hZ ww19 ww6 (by decide) (by decide)) q57a q57c (g := (mkF m 74 #[.val (.int p0_0), .val (.int p0_1), .val (.int p0_2), .val (.int p0_3), .val (.int (t0_4 p0_0)), .val (.int (t0_10 p0_1)), .val (.int (t0_16 p0_2)), .val (.int (t0_22 p0_3)), .val (.ref b46), .val (.int 1), .val (.long ((1 : Int64) + (r5 (-1 : Int32) (t0_4 p0_0)))), .second] [(.ref b46)])) rfl (by rw [hml]; rfl) (Steps.refl _) (argsL := []) (rest := []) (lenOf pd___J rfl) rfl (by show 2 * 0 + _ ≤ _; exact Nat.le_of_eq rfl) (hb hby at_74) (fun _ _ => ⟨rfl, rfl, (by decide : 1 + 0 ≤ _), (by decide : 2 + 0 ≤ _)⟩)
  dsimp only [Pt.U, Pt.locs, Pt.cells, Pt.slots] at X57 l57 y57 z57 st57 hQ57
  subst l57 y57 z57
  obtain ⟨rfl, N57q, eh57⟩ := hQ57
  have N57 := Fr.app N53 N57q
  refine own_trans (g' := (mkF m 77 #[.val (.int p0_0), .val (.int p0_1), .val (.int p0_2), .val (.int p0_3), .val (.int (t0_4 p0_0)), .val (.int (t0_10 p0_1)), .val (.int (t0_16 p0_2)), .val (.int (t0_22 p0_3)), .val (.ref b46), .val (.int 1), .val (.long ((1 : Int64) + (r5 (-1 : Int32) (t0_4 p0_0)))), .second] [(.long (w6_line (t0_4 p0_0) (1 : Int64) (0 : Int32)))])) st57 ?_
  refine own_s (g' := (mkF m 79 #[.val (.int p0_0), .val (.int p0_1), .val (.int p0_2), .val (.int p0_3), .val (.int (t0_4 p0_0)), .val (.int (t0_10 p0_1)), .val (.int (t0_16 p0_2)), .val (.int (t0_22 p0_3)), .val (.ref b46), .val (.int 1), .val (.long ((1 : Int64) + (r5 (-1 : Int32) (t0_4 p0_0)))), .second] [(.long ((1 : Int64) + (r5 (-1 : Int32) (t0_4 p0_0)))), (.long (w6_line (t0_4 p0_0) (1 : Int64) (0 : Int32)))])) (fun _ k => XS.lload X57.here hx rfl (hb hby at_77) rfl k) ?_
  refine own_s (g' := (mkF m 80 #[.val (.int p0_0), .val (.int p0_1), .val (.int p0_2), .val (.int p0_3), .val (.int (t0_4 p0_0)), .val (.int (t0_10 p0_1)), .val (.int (t0_16 p0_2)), .val (.int (t0_22 p0_3)), .val (.ref b46), .val (.int 1), .val (.long ((1 : Int64) + (r5 (-1 : Int32) (t0_4 p0_0)))), .second] [(.int (lcmpW (w6_line (t0_4 p0_0) (1 : Int64) (0 : Int32)) ((1 : Int64) + (r5 (-1 : Int32) (t0_4 p0_0)))))])) (fun _ k => XS.lcmp X57.here hx rfl (hb hby at_79) rfl k) ?_
  refine own_s (g' := (mkF m 83 #[.val (.int p0_0), .val (.int p0_1), .val (.int p0_2), .val (.int p0_3), .val (.int (t0_4 p0_0)), .val (.int (t0_10 p0_1)), .val (.int (t0_16 p0_2)), .val (.int (t0_22 p0_3)), .val (.ref b46), .val (.int 1), .val (.long ((1 : Int64) + (r5 (-1 : Int32) (t0_4 p0_0)))), .second] [])) (fun _ k => XS.ifNo X57.here hx rfl (hb hby at_80) rfl ((if0 _ _).trans (teq ((lw_eq (w6_line (t0_4 p0_0) (1 : Int64) (0 : Int32)) ((1 : Int64) + (r5 (-1 : Int32) (t0_4 p0_0)))).mpr (own_take _ (-1) _ _ (by decide)))).2) k) ?_
  refine own_s (g' := (mkF m 84 #[.val (.int p0_0), .val (.int p0_1), .val (.int p0_2), .val (.int p0_3), .val (.int (t0_4 p0_0)), .val (.int (t0_10 p0_1)), .val (.int (t0_16 p0_2)), .val (.int (t0_22 p0_3)), .val (.ref b46), .val (.int 1), .val (.long ((1 : Int64) + (r5 (-1 : Int32) (t0_4 p0_0)))), .second] [(.int 1)])) (fun _ k => XS.iconst X57.here hx rfl (hb hby at_83) k) ?_
  refine own_s (g' := (mkF m 88 #[.val (.int p0_0), .val (.int p0_1), .val (.int p0_2), .val (.int p0_3), .val (.int (t0_4 p0_0)), .val (.int (t0_10 p0_1)), .val (.int (t0_16 p0_2)), .val (.int (t0_22 p0_3)), .val (.ref b46), .val (.int 1), .val (.long ((1 : Int64) + (r5 (-1 : Int32) (t0_4 p0_0)))), .second] [(.int 1)])) (fun _ k => XS.goto X57.here hx rfl (pc0 := 84) (pc' := 88) rfl (hb hby at_84) (by decide) (by decide) k) ?_
  refine own_s (g' := (mkF m 90 #[.val (.int p0_0), .val (.int p0_1), .val (.int p0_2), .val (.int p0_3), .val (.int (t0_4 p0_0)), .val (.int (t0_10 p0_1)), .val (.int (t0_16 p0_2)), .val (.int (t0_22 p0_3)), .val (.ref b46), .val (.int 1), .val (.long ((1 : Int64) + (r5 (-1 : Int32) (t0_4 p0_0)))), .second] [])) (fun _ k => XS.istore X57.here hx rfl (hb hby at_88) rfl (l' := #[.val (.int p0_0), .val (.int p0_1), .val (.int p0_2), .val (.int p0_3), .val (.int (t0_4 p0_0)), .val (.int (t0_10 p0_1)), .val (.int (t0_16 p0_2)), .val (.int (t0_22 p0_3)), .val (.ref b46), .val (.int 1), .val (.long ((1 : Int64) + (r5 (-1 : Int32) (t0_4 p0_0)))), .second]) rfl k) ?_
  refine own_s (g' := (mkF m 92 #[.val (.int p0_0), .val (.int p0_1), .val (.int p0_2), .val (.int p0_3), .val (.int (t0_4 p0_0)), .val (.int (t0_10 p0_1)), .val (.int (t0_16 p0_2)), .val (.int (t0_22 p0_3)), .val (.ref b46), .val (.int 1), .val (.long ((1 : Int64) + (r5 (-1 : Int32) (t0_4 p0_0)))), .second] [(.long ((1 : Int64) + (r5 (-1 : Int32) (t0_4 p0_0))))])) (fun _ k => XS.lload X57.here hx rfl (hb hby at_90) rfl k) ?_
  refine own_s (g' := (mkF m 94 #[.val (.int p0_0), .val (.int p0_1), .val (.int p0_2), .val (.int p0_3), .val (.int (t0_4 p0_0)), .val (.int (t0_10 p0_1)), .val (.int (t0_16 p0_2)), .val (.int (t0_22 p0_3)), .val (.ref b46), .val (.int 1), .val (.long ((1 : Int64) + (r5 (-1 : Int32) (t0_4 p0_0)))), .second] [(.int (t0_4 p0_0)), (.long ((1 : Int64) + (r5 (-1 : Int32) (t0_4 p0_0))))])) (fun _ k => XS.iload X57.here hx rfl (hb hby at_92) rfl k) ?_
  refine own_s (g' := (mkF m 96 #[.val (.int p0_0), .val (.int p0_1), .val (.int p0_2), .val (.int p0_3), .val (.int (t0_4 p0_0)), .val (.int (t0_10 p0_1)), .val (.int (t0_16 p0_2)), .val (.int (t0_22 p0_3)), .val (.ref b46), .val (.int 1), .val (.long ((1 : Int64) + (r5 (-1 : Int32) (t0_4 p0_0)))), .second] [(.int (t0_10 p0_1)), (.int (t0_4 p0_0)), (.long ((1 : Int64) + (r5 (-1 : Int32) (t0_4 p0_0))))])) (fun _ k => XS.iload X57.here hx rfl (hb hby at_94) rfl k) ?_
  obtain ⟨_, _, ⟨T58, L58, k58, n58⟩, -, X58, ⟨Lc58, hQ58, l58, y58, z58⟩, st58⟩ := Jvm.LawKit.callS X57 hx (y := (⟨"com/example/burn_to_balance/burntobalance/io/LineCountTakePinLaw", "step", "(IC)J"⟩ : MethodName)) hown (mvT hZ ww20) (mvT hZ ww21) (mvT hZ ww2) (mvT hZ ww22) (by decide) (backOf (W := 2) (rm5 l Z a0 hw [] (t0_4 p0_0) (t0_10 p0_1) T53.heap n0 (Nat.le_trans Z0 K53.1) ) hZ ww22 ww2 (by decide) (by decide)) (g := (mkF m 96 #[.val (.int p0_0), .val (.int p0_1), .val (.int p0_2), .val (.int p0_3), .val (.int (t0_4 p0_0)), .val (.int (t0_10 p0_1)), .val (.int (t0_16 p0_2)), .val (.int (t0_22 p0_3)), .val (.ref b46), .val (.int 1), .val (.long ((1 : Int64) + (r5 (-1 : Int32) (t0_4 p0_0)))), .second] [(.int (t0_10 p0_1)), (.int (t0_4 p0_0)), (.long ((1 : Int64) + (r5 (-1 : Int32) (t0_4 p0_0))))])) rfl (by rw [hml]; rfl) (argsL := [(.int (t0_4 p0_0)), (.int (t0_10 p0_1))]) (rest := [(.long ((1 : Int64) + (r5 (-1 : Int32) (t0_4 p0_0))))]) (lenOf pd__IC_J rfl) rfl (by show 2 * 0 + _ ≤ _; exact Nat.le_of_eq rfl) (hb hby at_96) (fun _ _ => ⟨rfl, eh57, (by decide : 1 + 0 ≤ _), (by decide : 2 + 0 ≤ _)⟩)
  dsimp only [Pt.U, Pt.locs, Pt.cells, Pt.slots] at X58 l58 y58 z58 st58 hQ58
  subst l58 y58 z58
  obtain ⟨rfl, N58q, eh58⟩ := hQ58
  have N58 := Fr.app N57 N58q
  refine own_s (g' := (mkF m 99 #[.val (.int p0_0), .val (.int p0_1), .val (.int p0_2), .val (.int p0_3), .val (.int (t0_4 p0_0)), .val (.int (t0_10 p0_1)), .val (.int (t0_16 p0_2)), .val (.int (t0_22 p0_3)), .val (.ref b46), .val (.int 1), .val (.long ((1 : Int64) + (r5 (-1 : Int32) (t0_4 p0_0)))), .second] [(.long (r5 (t0_4 p0_0) (t0_10 p0_1))), (.long ((1 : Int64) + (r5 (-1 : Int32) (t0_4 p0_0))))])) st58 ?_
  refine own_s (g' := (mkF m 100 #[.val (.int p0_0), .val (.int p0_1), .val (.int p0_2), .val (.int p0_3), .val (.int (t0_4 p0_0)), .val (.int (t0_10 p0_1)), .val (.int (t0_16 p0_2)), .val (.int (t0_22 p0_3)), .val (.ref b46), .val (.int 1), .val (.long ((1 : Int64) + (r5 (-1 : Int32) (t0_4 p0_0)))), .second] [(.long (((1 : Int64) + (r5 (-1 : Int32) (t0_4 p0_0))) + (r5 (t0_4 p0_0) (t0_10 p0_1))))])) (fun _ k => XS.ladd X58.here hx rfl (hb hby at_99) rfl k) ?_
  refine own_s (g' := (mkF m 102 #[.val (.int p0_0), .val (.int p0_1), .val (.int p0_2), .val (.int p0_3), .val (.int (t0_4 p0_0)), .val (.int (t0_10 p0_1)), .val (.int (t0_16 p0_2)), .val (.int (t0_22 p0_3)), .val (.ref b46), .val (.int 1), .val (.long (((1 : Int64) + (r5 (-1 : Int32) (t0_4 p0_0))) + (r5 (t0_4 p0_0) (t0_10 p0_1)))), .second] [])) (fun _ k => XS.lstore X58.here hx rfl (hb hby at_100) rfl (l' := #[.val (.int p0_0), .val (.int p0_1), .val (.int p0_2), .val (.int p0_3), .val (.int (t0_4 p0_0)), .val (.int (t0_10 p0_1)), .val (.int (t0_16 p0_2)), .val (.int (t0_22 p0_3)), .val (.ref b46), .val (.int 1), .val (.long (((1 : Int64) + (r5 (-1 : Int32) (t0_4 p0_0))) + (r5 (t0_4 p0_0) (t0_10 p0_1)))), .second]) rfl k) ?_
  refine own_s (g' := (mkF m 104 #[.val (.int p0_0), .val (.int p0_1), .val (.int p0_2), .val (.int p0_3), .val (.int (t0_4 p0_0)), .val (.int (t0_10 p0_1)), .val (.int (t0_16 p0_2)), .val (.int (t0_22 p0_3)), .val (.ref b46), .val (.int 1), .val (.long (((1 : Int64) + (r5 (-1 : Int32) (t0_4 p0_0))) + (r5 (t0_4 p0_0) (t0_10 p0_1)))), .second] [(.ref b46)])) (fun _ k => XS.aload X58.here hx rfl (hb hby at_102) rfl rfl k) ?_
  refine own_s (g' := (mkF m 106 #[.val (.int p0_0), .val (.int p0_1), .val (.int p0_2), .val (.int p0_3), .val (.int (t0_4 p0_0)), .val (.int (t0_10 p0_1)), .val (.int (t0_16 p0_2)), .val (.int (t0_22 p0_3)), .val (.ref b46), .val (.int 1), .val (.long (((1 : Int64) + (r5 (-1 : Int32) (t0_4 p0_0))) + (r5 (t0_4 p0_0) (t0_10 p0_1)))), .second] [(.int (t0_10 p0_1)), (.ref b46)])) (fun _ k => XS.iload X58.here hx rfl (hb hby at_104) rfl k) ?_
  obtain ⟨cq59, kq59, q59a, q59b, q59c⟩ := isOf hZ eh58 f54
  obtain ⟨_, _, ⟨T59, L59, k59, n59⟩, -, X59, ⟨Lc59, hQ59, l59, y59, z59⟩, st59⟩ := X58.virtualBack hx (y := (⟨"com/example/burn_to_balance/burntobalance/io/LineCount", "take", "(C)V"⟩ : MethodName)) (z := (⟨"com/example/burn_to_balance/burntobalance/io/LineCount", "take", "(C)V"⟩ : MethodName)) hown (mvT hZ ww23) (mvT hZ ww24) (notFace_of_selects (args := #[]) (mvT hZ ww26)) (mvT hZ ww26) (mvT hZ ww25) (by decide) (backOf (W := 0) (rm6 l Z a0 hw [] b46 (t0_10 p0_1) (w6_line (t0_4 p0_0) (1 : Int64) (0 : Int32)) (w6_afterReturn (t0_4 p0_0) (0 : Int32)) T53.heap n0 (Nat.le_trans Z0 K53.1) f55 f56 f54 g_b46) hZ ww27 ww6 (by decide) (by decide)) q59a q59c (g := (mkF m 106 #[.val (.int p0_0), .val (.int p0_1), .val (.int p0_2), .val (.int p0_3), .val (.int (t0_4 p0_0)), .val (.int (t0_10 p0_1)), .val (.int (t0_16 p0_2)), .val (.int (t0_22 p0_3)), .val (.ref b46), .val (.int 1), .val (.long (((1 : Int64) + (r5 (-1 : Int32) (t0_4 p0_0))) + (r5 (t0_4 p0_0) (t0_10 p0_1)))), .second] [(.int (t0_10 p0_1)), (.ref b46)])) rfl (by rw [hml]; rfl) (Steps.refl _) (argsL := [(.int (t0_10 p0_1))]) (rest := []) (lenOf pd__C_V rfl) rfl (by show 2 * 0 + _ ≤ _; exact Nat.le_of_eq rfl) (hb hby at_106) (fun _ _ => ⟨rfl, eh58, (by decide : 1 + 0 ≤ _), (by decide : 2 + 0 ≤ _)⟩)
  dsimp only [Pt.U, Pt.locs, Pt.cells, Pt.slots] at X59 l59 y59 z59 st59 hQ59
  subst l59 y59 z59
  obtain ⟨rfl, N59q, K59q, f60, f61, f62⟩ := hQ59
  have K59 := K53.trans K59q (allS (Or.inr sz_b46) all0)
  have N59 := Fr.app N58 N59q
  refine own_trans (g' := (mkF m 109 #[.val (.int p0_0), .val (.int p0_1), .val (.int p0_2), .val (.int p0_3), .val (.int (t0_4 p0_0)), .val (.int (t0_10 p0_1)), .val (.int (t0_16 p0_2)), .val (.int (t0_22 p0_3)), .val (.ref b46), .val (.int 1), .val (.long (((1 : Int64) + (r5 (-1 : Int32) (t0_4 p0_0))) + (r5 (t0_4 p0_0) (t0_10 p0_1)))), .second] [])) st59 ?_
  refine own_s (g' := (mkF m 111 #[.val (.int p0_0), .val (.int p0_1), .val (.int p0_2), .val (.int p0_3), .val (.int (t0_4 p0_0)), .val (.int (t0_10 p0_1)), .val (.int (t0_16 p0_2)), .val (.int (t0_22 p0_3)), .val (.ref b46), .val (.int 1), .val (.long (((1 : Int64) + (r5 (-1 : Int32) (t0_4 p0_0))) + (r5 (t0_4 p0_0) (t0_10 p0_1)))), .second] [(.int 1)])) (fun _ k => XS.iload X59.here hx rfl (hb hby at_109) rfl k) ?_
  refine own_s (g' := (mkF m 114 #[.val (.int p0_0), .val (.int p0_1), .val (.int p0_2), .val (.int p0_3), .val (.int (t0_4 p0_0)), .val (.int (t0_10 p0_1)), .val (.int (t0_16 p0_2)), .val (.int (t0_22 p0_3)), .val (.ref b46), .val (.int 1), .val (.long (((1 : Int64) + (r5 (-1 : Int32) (t0_4 p0_0))) + (r5 (t0_4 p0_0) (t0_10 p0_1)))), .second] [])) (fun _ k => XS.ifNo X59.here hx rfl (hb hby at_111) rfl ((if0 _ _).trans (feq ((by decide) : ¬ (1 : Int32) = (0 : Int32))).1) k) ?_
  refine own_s (g' := (mkF m 116 #[.val (.int p0_0), .val (.int p0_1), .val (.int p0_2), .val (.int p0_3), .val (.int (t0_4 p0_0)), .val (.int (t0_10 p0_1)), .val (.int (t0_16 p0_2)), .val (.int (t0_22 p0_3)), .val (.ref b46), .val (.int 1), .val (.long (((1 : Int64) + (r5 (-1 : Int32) (t0_4 p0_0))) + (r5 (t0_4 p0_0) (t0_10 p0_1)))), .second] [(.ref b46)])) (fun _ k => XS.aload X59.here hx rfl (hb hby at_114) rfl rfl k) ?_
  obtain ⟨cq63, kq63, q63a, q63b, q63c⟩ := isOf hZ rfl f60
  obtain ⟨_, _, ⟨T63, L63, k63, n63⟩, -, X63, ⟨Lc63, hQ63, l63, y63, z63⟩, st63⟩ := X59.virtualBack hx (y := (⟨"com/example/burn_to_balance/burntobalance/io/LineCount", "line", "()J"⟩ : MethodName)) (z := (⟨"com/example/burn_to_balance/burntobalance/io/LineCount", "line", "()J"⟩ : MethodName)) hown (mvT hZ ww15) (mvT hZ ww16) (notFace_of_selects (args := #[]) (mvT hZ ww18)) (mvT hZ ww18) (mvT hZ ww17) (by decide) (backOf (W := 0) (rm4 l Z a0 hw [] b46 (w6_line (t0_10 p0_1) (w6_line (t0_4 p0_0) (1 : Int64) (0 : Int32)) (w6_afterReturn (t0_4 p0_0) (0 : Int32))) T59.heap n0 (Nat.le_trans Z0 K59.1) f61) hZ ww19 ww6 (by decide) (by decide)) q63a q63c (g := (mkF m 116 #[.val (.int p0_0), .val (.int p0_1), .val (.int p0_2), .val (.int p0_3), .val (.int (t0_4 p0_0)), .val (.int (t0_10 p0_1)), .val (.int (t0_16 p0_2)), .val (.int (t0_22 p0_3)), .val (.ref b46), .val (.int 1), .val (.long (((1 : Int64) + (r5 (-1 : Int32) (t0_4 p0_0))) + (r5 (t0_4 p0_0) (t0_10 p0_1)))), .second] [(.ref b46)])) rfl (by rw [hml]; rfl) (Steps.refl _) (argsL := []) (rest := []) (lenOf pd___J rfl) rfl (by show 2 * 0 + _ ≤ _; exact Nat.le_of_eq rfl) (hb hby at_116) (fun _ _ => ⟨rfl, rfl, (by decide : 1 + 0 ≤ _), (by decide : 2 + 0 ≤ _)⟩)
  dsimp only [Pt.U, Pt.locs, Pt.cells, Pt.slots] at X63 l63 y63 z63 st63 hQ63
  subst l63 y63 z63
  obtain ⟨rfl, N63q, eh63⟩ := hQ63
  have N63 := Fr.app N59 N63q
  refine own_trans (g' := (mkF m 119 #[.val (.int p0_0), .val (.int p0_1), .val (.int p0_2), .val (.int p0_3), .val (.int (t0_4 p0_0)), .val (.int (t0_10 p0_1)), .val (.int (t0_16 p0_2)), .val (.int (t0_22 p0_3)), .val (.ref b46), .val (.int 1), .val (.long (((1 : Int64) + (r5 (-1 : Int32) (t0_4 p0_0))) + (r5 (t0_4 p0_0) (t0_10 p0_1)))), .second] [(.long (w6_line (t0_10 p0_1) (w6_line (t0_4 p0_0) (1 : Int64) (0 : Int32)) (w6_afterReturn (t0_4 p0_0) (0 : Int32))))])) st63 ?_
  refine own_s (g' := (mkF m 121 #[.val (.int p0_0), .val (.int p0_1), .val (.int p0_2), .val (.int p0_3), .val (.int (t0_4 p0_0)), .val (.int (t0_10 p0_1)), .val (.int (t0_16 p0_2)), .val (.int (t0_22 p0_3)), .val (.ref b46), .val (.int 1), .val (.long (((1 : Int64) + (r5 (-1 : Int32) (t0_4 p0_0))) + (r5 (t0_4 p0_0) (t0_10 p0_1)))), .second] [(.long (((1 : Int64) + (r5 (-1 : Int32) (t0_4 p0_0))) + (r5 (t0_4 p0_0) (t0_10 p0_1)))), (.long (w6_line (t0_10 p0_1) (w6_line (t0_4 p0_0) (1 : Int64) (0 : Int32)) (w6_afterReturn (t0_4 p0_0) (0 : Int32))))])) (fun _ k => XS.lload X63.here hx rfl (hb hby at_119) rfl k) ?_
  refine own_s (g' := (mkF m 122 #[.val (.int p0_0), .val (.int p0_1), .val (.int p0_2), .val (.int p0_3), .val (.int (t0_4 p0_0)), .val (.int (t0_10 p0_1)), .val (.int (t0_16 p0_2)), .val (.int (t0_22 p0_3)), .val (.ref b46), .val (.int 1), .val (.long (((1 : Int64) + (r5 (-1 : Int32) (t0_4 p0_0))) + (r5 (t0_4 p0_0) (t0_10 p0_1)))), .second] [(.int (lcmpW (w6_line (t0_10 p0_1) (w6_line (t0_4 p0_0) (1 : Int64) (0 : Int32)) (w6_afterReturn (t0_4 p0_0) (0 : Int32))) (((1 : Int64) + (r5 (-1 : Int32) (t0_4 p0_0))) + (r5 (t0_4 p0_0) (t0_10 p0_1)))))])) (fun _ k => XS.lcmp X63.here hx rfl (hb hby at_121) rfl k) ?_
  refine own_s (g' := (mkF m 125 #[.val (.int p0_0), .val (.int p0_1), .val (.int p0_2), .val (.int p0_3), .val (.int (t0_4 p0_0)), .val (.int (t0_10 p0_1)), .val (.int (t0_16 p0_2)), .val (.int (t0_22 p0_3)), .val (.ref b46), .val (.int 1), .val (.long (((1 : Int64) + (r5 (-1 : Int32) (t0_4 p0_0))) + (r5 (t0_4 p0_0) (t0_10 p0_1)))), .second] [])) (fun _ k => XS.ifNo X63.here hx rfl (hb hby at_122) rfl ((if0 _ _).trans (teq ((lw_eq (w6_line (t0_10 p0_1) (w6_line (t0_4 p0_0) (1 : Int64) (0 : Int32)) (w6_afterReturn (t0_4 p0_0) (0 : Int32))) (((1 : Int64) + (r5 (-1 : Int32) (t0_4 p0_0))) + (r5 (t0_4 p0_0) (t0_10 p0_1)))).mpr ((own_take _ _ _ _ (own_ar _ _)).trans (congrArg (fun z => z + _) (own_take _ (-1) _ _ (by decide)))))).2) k) ?_
  refine own_s (g' := (mkF m 126 #[.val (.int p0_0), .val (.int p0_1), .val (.int p0_2), .val (.int p0_3), .val (.int (t0_4 p0_0)), .val (.int (t0_10 p0_1)), .val (.int (t0_16 p0_2)), .val (.int (t0_22 p0_3)), .val (.ref b46), .val (.int 1), .val (.long (((1 : Int64) + (r5 (-1 : Int32) (t0_4 p0_0))) + (r5 (t0_4 p0_0) (t0_10 p0_1)))), .second] [(.int 1)])) (fun _ k => XS.iconst X63.here hx rfl (hb hby at_125) k) ?_
  refine own_s (g' := (mkF m 130 #[.val (.int p0_0), .val (.int p0_1), .val (.int p0_2), .val (.int p0_3), .val (.int (t0_4 p0_0)), .val (.int (t0_10 p0_1)), .val (.int (t0_16 p0_2)), .val (.int (t0_22 p0_3)), .val (.ref b46), .val (.int 1), .val (.long (((1 : Int64) + (r5 (-1 : Int32) (t0_4 p0_0))) + (r5 (t0_4 p0_0) (t0_10 p0_1)))), .second] [(.int 1)])) (fun _ k => XS.goto X63.here hx rfl (pc0 := 126) (pc' := 130) rfl (hb hby at_126) (by decide) (by decide) k) ?_
  refine own_s (g' := (mkF m 132 #[.val (.int p0_0), .val (.int p0_1), .val (.int p0_2), .val (.int p0_3), .val (.int (t0_4 p0_0)), .val (.int (t0_10 p0_1)), .val (.int (t0_16 p0_2)), .val (.int (t0_22 p0_3)), .val (.ref b46), .val (.int 1), .val (.long (((1 : Int64) + (r5 (-1 : Int32) (t0_4 p0_0))) + (r5 (t0_4 p0_0) (t0_10 p0_1)))), .second] [])) (fun _ k => XS.istore X63.here hx rfl (hb hby at_130) rfl (l' := #[.val (.int p0_0), .val (.int p0_1), .val (.int p0_2), .val (.int p0_3), .val (.int (t0_4 p0_0)), .val (.int (t0_10 p0_1)), .val (.int (t0_16 p0_2)), .val (.int (t0_22 p0_3)), .val (.ref b46), .val (.int 1), .val (.long (((1 : Int64) + (r5 (-1 : Int32) (t0_4 p0_0))) + (r5 (t0_4 p0_0) (t0_10 p0_1)))), .second]) rfl k) ?_
  refine own_s (g' := (mkF m 134 #[.val (.int p0_0), .val (.int p0_1), .val (.int p0_2), .val (.int p0_3), .val (.int (t0_4 p0_0)), .val (.int (t0_10 p0_1)), .val (.int (t0_16 p0_2)), .val (.int (t0_22 p0_3)), .val (.ref b46), .val (.int 1), .val (.long (((1 : Int64) + (r5 (-1 : Int32) (t0_4 p0_0))) + (r5 (t0_4 p0_0) (t0_10 p0_1)))), .second] [(.long (((1 : Int64) + (r5 (-1 : Int32) (t0_4 p0_0))) + (r5 (t0_4 p0_0) (t0_10 p0_1))))])) (fun _ k => XS.lload X63.here hx rfl (hb hby at_132) rfl k) ?_
  refine own_s (g' := (mkF m 136 #[.val (.int p0_0), .val (.int p0_1), .val (.int p0_2), .val (.int p0_3), .val (.int (t0_4 p0_0)), .val (.int (t0_10 p0_1)), .val (.int (t0_16 p0_2)), .val (.int (t0_22 p0_3)), .val (.ref b46), .val (.int 1), .val (.long (((1 : Int64) + (r5 (-1 : Int32) (t0_4 p0_0))) + (r5 (t0_4 p0_0) (t0_10 p0_1)))), .second] [(.int (t0_10 p0_1)), (.long (((1 : Int64) + (r5 (-1 : Int32) (t0_4 p0_0))) + (r5 (t0_4 p0_0) (t0_10 p0_1))))])) (fun _ k => XS.iload X63.here hx rfl (hb hby at_134) rfl k) ?_
  refine own_s (g' := (mkF m 138 #[.val (.int p0_0), .val (.int p0_1), .val (.int p0_2), .val (.int p0_3), .val (.int (t0_4 p0_0)), .val (.int (t0_10 p0_1)), .val (.int (t0_16 p0_2)), .val (.int (t0_22 p0_3)), .val (.ref b46), .val (.int 1), .val (.long (((1 : Int64) + (r5 (-1 : Int32) (t0_4 p0_0))) + (r5 (t0_4 p0_0) (t0_10 p0_1)))), .second] [(.int (t0_16 p0_2)), (.int (t0_10 p0_1)), (.long (((1 : Int64) + (r5 (-1 : Int32) (t0_4 p0_0))) + (r5 (t0_4 p0_0) (t0_10 p0_1))))])) (fun _ k => XS.iload X63.here hx rfl (hb hby at_136) rfl k) ?_
  obtain ⟨_, _, ⟨T64, L64, k64, n64⟩, -, X64, ⟨Lc64, hQ64, l64, y64, z64⟩, st64⟩ := Jvm.LawKit.callS X63 hx (y := (⟨"com/example/burn_to_balance/burntobalance/io/LineCountTakePinLaw", "step", "(IC)J"⟩ : MethodName)) hown (mvT hZ ww20) (mvT hZ ww21) (mvT hZ ww2) (mvT hZ ww22) (by decide) (backOf (W := 2) (rm5 l Z a0 hw [] (t0_10 p0_1) (t0_16 p0_2) T59.heap n0 (Nat.le_trans Z0 K59.1) ) hZ ww22 ww2 (by decide) (by decide)) (g := (mkF m 138 #[.val (.int p0_0), .val (.int p0_1), .val (.int p0_2), .val (.int p0_3), .val (.int (t0_4 p0_0)), .val (.int (t0_10 p0_1)), .val (.int (t0_16 p0_2)), .val (.int (t0_22 p0_3)), .val (.ref b46), .val (.int 1), .val (.long (((1 : Int64) + (r5 (-1 : Int32) (t0_4 p0_0))) + (r5 (t0_4 p0_0) (t0_10 p0_1)))), .second] [(.int (t0_16 p0_2)), (.int (t0_10 p0_1)), (.long (((1 : Int64) + (r5 (-1 : Int32) (t0_4 p0_0))) + (r5 (t0_4 p0_0) (t0_10 p0_1))))])) rfl (by rw [hml]; rfl) (argsL := [(.int (t0_10 p0_1)), (.int (t0_16 p0_2))]) (rest := [(.long (((1 : Int64) + (r5 (-1 : Int32) (t0_4 p0_0))) + (r5 (t0_4 p0_0) (t0_10 p0_1))))]) (lenOf pd__IC_J rfl) rfl (by show 2 * 0 + _ ≤ _; exact Nat.le_of_eq rfl) (hb hby at_138) (fun _ _ => ⟨rfl, eh63, (by decide : 1 + 0 ≤ _), (by decide : 2 + 0 ≤ _)⟩)
  dsimp only [Pt.U, Pt.locs, Pt.cells, Pt.slots] at X64 l64 y64 z64 st64 hQ64
  subst l64 y64 z64
  obtain ⟨rfl, N64q, eh64⟩ := hQ64
  have N64 := Fr.app N63 N64q
  refine own_s (g' := (mkF m 141 #[.val (.int p0_0), .val (.int p0_1), .val (.int p0_2), .val (.int p0_3), .val (.int (t0_4 p0_0)), .val (.int (t0_10 p0_1)), .val (.int (t0_16 p0_2)), .val (.int (t0_22 p0_3)), .val (.ref b46), .val (.int 1), .val (.long (((1 : Int64) + (r5 (-1 : Int32) (t0_4 p0_0))) + (r5 (t0_4 p0_0) (t0_10 p0_1)))), .second] [(.long (r5 (t0_10 p0_1) (t0_16 p0_2))), (.long (((1 : Int64) + (r5 (-1 : Int32) (t0_4 p0_0))) + (r5 (t0_4 p0_0) (t0_10 p0_1))))])) st64 ?_
  refine own_s (g' := (mkF m 142 #[.val (.int p0_0), .val (.int p0_1), .val (.int p0_2), .val (.int p0_3), .val (.int (t0_4 p0_0)), .val (.int (t0_10 p0_1)), .val (.int (t0_16 p0_2)), .val (.int (t0_22 p0_3)), .val (.ref b46), .val (.int 1), .val (.long (((1 : Int64) + (r5 (-1 : Int32) (t0_4 p0_0))) + (r5 (t0_4 p0_0) (t0_10 p0_1)))), .second] [(.long ((((1 : Int64) + (r5 (-1 : Int32) (t0_4 p0_0))) + (r5 (t0_4 p0_0) (t0_10 p0_1))) + (r5 (t0_10 p0_1) (t0_16 p0_2))))])) (fun _ k => XS.ladd X64.here hx rfl (hb hby at_141) rfl k) ?_
  refine own_s (g' := (mkF m 144 #[.val (.int p0_0), .val (.int p0_1), .val (.int p0_2), .val (.int p0_3), .val (.int (t0_4 p0_0)), .val (.int (t0_10 p0_1)), .val (.int (t0_16 p0_2)), .val (.int (t0_22 p0_3)), .val (.ref b46), .val (.int 1), .val (.long ((((1 : Int64) + (r5 (-1 : Int32) (t0_4 p0_0))) + (r5 (t0_4 p0_0) (t0_10 p0_1))) + (r5 (t0_10 p0_1) (t0_16 p0_2)))), .second] [])) (fun _ k => XS.lstore X64.here hx rfl (hb hby at_142) rfl (l' := #[.val (.int p0_0), .val (.int p0_1), .val (.int p0_2), .val (.int p0_3), .val (.int (t0_4 p0_0)), .val (.int (t0_10 p0_1)), .val (.int (t0_16 p0_2)), .val (.int (t0_22 p0_3)), .val (.ref b46), .val (.int 1), .val (.long ((((1 : Int64) + (r5 (-1 : Int32) (t0_4 p0_0))) + (r5 (t0_4 p0_0) (t0_10 p0_1))) + (r5 (t0_10 p0_1) (t0_16 p0_2)))), .second]) rfl k) ?_
  refine own_s (g' := (mkF m 146 #[.val (.int p0_0), .val (.int p0_1), .val (.int p0_2), .val (.int p0_3), .val (.int (t0_4 p0_0)), .val (.int (t0_10 p0_1)), .val (.int (t0_16 p0_2)), .val (.int (t0_22 p0_3)), .val (.ref b46), .val (.int 1), .val (.long ((((1 : Int64) + (r5 (-1 : Int32) (t0_4 p0_0))) + (r5 (t0_4 p0_0) (t0_10 p0_1))) + (r5 (t0_10 p0_1) (t0_16 p0_2)))), .second] [(.ref b46)])) (fun _ k => XS.aload X64.here hx rfl (hb hby at_144) rfl rfl k) ?_
  refine own_s (g' := (mkF m 148 #[.val (.int p0_0), .val (.int p0_1), .val (.int p0_2), .val (.int p0_3), .val (.int (t0_4 p0_0)), .val (.int (t0_10 p0_1)), .val (.int (t0_16 p0_2)), .val (.int (t0_22 p0_3)), .val (.ref b46), .val (.int 1), .val (.long ((((1 : Int64) + (r5 (-1 : Int32) (t0_4 p0_0))) + (r5 (t0_4 p0_0) (t0_10 p0_1))) + (r5 (t0_10 p0_1) (t0_16 p0_2)))), .second] [(.int (t0_16 p0_2)), (.ref b46)])) (fun _ k => XS.iload X64.here hx rfl (hb hby at_146) rfl k) ?_
  obtain ⟨cq65, kq65, q65a, q65b, q65c⟩ := isOf hZ eh64 f60
  obtain ⟨_, _, ⟨T65, L65, k65, n65⟩, -, X65, ⟨Lc65, hQ65, l65, y65, z65⟩, st65⟩ := X64.virtualBack hx (y := (⟨"com/example/burn_to_balance/burntobalance/io/LineCount", "take", "(C)V"⟩ : MethodName)) (z := (⟨"com/example/burn_to_balance/burntobalance/io/LineCount", "take", "(C)V"⟩ : MethodName)) hown (mvT hZ ww23) (mvT hZ ww24) (notFace_of_selects (args := #[]) (mvT hZ ww26)) (mvT hZ ww26) (mvT hZ ww25) (by decide) (backOf (W := 0) (rm6 l Z a0 hw [] b46 (t0_16 p0_2) (w6_line (t0_10 p0_1) (w6_line (t0_4 p0_0) (1 : Int64) (0 : Int32)) (w6_afterReturn (t0_4 p0_0) (0 : Int32))) (w6_afterReturn (t0_10 p0_1) (w6_afterReturn (t0_4 p0_0) (0 : Int32))) T59.heap n0 (Nat.le_trans Z0 K59.1) f61 f62 f60 g_b46) hZ ww27 ww6 (by decide) (by decide)) q65a q65c (g := (mkF m 148 #[.val (.int p0_0), .val (.int p0_1), .val (.int p0_2), .val (.int p0_3), .val (.int (t0_4 p0_0)), .val (.int (t0_10 p0_1)), .val (.int (t0_16 p0_2)), .val (.int (t0_22 p0_3)), .val (.ref b46), .val (.int 1), .val (.long ((((1 : Int64) + (r5 (-1 : Int32) (t0_4 p0_0))) + (r5 (t0_4 p0_0) (t0_10 p0_1))) + (r5 (t0_10 p0_1) (t0_16 p0_2)))), .second] [(.int (t0_16 p0_2)), (.ref b46)])) rfl (by rw [hml]; rfl) (Steps.refl _) (argsL := [(.int (t0_16 p0_2))]) (rest := []) (lenOf pd__C_V rfl) rfl (by show 2 * 0 + _ ≤ _; exact Nat.le_of_eq rfl) (hb hby at_148) (fun _ _ => ⟨rfl, eh64, (by decide : 1 + 0 ≤ _), (by decide : 2 + 0 ≤ _)⟩)
  dsimp only [Pt.U, Pt.locs, Pt.cells, Pt.slots] at X65 l65 y65 z65 st65 hQ65
  subst l65 y65 z65
  obtain ⟨rfl, N65q, K65q, f66, f67, f68⟩ := hQ65
  have K65 := K59.trans K65q (allS (Or.inr sz_b46) all0)
  have N65 := Fr.app N64 N65q
  refine own_trans (g' := (mkF m 151 #[.val (.int p0_0), .val (.int p0_1), .val (.int p0_2), .val (.int p0_3), .val (.int (t0_4 p0_0)), .val (.int (t0_10 p0_1)), .val (.int (t0_16 p0_2)), .val (.int (t0_22 p0_3)), .val (.ref b46), .val (.int 1), .val (.long ((((1 : Int64) + (r5 (-1 : Int32) (t0_4 p0_0))) + (r5 (t0_4 p0_0) (t0_10 p0_1))) + (r5 (t0_10 p0_1) (t0_16 p0_2)))), .second] [])) st65 ?_
  refine own_s (g' := (mkF m 153 #[.val (.int p0_0), .val (.int p0_1), .val (.int p0_2), .val (.int p0_3), .val (.int (t0_4 p0_0)), .val (.int (t0_10 p0_1)), .val (.int (t0_16 p0_2)), .val (.int (t0_22 p0_3)), .val (.ref b46), .val (.int 1), .val (.long ((((1 : Int64) + (r5 (-1 : Int32) (t0_4 p0_0))) + (r5 (t0_4 p0_0) (t0_10 p0_1))) + (r5 (t0_10 p0_1) (t0_16 p0_2)))), .second] [(.int 1)])) (fun _ k => XS.iload X65.here hx rfl (hb hby at_151) rfl k) ?_
  refine own_s (g' := (mkF m 156 #[.val (.int p0_0), .val (.int p0_1), .val (.int p0_2), .val (.int p0_3), .val (.int (t0_4 p0_0)), .val (.int (t0_10 p0_1)), .val (.int (t0_16 p0_2)), .val (.int (t0_22 p0_3)), .val (.ref b46), .val (.int 1), .val (.long ((((1 : Int64) + (r5 (-1 : Int32) (t0_4 p0_0))) + (r5 (t0_4 p0_0) (t0_10 p0_1))) + (r5 (t0_10 p0_1) (t0_16 p0_2)))), .second] [])) (fun _ k => XS.ifNo X65.here hx rfl (hb hby at_153) rfl ((if0 _ _).trans (feq ((by decide) : ¬ (1 : Int32) = (0 : Int32))).1) k) ?_
  refine own_s (g' := (mkF m 158 #[.val (.int p0_0), .val (.int p0_1), .val (.int p0_2), .val (.int p0_3), .val (.int (t0_4 p0_0)), .val (.int (t0_10 p0_1)), .val (.int (t0_16 p0_2)), .val (.int (t0_22 p0_3)), .val (.ref b46), .val (.int 1), .val (.long ((((1 : Int64) + (r5 (-1 : Int32) (t0_4 p0_0))) + (r5 (t0_4 p0_0) (t0_10 p0_1))) + (r5 (t0_10 p0_1) (t0_16 p0_2)))), .second] [(.ref b46)])) (fun _ k => XS.aload X65.here hx rfl (hb hby at_156) rfl rfl k) ?_
  obtain ⟨cq69, kq69, q69a, q69b, q69c⟩ := isOf hZ rfl f66
  obtain ⟨_, _, ⟨T69, L69, k69, n69⟩, -, X69, ⟨Lc69, hQ69, l69, y69, z69⟩, st69⟩ := X65.virtualBack hx (y := (⟨"com/example/burn_to_balance/burntobalance/io/LineCount", "line", "()J"⟩ : MethodName)) (z := (⟨"com/example/burn_to_balance/burntobalance/io/LineCount", "line", "()J"⟩ : MethodName)) hown (mvT hZ ww15) (mvT hZ ww16) (notFace_of_selects (args := #[]) (mvT hZ ww18)) (mvT hZ ww18) (mvT hZ ww17) (by decide) (backOf (W := 0) (rm4 l Z a0 hw [] b46 (w6_line (t0_16 p0_2) (w6_line (t0_10 p0_1) (w6_line (t0_4 p0_0) (1 : Int64) (0 : Int32)) (w6_afterReturn (t0_4 p0_0) (0 : Int32))) (w6_afterReturn (t0_10 p0_1) (w6_afterReturn (t0_4 p0_0) (0 : Int32)))) T65.heap n0 (Nat.le_trans Z0 K65.1) f67) hZ ww19 ww6 (by decide) (by decide)) q69a q69c (g := (mkF m 158 #[.val (.int p0_0), .val (.int p0_1), .val (.int p0_2), .val (.int p0_3), .val (.int (t0_4 p0_0)), .val (.int (t0_10 p0_1)), .val (.int (t0_16 p0_2)), .val (.int (t0_22 p0_3)), .val (.ref b46), .val (.int 1), .val (.long ((((1 : Int64) + (r5 (-1 : Int32) (t0_4 p0_0))) + (r5 (t0_4 p0_0) (t0_10 p0_1))) + (r5 (t0_10 p0_1) (t0_16 p0_2)))), .second] [(.ref b46)])) rfl (by rw [hml]; rfl) (Steps.refl _) (argsL := []) (rest := []) (lenOf pd___J rfl) rfl (by show 2 * 0 + _ ≤ _; exact Nat.le_of_eq rfl) (hb hby at_158) (fun _ _ => ⟨rfl, rfl, (by decide : 1 + 0 ≤ _), (by decide : 2 + 0 ≤ _)⟩)
  dsimp only [Pt.U, Pt.locs, Pt.cells, Pt.slots] at X69 l69 y69 z69 st69 hQ69
  subst l69 y69 z69
  obtain ⟨rfl, N69q, eh69⟩ := hQ69
  have N69 := Fr.app N65 N69q
  refine own_trans (g' := (mkF m 161 #[.val (.int p0_0), .val (.int p0_1), .val (.int p0_2), .val (.int p0_3), .val (.int (t0_4 p0_0)), .val (.int (t0_10 p0_1)), .val (.int (t0_16 p0_2)), .val (.int (t0_22 p0_3)), .val (.ref b46), .val (.int 1), .val (.long ((((1 : Int64) + (r5 (-1 : Int32) (t0_4 p0_0))) + (r5 (t0_4 p0_0) (t0_10 p0_1))) + (r5 (t0_10 p0_1) (t0_16 p0_2)))), .second] [(.long (w6_line (t0_16 p0_2) (w6_line (t0_10 p0_1) (w6_line (t0_4 p0_0) (1 : Int64) (0 : Int32)) (w6_afterReturn (t0_4 p0_0) (0 : Int32))) (w6_afterReturn (t0_10 p0_1) (w6_afterReturn (t0_4 p0_0) (0 : Int32)))))])) st69 ?_
  refine own_s (g' := (mkF m 163 #[.val (.int p0_0), .val (.int p0_1), .val (.int p0_2), .val (.int p0_3), .val (.int (t0_4 p0_0)), .val (.int (t0_10 p0_1)), .val (.int (t0_16 p0_2)), .val (.int (t0_22 p0_3)), .val (.ref b46), .val (.int 1), .val (.long ((((1 : Int64) + (r5 (-1 : Int32) (t0_4 p0_0))) + (r5 (t0_4 p0_0) (t0_10 p0_1))) + (r5 (t0_10 p0_1) (t0_16 p0_2)))), .second] [(.long ((((1 : Int64) + (r5 (-1 : Int32) (t0_4 p0_0))) + (r5 (t0_4 p0_0) (t0_10 p0_1))) + (r5 (t0_10 p0_1) (t0_16 p0_2)))), (.long (w6_line (t0_16 p0_2) (w6_line (t0_10 p0_1) (w6_line (t0_4 p0_0) (1 : Int64) (0 : Int32)) (w6_afterReturn (t0_4 p0_0) (0 : Int32))) (w6_afterReturn (t0_10 p0_1) (w6_afterReturn (t0_4 p0_0) (0 : Int32)))))])) (fun _ k => XS.lload X69.here hx rfl (hb hby at_161) rfl k) ?_
  refine own_s (g' := (mkF m 164 #[.val (.int p0_0), .val (.int p0_1), .val (.int p0_2), .val (.int p0_3), .val (.int (t0_4 p0_0)), .val (.int (t0_10 p0_1)), .val (.int (t0_16 p0_2)), .val (.int (t0_22 p0_3)), .val (.ref b46), .val (.int 1), .val (.long ((((1 : Int64) + (r5 (-1 : Int32) (t0_4 p0_0))) + (r5 (t0_4 p0_0) (t0_10 p0_1))) + (r5 (t0_10 p0_1) (t0_16 p0_2)))), .second] [(.int (lcmpW (w6_line (t0_16 p0_2) (w6_line (t0_10 p0_1) (w6_line (t0_4 p0_0) (1 : Int64) (0 : Int32)) (w6_afterReturn (t0_4 p0_0) (0 : Int32))) (w6_afterReturn (t0_10 p0_1) (w6_afterReturn (t0_4 p0_0) (0 : Int32)))) ((((1 : Int64) + (r5 (-1 : Int32) (t0_4 p0_0))) + (r5 (t0_4 p0_0) (t0_10 p0_1))) + (r5 (t0_10 p0_1) (t0_16 p0_2)))))])) (fun _ k => XS.lcmp X69.here hx rfl (hb hby at_163) rfl k) ?_
  refine own_s (g' := (mkF m 167 #[.val (.int p0_0), .val (.int p0_1), .val (.int p0_2), .val (.int p0_3), .val (.int (t0_4 p0_0)), .val (.int (t0_10 p0_1)), .val (.int (t0_16 p0_2)), .val (.int (t0_22 p0_3)), .val (.ref b46), .val (.int 1), .val (.long ((((1 : Int64) + (r5 (-1 : Int32) (t0_4 p0_0))) + (r5 (t0_4 p0_0) (t0_10 p0_1))) + (r5 (t0_10 p0_1) (t0_16 p0_2)))), .second] [])) (fun _ k => XS.ifNo X69.here hx rfl (hb hby at_164) rfl ((if0 _ _).trans (teq ((lw_eq (w6_line (t0_16 p0_2) (w6_line (t0_10 p0_1) (w6_line (t0_4 p0_0) (1 : Int64) (0 : Int32)) (w6_afterReturn (t0_4 p0_0) (0 : Int32))) (w6_afterReturn (t0_10 p0_1) (w6_afterReturn (t0_4 p0_0) (0 : Int32)))) ((((1 : Int64) + (r5 (-1 : Int32) (t0_4 p0_0))) + (r5 (t0_4 p0_0) (t0_10 p0_1))) + (r5 (t0_10 p0_1) (t0_16 p0_2)))).mpr ((own_take _ _ _ _ (own_ar _ _)).trans (congrArg (fun z => z + _) ((own_take _ _ _ _ (own_ar _ _)).trans (congrArg (fun z => z + _) (own_take _ (-1) _ _ (by decide)))))))).2) k) ?_
  refine own_s (g' := (mkF m 168 #[.val (.int p0_0), .val (.int p0_1), .val (.int p0_2), .val (.int p0_3), .val (.int (t0_4 p0_0)), .val (.int (t0_10 p0_1)), .val (.int (t0_16 p0_2)), .val (.int (t0_22 p0_3)), .val (.ref b46), .val (.int 1), .val (.long ((((1 : Int64) + (r5 (-1 : Int32) (t0_4 p0_0))) + (r5 (t0_4 p0_0) (t0_10 p0_1))) + (r5 (t0_10 p0_1) (t0_16 p0_2)))), .second] [(.int 1)])) (fun _ k => XS.iconst X69.here hx rfl (hb hby at_167) k) ?_
  refine own_s (g' := (mkF m 172 #[.val (.int p0_0), .val (.int p0_1), .val (.int p0_2), .val (.int p0_3), .val (.int (t0_4 p0_0)), .val (.int (t0_10 p0_1)), .val (.int (t0_16 p0_2)), .val (.int (t0_22 p0_3)), .val (.ref b46), .val (.int 1), .val (.long ((((1 : Int64) + (r5 (-1 : Int32) (t0_4 p0_0))) + (r5 (t0_4 p0_0) (t0_10 p0_1))) + (r5 (t0_10 p0_1) (t0_16 p0_2)))), .second] [(.int 1)])) (fun _ k => XS.goto X69.here hx rfl (pc0 := 168) (pc' := 172) rfl (hb hby at_168) (by decide) (by decide) k) ?_
  refine own_s (g' := (mkF m 174 #[.val (.int p0_0), .val (.int p0_1), .val (.int p0_2), .val (.int p0_3), .val (.int (t0_4 p0_0)), .val (.int (t0_10 p0_1)), .val (.int (t0_16 p0_2)), .val (.int (t0_22 p0_3)), .val (.ref b46), .val (.int 1), .val (.long ((((1 : Int64) + (r5 (-1 : Int32) (t0_4 p0_0))) + (r5 (t0_4 p0_0) (t0_10 p0_1))) + (r5 (t0_10 p0_1) (t0_16 p0_2)))), .second] [])) (fun _ k => XS.istore X69.here hx rfl (hb hby at_172) rfl (l' := #[.val (.int p0_0), .val (.int p0_1), .val (.int p0_2), .val (.int p0_3), .val (.int (t0_4 p0_0)), .val (.int (t0_10 p0_1)), .val (.int (t0_16 p0_2)), .val (.int (t0_22 p0_3)), .val (.ref b46), .val (.int 1), .val (.long ((((1 : Int64) + (r5 (-1 : Int32) (t0_4 p0_0))) + (r5 (t0_4 p0_0) (t0_10 p0_1))) + (r5 (t0_10 p0_1) (t0_16 p0_2)))), .second]) rfl k) ?_
  refine own_s (g' := (mkF m 176 #[.val (.int p0_0), .val (.int p0_1), .val (.int p0_2), .val (.int p0_3), .val (.int (t0_4 p0_0)), .val (.int (t0_10 p0_1)), .val (.int (t0_16 p0_2)), .val (.int (t0_22 p0_3)), .val (.ref b46), .val (.int 1), .val (.long ((((1 : Int64) + (r5 (-1 : Int32) (t0_4 p0_0))) + (r5 (t0_4 p0_0) (t0_10 p0_1))) + (r5 (t0_10 p0_1) (t0_16 p0_2)))), .second] [(.long ((((1 : Int64) + (r5 (-1 : Int32) (t0_4 p0_0))) + (r5 (t0_4 p0_0) (t0_10 p0_1))) + (r5 (t0_10 p0_1) (t0_16 p0_2))))])) (fun _ k => XS.lload X69.here hx rfl (hb hby at_174) rfl k) ?_
  refine own_s (g' := (mkF m 178 #[.val (.int p0_0), .val (.int p0_1), .val (.int p0_2), .val (.int p0_3), .val (.int (t0_4 p0_0)), .val (.int (t0_10 p0_1)), .val (.int (t0_16 p0_2)), .val (.int (t0_22 p0_3)), .val (.ref b46), .val (.int 1), .val (.long ((((1 : Int64) + (r5 (-1 : Int32) (t0_4 p0_0))) + (r5 (t0_4 p0_0) (t0_10 p0_1))) + (r5 (t0_10 p0_1) (t0_16 p0_2)))), .second] [(.int (t0_16 p0_2)), (.long ((((1 : Int64) + (r5 (-1 : Int32) (t0_4 p0_0))) + (r5 (t0_4 p0_0) (t0_10 p0_1))) + (r5 (t0_10 p0_1) (t0_16 p0_2))))])) (fun _ k => XS.iload X69.here hx rfl (hb hby at_176) rfl k) ?_
  refine own_s (g' := (mkF m 180 #[.val (.int p0_0), .val (.int p0_1), .val (.int p0_2), .val (.int p0_3), .val (.int (t0_4 p0_0)), .val (.int (t0_10 p0_1)), .val (.int (t0_16 p0_2)), .val (.int (t0_22 p0_3)), .val (.ref b46), .val (.int 1), .val (.long ((((1 : Int64) + (r5 (-1 : Int32) (t0_4 p0_0))) + (r5 (t0_4 p0_0) (t0_10 p0_1))) + (r5 (t0_10 p0_1) (t0_16 p0_2)))), .second] [(.int (t0_22 p0_3)), (.int (t0_16 p0_2)), (.long ((((1 : Int64) + (r5 (-1 : Int32) (t0_4 p0_0))) + (r5 (t0_4 p0_0) (t0_10 p0_1))) + (r5 (t0_10 p0_1) (t0_16 p0_2))))])) (fun _ k => XS.iload X69.here hx rfl (hb hby at_178) rfl k) ?_
  obtain ⟨_, _, ⟨T70, L70, k70, n70⟩, -, X70, ⟨Lc70, hQ70, l70, y70, z70⟩, st70⟩ := Jvm.LawKit.callS X69 hx (y := (⟨"com/example/burn_to_balance/burntobalance/io/LineCountTakePinLaw", "step", "(IC)J"⟩ : MethodName)) hown (mvT hZ ww20) (mvT hZ ww21) (mvT hZ ww2) (mvT hZ ww22) (by decide) (backOf (W := 2) (rm5 l Z a0 hw [] (t0_16 p0_2) (t0_22 p0_3) T65.heap n0 (Nat.le_trans Z0 K65.1) ) hZ ww22 ww2 (by decide) (by decide)) (g := (mkF m 180 #[.val (.int p0_0), .val (.int p0_1), .val (.int p0_2), .val (.int p0_3), .val (.int (t0_4 p0_0)), .val (.int (t0_10 p0_1)), .val (.int (t0_16 p0_2)), .val (.int (t0_22 p0_3)), .val (.ref b46), .val (.int 1), .val (.long ((((1 : Int64) + (r5 (-1 : Int32) (t0_4 p0_0))) + (r5 (t0_4 p0_0) (t0_10 p0_1))) + (r5 (t0_10 p0_1) (t0_16 p0_2)))), .second] [(.int (t0_22 p0_3)), (.int (t0_16 p0_2)), (.long ((((1 : Int64) + (r5 (-1 : Int32) (t0_4 p0_0))) + (r5 (t0_4 p0_0) (t0_10 p0_1))) + (r5 (t0_10 p0_1) (t0_16 p0_2))))])) rfl (by rw [hml]; rfl) (argsL := [(.int (t0_16 p0_2)), (.int (t0_22 p0_3))]) (rest := [(.long ((((1 : Int64) + (r5 (-1 : Int32) (t0_4 p0_0))) + (r5 (t0_4 p0_0) (t0_10 p0_1))) + (r5 (t0_10 p0_1) (t0_16 p0_2))))]) (lenOf pd__IC_J rfl) rfl (by show 2 * 0 + _ ≤ _; exact Nat.le_of_eq rfl) (hb hby at_180) (fun _ _ => ⟨rfl, eh69, (by decide : 1 + 0 ≤ _), (by decide : 2 + 0 ≤ _)⟩)
  dsimp only [Pt.U, Pt.locs, Pt.cells, Pt.slots] at X70 l70 y70 z70 st70 hQ70
  subst l70 y70 z70
  obtain ⟨rfl, N70q, eh70⟩ := hQ70
  have N70 := Fr.app N69 N70q
  refine own_s (g' := (mkF m 183 #[.val (.int p0_0), .val (.int p0_1), .val (.int p0_2), .val (.int p0_3), .val (.int (t0_4 p0_0)), .val (.int (t0_10 p0_1)), .val (.int (t0_16 p0_2)), .val (.int (t0_22 p0_3)), .val (.ref b46), .val (.int 1), .val (.long ((((1 : Int64) + (r5 (-1 : Int32) (t0_4 p0_0))) + (r5 (t0_4 p0_0) (t0_10 p0_1))) + (r5 (t0_10 p0_1) (t0_16 p0_2)))), .second] [(.long (r5 (t0_16 p0_2) (t0_22 p0_3))), (.long ((((1 : Int64) + (r5 (-1 : Int32) (t0_4 p0_0))) + (r5 (t0_4 p0_0) (t0_10 p0_1))) + (r5 (t0_10 p0_1) (t0_16 p0_2))))])) st70 ?_
  refine own_s (g' := (mkF m 184 #[.val (.int p0_0), .val (.int p0_1), .val (.int p0_2), .val (.int p0_3), .val (.int (t0_4 p0_0)), .val (.int (t0_10 p0_1)), .val (.int (t0_16 p0_2)), .val (.int (t0_22 p0_3)), .val (.ref b46), .val (.int 1), .val (.long ((((1 : Int64) + (r5 (-1 : Int32) (t0_4 p0_0))) + (r5 (t0_4 p0_0) (t0_10 p0_1))) + (r5 (t0_10 p0_1) (t0_16 p0_2)))), .second] [(.long (((((1 : Int64) + (r5 (-1 : Int32) (t0_4 p0_0))) + (r5 (t0_4 p0_0) (t0_10 p0_1))) + (r5 (t0_10 p0_1) (t0_16 p0_2))) + (r5 (t0_16 p0_2) (t0_22 p0_3))))])) (fun _ k => XS.ladd X70.here hx rfl (hb hby at_183) rfl k) ?_
  refine own_s (g' := (mkF m 186 #[.val (.int p0_0), .val (.int p0_1), .val (.int p0_2), .val (.int p0_3), .val (.int (t0_4 p0_0)), .val (.int (t0_10 p0_1)), .val (.int (t0_16 p0_2)), .val (.int (t0_22 p0_3)), .val (.ref b46), .val (.int 1), .val (.long (((((1 : Int64) + (r5 (-1 : Int32) (t0_4 p0_0))) + (r5 (t0_4 p0_0) (t0_10 p0_1))) + (r5 (t0_10 p0_1) (t0_16 p0_2))) + (r5 (t0_16 p0_2) (t0_22 p0_3)))), .second] [])) (fun _ k => XS.lstore X70.here hx rfl (hb hby at_184) rfl (l' := #[.val (.int p0_0), .val (.int p0_1), .val (.int p0_2), .val (.int p0_3), .val (.int (t0_4 p0_0)), .val (.int (t0_10 p0_1)), .val (.int (t0_16 p0_2)), .val (.int (t0_22 p0_3)), .val (.ref b46), .val (.int 1), .val (.long (((((1 : Int64) + (r5 (-1 : Int32) (t0_4 p0_0))) + (r5 (t0_4 p0_0) (t0_10 p0_1))) + (r5 (t0_10 p0_1) (t0_16 p0_2))) + (r5 (t0_16 p0_2) (t0_22 p0_3)))), .second]) rfl k) ?_
  refine own_s (g' := (mkF m 188 #[.val (.int p0_0), .val (.int p0_1), .val (.int p0_2), .val (.int p0_3), .val (.int (t0_4 p0_0)), .val (.int (t0_10 p0_1)), .val (.int (t0_16 p0_2)), .val (.int (t0_22 p0_3)), .val (.ref b46), .val (.int 1), .val (.long (((((1 : Int64) + (r5 (-1 : Int32) (t0_4 p0_0))) + (r5 (t0_4 p0_0) (t0_10 p0_1))) + (r5 (t0_10 p0_1) (t0_16 p0_2))) + (r5 (t0_16 p0_2) (t0_22 p0_3)))), .second] [(.ref b46)])) (fun _ k => XS.aload X70.here hx rfl (hb hby at_186) rfl rfl k) ?_
  refine own_s (g' := (mkF m 190 #[.val (.int p0_0), .val (.int p0_1), .val (.int p0_2), .val (.int p0_3), .val (.int (t0_4 p0_0)), .val (.int (t0_10 p0_1)), .val (.int (t0_16 p0_2)), .val (.int (t0_22 p0_3)), .val (.ref b46), .val (.int 1), .val (.long (((((1 : Int64) + (r5 (-1 : Int32) (t0_4 p0_0))) + (r5 (t0_4 p0_0) (t0_10 p0_1))) + (r5 (t0_10 p0_1) (t0_16 p0_2))) + (r5 (t0_16 p0_2) (t0_22 p0_3)))), .second] [(.int (t0_22 p0_3)), (.ref b46)])) (fun _ k => XS.iload X70.here hx rfl (hb hby at_188) rfl k) ?_
  obtain ⟨cq71, kq71, q71a, q71b, q71c⟩ := isOf hZ eh70 f66
  obtain ⟨_, _, ⟨T71, L71, k71, n71⟩, -, X71, ⟨Lc71, hQ71, l71, y71, z71⟩, st71⟩ := X70.virtualBack hx (y := (⟨"com/example/burn_to_balance/burntobalance/io/LineCount", "take", "(C)V"⟩ : MethodName)) (z := (⟨"com/example/burn_to_balance/burntobalance/io/LineCount", "take", "(C)V"⟩ : MethodName)) hown (mvT hZ ww23) (mvT hZ ww24) (notFace_of_selects (args := #[]) (mvT hZ ww26)) (mvT hZ ww26) (mvT hZ ww25) (by decide) (backOf (W := 0) (rm6 l Z a0 hw [] b46 (t0_22 p0_3) (w6_line (t0_16 p0_2) (w6_line (t0_10 p0_1) (w6_line (t0_4 p0_0) (1 : Int64) (0 : Int32)) (w6_afterReturn (t0_4 p0_0) (0 : Int32))) (w6_afterReturn (t0_10 p0_1) (w6_afterReturn (t0_4 p0_0) (0 : Int32)))) (w6_afterReturn (t0_16 p0_2) (w6_afterReturn (t0_10 p0_1) (w6_afterReturn (t0_4 p0_0) (0 : Int32)))) T65.heap n0 (Nat.le_trans Z0 K65.1) f67 f68 f66 g_b46) hZ ww27 ww6 (by decide) (by decide)) q71a q71c (g := (mkF m 190 #[.val (.int p0_0), .val (.int p0_1), .val (.int p0_2), .val (.int p0_3), .val (.int (t0_4 p0_0)), .val (.int (t0_10 p0_1)), .val (.int (t0_16 p0_2)), .val (.int (t0_22 p0_3)), .val (.ref b46), .val (.int 1), .val (.long (((((1 : Int64) + (r5 (-1 : Int32) (t0_4 p0_0))) + (r5 (t0_4 p0_0) (t0_10 p0_1))) + (r5 (t0_10 p0_1) (t0_16 p0_2))) + (r5 (t0_16 p0_2) (t0_22 p0_3)))), .second] [(.int (t0_22 p0_3)), (.ref b46)])) rfl (by rw [hml]; rfl) (Steps.refl _) (argsL := [(.int (t0_22 p0_3))]) (rest := []) (lenOf pd__C_V rfl) rfl (by show 2 * 0 + _ ≤ _; exact Nat.le_of_eq rfl) (hb hby at_190) (fun _ _ => ⟨rfl, eh70, (by decide : 1 + 0 ≤ _), (by decide : 2 + 0 ≤ _)⟩)
  dsimp only [Pt.U, Pt.locs, Pt.cells, Pt.slots] at X71 l71 y71 z71 st71 hQ71
  subst l71 y71 z71
  obtain ⟨rfl, N71q, K71q, f72, f73, f74⟩ := hQ71
  have K71 := K65.trans K71q (allS (Or.inr sz_b46) all0)
  have N71 := Fr.app N70 N71q
  refine own_trans (g' := (mkF m 193 #[.val (.int p0_0), .val (.int p0_1), .val (.int p0_2), .val (.int p0_3), .val (.int (t0_4 p0_0)), .val (.int (t0_10 p0_1)), .val (.int (t0_16 p0_2)), .val (.int (t0_22 p0_3)), .val (.ref b46), .val (.int 1), .val (.long (((((1 : Int64) + (r5 (-1 : Int32) (t0_4 p0_0))) + (r5 (t0_4 p0_0) (t0_10 p0_1))) + (r5 (t0_10 p0_1) (t0_16 p0_2))) + (r5 (t0_16 p0_2) (t0_22 p0_3)))), .second] [])) st71 ?_
  refine own_s (g' := (mkF m 195 #[.val (.int p0_0), .val (.int p0_1), .val (.int p0_2), .val (.int p0_3), .val (.int (t0_4 p0_0)), .val (.int (t0_10 p0_1)), .val (.int (t0_16 p0_2)), .val (.int (t0_22 p0_3)), .val (.ref b46), .val (.int 1), .val (.long (((((1 : Int64) + (r5 (-1 : Int32) (t0_4 p0_0))) + (r5 (t0_4 p0_0) (t0_10 p0_1))) + (r5 (t0_10 p0_1) (t0_16 p0_2))) + (r5 (t0_16 p0_2) (t0_22 p0_3)))), .second] [(.int 1)])) (fun _ k => XS.iload X71.here hx rfl (hb hby at_193) rfl k) ?_
  refine own_s (g' := (mkF m 198 #[.val (.int p0_0), .val (.int p0_1), .val (.int p0_2), .val (.int p0_3), .val (.int (t0_4 p0_0)), .val (.int (t0_10 p0_1)), .val (.int (t0_16 p0_2)), .val (.int (t0_22 p0_3)), .val (.ref b46), .val (.int 1), .val (.long (((((1 : Int64) + (r5 (-1 : Int32) (t0_4 p0_0))) + (r5 (t0_4 p0_0) (t0_10 p0_1))) + (r5 (t0_10 p0_1) (t0_16 p0_2))) + (r5 (t0_16 p0_2) (t0_22 p0_3)))), .second] [])) (fun _ k => XS.ifNo X71.here hx rfl (hb hby at_195) rfl ((if0 _ _).trans (feq ((by decide) : ¬ (1 : Int32) = (0 : Int32))).1) k) ?_
  refine own_s (g' := (mkF m 200 #[.val (.int p0_0), .val (.int p0_1), .val (.int p0_2), .val (.int p0_3), .val (.int (t0_4 p0_0)), .val (.int (t0_10 p0_1)), .val (.int (t0_16 p0_2)), .val (.int (t0_22 p0_3)), .val (.ref b46), .val (.int 1), .val (.long (((((1 : Int64) + (r5 (-1 : Int32) (t0_4 p0_0))) + (r5 (t0_4 p0_0) (t0_10 p0_1))) + (r5 (t0_10 p0_1) (t0_16 p0_2))) + (r5 (t0_16 p0_2) (t0_22 p0_3)))), .second] [(.ref b46)])) (fun _ k => XS.aload X71.here hx rfl (hb hby at_198) rfl rfl k) ?_
  obtain ⟨cq75, kq75, q75a, q75b, q75c⟩ := isOf hZ rfl f72
  obtain ⟨_, _, ⟨T75, L75, k75, n75⟩, -, X75, ⟨Lc75, hQ75, l75, y75, z75⟩, st75⟩ := X71.virtualBack hx (y := (⟨"com/example/burn_to_balance/burntobalance/io/LineCount", "line", "()J"⟩ : MethodName)) (z := (⟨"com/example/burn_to_balance/burntobalance/io/LineCount", "line", "()J"⟩ : MethodName)) hown (mvT hZ ww15) (mvT hZ ww16) (notFace_of_selects (args := #[]) (mvT hZ ww18)) (mvT hZ ww18) (mvT hZ ww17) (by decide) (backOf (W := 0) (rm4 l Z a0 hw [] b46 (w6_line (t0_22 p0_3) (w6_line (t0_16 p0_2) (w6_line (t0_10 p0_1) (w6_line (t0_4 p0_0) (1 : Int64) (0 : Int32)) (w6_afterReturn (t0_4 p0_0) (0 : Int32))) (w6_afterReturn (t0_10 p0_1) (w6_afterReturn (t0_4 p0_0) (0 : Int32)))) (w6_afterReturn (t0_16 p0_2) (w6_afterReturn (t0_10 p0_1) (w6_afterReturn (t0_4 p0_0) (0 : Int32))))) T71.heap n0 (Nat.le_trans Z0 K71.1) f73) hZ ww19 ww6 (by decide) (by decide)) q75a q75c (g := (mkF m 200 #[.val (.int p0_0), .val (.int p0_1), .val (.int p0_2), .val (.int p0_3), .val (.int (t0_4 p0_0)), .val (.int (t0_10 p0_1)), .val (.int (t0_16 p0_2)), .val (.int (t0_22 p0_3)), .val (.ref b46), .val (.int 1), .val (.long (((((1 : Int64) + (r5 (-1 : Int32) (t0_4 p0_0))) + (r5 (t0_4 p0_0) (t0_10 p0_1))) + (r5 (t0_10 p0_1) (t0_16 p0_2))) + (r5 (t0_16 p0_2) (t0_22 p0_3)))), .second] [(.ref b46)])) rfl (by rw [hml]; rfl) (Steps.refl _) (argsL := []) (rest := []) (lenOf pd___J rfl) rfl (by show 2 * 0 + _ ≤ _; exact Nat.le_of_eq rfl) (hb hby at_200) (fun _ _ => ⟨rfl, rfl, (by decide : 1 + 0 ≤ _), (by decide : 2 + 0 ≤ _)⟩)
  dsimp only [Pt.U, Pt.locs, Pt.cells, Pt.slots] at X75 l75 y75 z75 st75 hQ75
  subst l75 y75 z75
  obtain ⟨rfl, N75q, eh75⟩ := hQ75
  have N75 := Fr.app N71 N75q
  refine own_trans (g' := (mkF m 203 #[.val (.int p0_0), .val (.int p0_1), .val (.int p0_2), .val (.int p0_3), .val (.int (t0_4 p0_0)), .val (.int (t0_10 p0_1)), .val (.int (t0_16 p0_2)), .val (.int (t0_22 p0_3)), .val (.ref b46), .val (.int 1), .val (.long (((((1 : Int64) + (r5 (-1 : Int32) (t0_4 p0_0))) + (r5 (t0_4 p0_0) (t0_10 p0_1))) + (r5 (t0_10 p0_1) (t0_16 p0_2))) + (r5 (t0_16 p0_2) (t0_22 p0_3)))), .second] [(.long (w6_line (t0_22 p0_3) (w6_line (t0_16 p0_2) (w6_line (t0_10 p0_1) (w6_line (t0_4 p0_0) (1 : Int64) (0 : Int32)) (w6_afterReturn (t0_4 p0_0) (0 : Int32))) (w6_afterReturn (t0_10 p0_1) (w6_afterReturn (t0_4 p0_0) (0 : Int32)))) (w6_afterReturn (t0_16 p0_2) (w6_afterReturn (t0_10 p0_1) (w6_afterReturn (t0_4 p0_0) (0 : Int32))))))])) st75 ?_
  refine own_s (g' := (mkF m 205 #[.val (.int p0_0), .val (.int p0_1), .val (.int p0_2), .val (.int p0_3), .val (.int (t0_4 p0_0)), .val (.int (t0_10 p0_1)), .val (.int (t0_16 p0_2)), .val (.int (t0_22 p0_3)), .val (.ref b46), .val (.int 1), .val (.long (((((1 : Int64) + (r5 (-1 : Int32) (t0_4 p0_0))) + (r5 (t0_4 p0_0) (t0_10 p0_1))) + (r5 (t0_10 p0_1) (t0_16 p0_2))) + (r5 (t0_16 p0_2) (t0_22 p0_3)))), .second] [(.long (((((1 : Int64) + (r5 (-1 : Int32) (t0_4 p0_0))) + (r5 (t0_4 p0_0) (t0_10 p0_1))) + (r5 (t0_10 p0_1) (t0_16 p0_2))) + (r5 (t0_16 p0_2) (t0_22 p0_3)))), (.long (w6_line (t0_22 p0_3) (w6_line (t0_16 p0_2) (w6_line (t0_10 p0_1) (w6_line (t0_4 p0_0) (1 : Int64) (0 : Int32)) (w6_afterReturn (t0_4 p0_0) (0 : Int32))) (w6_afterReturn (t0_10 p0_1) (w6_afterReturn (t0_4 p0_0) (0 : Int32)))) (w6_afterReturn (t0_16 p0_2) (w6_afterReturn (t0_10 p0_1) (w6_afterReturn (t0_4 p0_0) (0 : Int32))))))])) (fun _ k => XS.lload X75.here hx rfl (hb hby at_203) rfl k) ?_
  refine own_s (g' := (mkF m 206 #[.val (.int p0_0), .val (.int p0_1), .val (.int p0_2), .val (.int p0_3), .val (.int (t0_4 p0_0)), .val (.int (t0_10 p0_1)), .val (.int (t0_16 p0_2)), .val (.int (t0_22 p0_3)), .val (.ref b46), .val (.int 1), .val (.long (((((1 : Int64) + (r5 (-1 : Int32) (t0_4 p0_0))) + (r5 (t0_4 p0_0) (t0_10 p0_1))) + (r5 (t0_10 p0_1) (t0_16 p0_2))) + (r5 (t0_16 p0_2) (t0_22 p0_3)))), .second] [(.int (lcmpW (w6_line (t0_22 p0_3) (w6_line (t0_16 p0_2) (w6_line (t0_10 p0_1) (w6_line (t0_4 p0_0) (1 : Int64) (0 : Int32)) (w6_afterReturn (t0_4 p0_0) (0 : Int32))) (w6_afterReturn (t0_10 p0_1) (w6_afterReturn (t0_4 p0_0) (0 : Int32)))) (w6_afterReturn (t0_16 p0_2) (w6_afterReturn (t0_10 p0_1) (w6_afterReturn (t0_4 p0_0) (0 : Int32))))) (((((1 : Int64) + (r5 (-1 : Int32) (t0_4 p0_0))) + (r5 (t0_4 p0_0) (t0_10 p0_1))) + (r5 (t0_10 p0_1) (t0_16 p0_2))) + (r5 (t0_16 p0_2) (t0_22 p0_3)))))])) (fun _ k => XS.lcmp X75.here hx rfl (hb hby at_205) rfl k) ?_
  refine own_s (g' := (mkF m 209 #[.val (.int p0_0), .val (.int p0_1), .val (.int p0_2), .val (.int p0_3), .val (.int (t0_4 p0_0)), .val (.int (t0_10 p0_1)), .val (.int (t0_16 p0_2)), .val (.int (t0_22 p0_3)), .val (.ref b46), .val (.int 1), .val (.long (((((1 : Int64) + (r5 (-1 : Int32) (t0_4 p0_0))) + (r5 (t0_4 p0_0) (t0_10 p0_1))) + (r5 (t0_10 p0_1) (t0_16 p0_2))) + (r5 (t0_16 p0_2) (t0_22 p0_3)))), .second] [])) (fun _ k => XS.ifNo X75.here hx rfl (hb hby at_206) rfl ((if0 _ _).trans (teq ((lw_eq (w6_line (t0_22 p0_3) (w6_line (t0_16 p0_2) (w6_line (t0_10 p0_1) (w6_line (t0_4 p0_0) (1 : Int64) (0 : Int32)) (w6_afterReturn (t0_4 p0_0) (0 : Int32))) (w6_afterReturn (t0_10 p0_1) (w6_afterReturn (t0_4 p0_0) (0 : Int32)))) (w6_afterReturn (t0_16 p0_2) (w6_afterReturn (t0_10 p0_1) (w6_afterReturn (t0_4 p0_0) (0 : Int32))))) (((((1 : Int64) + (r5 (-1 : Int32) (t0_4 p0_0))) + (r5 (t0_4 p0_0) (t0_10 p0_1))) + (r5 (t0_10 p0_1) (t0_16 p0_2))) + (r5 (t0_16 p0_2) (t0_22 p0_3)))).mpr ((own_take _ _ _ _ (own_ar _ _)).trans (congrArg (fun z => z + _) ((own_take _ _ _ _ (own_ar _ _)).trans (congrArg (fun z => z + _) ((own_take _ _ _ _ (own_ar _ _)).trans (congrArg (fun z => z + _) (own_take _ (-1) _ _ (by decide)))))))))).2) k) ?_
  refine own_s (g' := (mkF m 210 #[.val (.int p0_0), .val (.int p0_1), .val (.int p0_2), .val (.int p0_3), .val (.int (t0_4 p0_0)), .val (.int (t0_10 p0_1)), .val (.int (t0_16 p0_2)), .val (.int (t0_22 p0_3)), .val (.ref b46), .val (.int 1), .val (.long (((((1 : Int64) + (r5 (-1 : Int32) (t0_4 p0_0))) + (r5 (t0_4 p0_0) (t0_10 p0_1))) + (r5 (t0_10 p0_1) (t0_16 p0_2))) + (r5 (t0_16 p0_2) (t0_22 p0_3)))), .second] [(.int 1)])) (fun _ k => XS.iconst X75.here hx rfl (hb hby at_209) k) ?_
  refine own_s (g' := (mkF m 214 #[.val (.int p0_0), .val (.int p0_1), .val (.int p0_2), .val (.int p0_3), .val (.int (t0_4 p0_0)), .val (.int (t0_10 p0_1)), .val (.int (t0_16 p0_2)), .val (.int (t0_22 p0_3)), .val (.ref b46), .val (.int 1), .val (.long (((((1 : Int64) + (r5 (-1 : Int32) (t0_4 p0_0))) + (r5 (t0_4 p0_0) (t0_10 p0_1))) + (r5 (t0_10 p0_1) (t0_16 p0_2))) + (r5 (t0_16 p0_2) (t0_22 p0_3)))), .second] [(.int 1)])) (fun _ k => XS.goto X75.here hx rfl (pc0 := 210) (pc' := 214) rfl (hb hby at_210) (by decide) (by decide) k) ?_
  refine own_s (g' := (mkF m 216 #[.val (.int p0_0), .val (.int p0_1), .val (.int p0_2), .val (.int p0_3), .val (.int (t0_4 p0_0)), .val (.int (t0_10 p0_1)), .val (.int (t0_16 p0_2)), .val (.int (t0_22 p0_3)), .val (.ref b46), .val (.int 1), .val (.long (((((1 : Int64) + (r5 (-1 : Int32) (t0_4 p0_0))) + (r5 (t0_4 p0_0) (t0_10 p0_1))) + (r5 (t0_10 p0_1) (t0_16 p0_2))) + (r5 (t0_16 p0_2) (t0_22 p0_3)))), .second] [])) (fun _ k => XS.istore X75.here hx rfl (hb hby at_214) rfl (l' := #[.val (.int p0_0), .val (.int p0_1), .val (.int p0_2), .val (.int p0_3), .val (.int (t0_4 p0_0)), .val (.int (t0_10 p0_1)), .val (.int (t0_16 p0_2)), .val (.int (t0_22 p0_3)), .val (.ref b46), .val (.int 1), .val (.long (((((1 : Int64) + (r5 (-1 : Int32) (t0_4 p0_0))) + (r5 (t0_4 p0_0) (t0_10 p0_1))) + (r5 (t0_10 p0_1) (t0_16 p0_2))) + (r5 (t0_16 p0_2) (t0_22 p0_3)))), .second]) rfl k) ?_
  refine own_s (g' := (mkF m 218 #[.val (.int p0_0), .val (.int p0_1), .val (.int p0_2), .val (.int p0_3), .val (.int (t0_4 p0_0)), .val (.int (t0_10 p0_1)), .val (.int (t0_16 p0_2)), .val (.int (t0_22 p0_3)), .val (.ref b46), .val (.int 1), .val (.long (((((1 : Int64) + (r5 (-1 : Int32) (t0_4 p0_0))) + (r5 (t0_4 p0_0) (t0_10 p0_1))) + (r5 (t0_10 p0_1) (t0_16 p0_2))) + (r5 (t0_16 p0_2) (t0_22 p0_3)))), .second] [(.int 1)])) (fun _ k => XS.iload X75.here hx rfl (hb hby at_216) rfl k) ?_
  refine own_retN X75 hx hlk (t := .boolean) hret (by simp) (hb hby at_218) (z' := (1 : Int32)) (by decide) (by decide) (by decide) ?_
  show Q0 Z p0_0 p0_1 p0_2 p0_3 h0 n0 _ T75.heap _
  rw [eh75]
  exact ⟨rfl, N75⟩
set_option maxRecDepth 65536 in
set_option maxHeartbeats 40000000 in
theorem comes_1 {Post : Tables → Env → Array Value → State → Outcome → State → Prop} (hpost : ∀ tb e args s v u, (limb_1_1.after args s (.returned v) u = true ∧ limb_1_2.after args s (.returned v) u = true ∧ True) → FrameEnd s (.returned v) u (Jvm.fieldLocs frame_1_writes args s ++ Jvm.arrayLocs frame_1_arrays args s ++ Jvm.staticLocs frame_1_statics s) 16 128 → Post tb e args s (.returned v) u) :
    ArmFor flags0 classFile x code maxLocals ret World_1 tables_1 room_1 Calls_1 rest_1 Pre_1 Post := by
  intro l hfl _ _ p e ha hc hk s m args below hf hA hF happ hP
  obtain ⟨hcalls, hrest, hpre⟩ := hP
  obtain ⟨-, -, -, hnamed, -, -, -, hat⟩ := (Spec.applies_iff hf).mp happ
  obtain ⟨hg, hn⟩ := and_e (Cond.before_iff.mp (show (Jvm.Cond.and given_1 narrow_1).before args s = true from hpre))
  obtain ⟨gc, hg⟩ := and_e hg
  obtain ⟨gi0, hg⟩ := and_e hg
  obtain ⟨gi1, hg⟩ := and_e hg
  obtain ⟨gi2, hg⟩ := and_e hg
  obtain ⟨w0, w1, w2, w3, rfl⟩ : ∃ w0 w1 w2 w3 : Value, args = #[w0, w1, w2, w3] := by
    have hs : args.size = 4 := by simpa [Cond.value, given_1] using gc
    obtain ⟨L⟩ := args
    match L, hs with
    | [w0, w1, w2, w3], _ => exact ⟨w0, w1, w2, w3, rfl⟩
  have hw := fun d (hd : d ∈ tables_1) => atoms_spec (ws := Jvm.Cond.code x code maxLocals ret :: tables_1) hat d (List.mem_cons_of_mem _ hd)
  obtain ⟨i0, ei0⟩ := is_v gi0
  obtain rfl : w0 = (.int i0) := Option.some.inj ei0
  obtain ⟨i1, ei1⟩ := is_v gi1
  obtain rfl : w1 = (.int i1) := Option.some.inj ei1
  obtain ⟨i2, ei2⟩ := is_v gi2
  obtain rfl : w2 = (.int i2) := Option.some.inj ei2
  obtain ⟨i3, ei3⟩ := is_v hg
  obtain rfl : w3 = (.int i3) := Option.some.inj ei3
  obtain ⟨n, o, h1, h2, h3, _, L, rfl, ⟨rfl, N⟩, hq⟩ := rm0 l s _ hw tables_1 i0 i1 i2 i3 s.heap s.heap.size (Nat.le_refl _)  p e ha hc hk s m _ below hf ((Spec.applies_iff_loose hf).mp happ).1 ⟨rfl, State.Warmed39.refl s, rfl⟩ trivial
  refine ⟨n, _, h1, h2, h3, hpost _ _ _ _ _ _ ⟨Cond.after_iff.mpr rfl, Cond.after_iff.mpr (eq_i res_at (Term.int_eval (1)) rfl), trivial⟩ ⟨hq.1, hq.2.1, (hq.2.2.sift fun y hy => Or.inr (N y hy)).mono (by decide) (by decide)⟩⟩
theorem main_1_1 : Claimed_1_1 := comes_1 fun _ _ _ _ _ _ h hF => ⟨h.1, hF⟩
theorem main_1_2 : Claimed_1_2 := comes_1 fun _ _ _ _ _ _ h hF => ⟨h.2.1, hF⟩
end Jvm.Pilot.@@N@@
namespace Jvm.Pilot.@@N@@
open Jvm Jvm.ClassFile Sem Op Lib Jvm.Free Jvm.Stand Jvm.Pilot.@@N@@.Jvm.D
/-! MADE BY PROGRAM (witnessworld.py) out of the Statement's table words and the real class files: 9 classes; the members and pool entries that the words name. The judged class is class 1, her method 3. -/
namespace start1
open Jvm.ClassFile
def u (s : String) : CpInfo := .utf8 (stringToUtf16 s)
/-- a pool by its gaps: so many unusable entries, then the entry; so many at the end -/
def gap : Nat → List CpInfo → List CpInfo
  | 0, r => r
  | n + 1, r => .unusable :: gap n r
def poolList (es : List (Nat × CpInfo)) (last : Nat) : List CpInfo := es.foldr (fun e r => gap e.1 (e.2 :: r)) (gap last [])
def pool (es : List (Nat × CpInfo)) (last : Nat) : Array CpInfo := ⟨poolList es last⟩
def fileOf (pool : Array CpInfo) (this : Nat) (attrs : Array Attribute := #[]) (ms : Array MethodInfo := #[]) (fl : Nat := 33) (sup : Nat := 0) (ifs : Array Nat := #[]) (fds : Array FieldInfo := #[]) : ClassFile where
  minorVersion := 0
  majorVersion := 65
  constantPool := pool
  accessFlags := fl
  thisClass := this
  superClass := sup
  interfaces := ifs
  fields := fds
  methods := ms
  attributes := attrs
def plain (name : String) (sup : Option ClassId) : Class where
  name := name
  kind := .ordinary
  loader := none
  accessFlags := 33
  super := sup
  interfaces := #[]
  cf := none
  fields := #[]
  methods := #[]
  instanceTypes := #[]
  staticTypes := #[]
  resolved := #[]
  callSites := []
  init := .initialized
  statics := none
  mirror := none

def pool0 : Array CpInfo := pool [(5, u "<init>"), (0, u "()V"), (1, .class_ 10), (1, u "java/lang/Object")] 113

def k0c0 : Code := { maxStack := 0, maxLocals := 1, code := object_method_1_code, exceptionTable := #[], attributes := #[] }
def k0m0 : Method := { name := "<init>", desc := "()V", sig := { parameters := [], returnType := none }, accessFlags := 1, code := some k0c0 }
/-- java/lang/Object -/
def k0 : Class := { plain "java/lang/Object" none with
  accessFlags := 33
  interfaces := #[]
  cf := some (fileOf pool0 8 #[] #[{ accessFlags := 1, nameIndex := 5, descriptorIndex := 6, attributes := #[] }] 33 0 #[] #[])
  fields := #[]
  methods := #[k0m0]
  instanceTypes := #[]
  staticTypes := #[]
  resolved := Array.replicate 124 none
  statics := none }

def pool1 : Array CpInfo := pool [(2, .class_ 4), (0, .nameAndType 5 6), (0, u "java/lang/Object"), (0, u "<init>"), (0, u "()V"), (0, .methodref 8 9), (0, .class_ 10), (0, .nameAndType 11 12), (0, u "com/example/burn_to_balance/burntobalance/io/LineCountTakePinLaw"), (0, u "ch"), (0, u "(I)C"), (0, .class_ 14), (0, u "com/example/burn_to_balance/burntobalance/io/LineCount"), (0, .methodref 13 3), (0, .methodref 13 17), (0, .nameAndType 18 19), (0, u "line"), (0, u "()J"), (0, .methodref 8 21), (0, .nameAndType 22 23), (0, u "step"), (0, u "(IC)J"), (0, .methodref 13 25), (0, .nameAndType 26 27), (0, u "take"), (0, u "(C)V"), (3, u "law"), (0, u "(IIII)Z")] 2

def k1m0 : Method := { name := "<init>", desc := "()V", sig := { parameters := [], returnType := none }, accessFlags := 1, code := none }
def k1c1 : Code := { maxStack := 2, maxLocals := 2, code := method_2_code, exceptionTable := #[], attributes := #[] }
def k1m1 : Method := { name := "ch", desc := "(I)C", sig := { parameters := [.int], returnType := some .char }, accessFlags := 10, code := some k1c1 }
def k1c2 : Code := { maxStack := 2, maxLocals := 2, code := method_3_code, exceptionTable := #[], attributes := #[] }
def k1m2 : Method := { name := "step", desc := "(IC)J", sig := { parameters := [.int, .char], returnType := some .long }, accessFlags := 10, code := some k1c2 }
def k1c3 : Code := { maxStack := 4, maxLocals := 12, code := code, exceptionTable := #[], attributes := #[] }
def k1m3 : Method := { name := "law", desc := "(IIII)Z", sig := { parameters := [.int, .int, .int, .int], returnType := some .boolean }, accessFlags := 9, code := some k1c3 }
/-- com/example/burn_to_balance/burntobalance/io/LineCountTakePinLaw -/
def k1 : Class := { plain "com/example/burn_to_balance/burntobalance/io/LineCountTakePinLaw" (some 0) with
  accessFlags := 49
  interfaces := #[]
  cf := some (fileOf pool1 8 #[] #[{ accessFlags := 1, nameIndex := 5, descriptorIndex := 6, attributes := #[] }, { accessFlags := 10, nameIndex := 11, descriptorIndex := 12, attributes := #[] }, { accessFlags := 10, nameIndex := 22, descriptorIndex := 23, attributes := #[] }, { accessFlags := 9, nameIndex := 31, descriptorIndex := 32, attributes := #[] }] 49 2 #[] #[])
  fields := #[]
  methods := #[k1m0, k1m1, k1m2, k1m3]
  instanceTypes := #[]
  staticTypes := #[]
  resolved := Array.replicate 35 none
  statics := none }

def pool2 : Array CpInfo := pool [(1, .methodref 2 3), (0, .class_ 4), (0, .nameAndType 5 6), (0, u "java/lang/Object"), (0, u "<init>"), (0, u "()V"), (0, .fieldref 8 9), (0, .class_ 10), (0, .nameAndType 11 12), (0, u "com/example/burn_to_balance/burntobalance/io/LineCount"), (0, u "line"), (0, u "J"), (0, .fieldref 8 14), (0, .nameAndType 15 16), (0, u "afterReturn"), (0, u "Z"), (5, u "take"), (0, u "(C)V"), (0, u "()J")] 2

def k2c0 : Code := { maxStack := 3, maxLocals := 1, code := prog_24_method_1_code, exceptionTable := #[], attributes := #[] }
def k2m0 : Method := { name := "<init>", desc := "()V", sig := { parameters := [], returnType := none }, accessFlags := 0, code := some k2c0 }
def k2c1 : Code := { maxStack := 5, maxLocals := 2, code := prog_24_method_3_code, exceptionTable := #[], attributes := #[] }
def k2m1 : Method := { name := "take", desc := "(C)V", sig := { parameters := [.char], returnType := none }, accessFlags := 0, code := some k2c1 }
def k2c2 : Code := { maxStack := 2, maxLocals := 1, code := prog_24_method_4_code, exceptionTable := #[], attributes := #[] }
def k2m2 : Method := { name := "line", desc := "()J", sig := { parameters := [], returnType := some .long }, accessFlags := 0, code := some k2c2 }
/-- com/example/burn_to_balance/burntobalance/io/LineCount -/
def k2 : Class := { plain "com/example/burn_to_balance/burntobalance/io/LineCount" (some 0) with
  accessFlags := 32
  interfaces := #[]
  cf := some (fileOf pool2 8 #[] #[{ accessFlags := 0, nameIndex := 5, descriptorIndex := 6, attributes := #[] }, { accessFlags := 0, nameIndex := 22, descriptorIndex := 23, attributes := #[] }, { accessFlags := 0, nameIndex := 11, descriptorIndex := 24, attributes := #[] }] 32 2 #[] #[{ accessFlags := 2, nameIndex := 11, descriptorIndex := 12, attributes := #[] }, { accessFlags := 2, nameIndex := 15, descriptorIndex := 16, attributes := #[] }])
  fields := #[{ name := "line", type := .long, accessFlags := 2, slot := 0, constantValue := 0 }, { name := "afterReturn", type := .boolean, accessFlags := 2, slot := 1, constantValue := 0 }]
  methods := #[k2m0, k2m1, k2m2]
  instanceTypes := #[.long, .boolean]
  staticTypes := #[]
  resolved := Array.replicate 27 none
  statics := none }

def pool3 : Array CpInfo := pool [(1, u "java/lang/Cloneable"), (0, .class_ 1), (0, u "java/lang/Object"), (0, .class_ 3)] 3

/-- java/lang/Cloneable -/
def k3 : Class := { plain "java/lang/Cloneable" (some 0) with
  accessFlags := 1537
  interfaces := #[]
  cf := some (fileOf pool3 2 #[] #[] 1537 4 #[] #[])
  fields := #[]
  methods := #[]
  instanceTypes := #[]
  staticTypes := #[]
  resolved := Array.replicate 8 none
  statics := none }

def pool4 : Array CpInfo := pool [(1, u "java/io/Serializable"), (0, .class_ 1), (0, u "java/lang/Object"), (0, .class_ 3)] 3

/-- java/io/Serializable -/
def k4 : Class := { plain "java/io/Serializable" (some 0) with
  accessFlags := 1537
  interfaces := #[]
  cf := some (fileOf pool4 2 #[] #[] 1537 4 #[] #[])
  fields := #[]
  methods := #[]
  instanceTypes := #[]
  staticTypes := #[]
  resolved := Array.replicate 8 none
  statics := none }

/-- the primitive byte -/
def k5 : Class := { plain "byte" none with kind := .primitive 'B', accessFlags := 0x411 }
/-- [B -/
def k6 : Class := { plain "[B" (some 0) with kind := .array 5 .byte, interfaces := #[3, 4], accessFlags := 1041 }

/-- the primitive int -/
def k7 : Class := { plain "int" none with kind := .primitive 'I', accessFlags := 0x411 }
/-- [I -/
def k8 : Class := { plain "[I" (some 0) with kind := .array 7 .int, interfaces := #[3, 4], accessFlags := 1041 }

def heap : Heap := #[]
def classes : Array Class := #[k0, k1, k2, k3, k4, k5, k6, k7, k8]
def interned : List (Array UInt16 × Addr) := []
def slotsUsed : Nat := 0
def theMethod : MethodId := ⟨1, 3⟩
def args0 : Array Value := #[.int 5, .int 5, .int 5, .int 5]
def aboutOver (below : List Frame) : State where
  vm := { classes := classes, interned := interned.toArray }
  heap := heap
  slotsUsed := slotsUsed
  threads := #[{ frames := .invoking theMethod args0 :: below }]
def below0 : List Frame := [.native { method := ⟨0, 0⟩, args := #[] }]
def about1 : State := aboutOver below0
def p0 : Program := .bare "" "" ""
def e0 : Env := launch0.env 0 0 0
theorem w_frames : about1.frames = Frame.invoking theMethod args0 :: below0 := rfl
set_option maxRecDepth 65536 in
theorem w_args : argsFit about1.vm theMethod args0 = true := by decide +kernel
set_option maxRecDepth 65536 in
theorem w_heap : heapFits about1 = true := by decide +kernel
set_option maxRecDepth 65536 in
theorem w_runnable : about1.curStatus? = some .runnable := by decide +kernel
set_option maxRecDepth 65536 in
theorem w_alone : about1.alone = true := by decide +kernel
set_option maxRecDepth 65536 in
theorem w_named : about1.methodNamed? x = some theMethod := by decide +kernel
set_option maxRecDepth 65536 in
theorem w_hears : about1.hears theMethod below0 = true := by decide +kernel
set_option maxRecDepth 65536 in
theorem w_ripe : about1.ripe theMethod args0 below0 = true := by decide +kernel
theorem w_running : about1.status = .running := rfl
set_option maxRecDepth 65536 in
theorem w_room : about1.hasRoom e0.platform room_1 = true :=
  launch0.hasRoom_least _ room_1 (by decide +kernel) (by decide +kernel) (by decide +kernel) (by decide +kernel) (by decide +kernel) (by decide +kernel)
theorem allAtoms_all (ts : List Jvm.Cond) (a : Array Jvm.Value) (st : Jvm.State) : (allAtoms ts).before a st = ts.all (fun c => c.before a st) := by
  induction ts with
  | nil => rfl
  | cons c t ih =>
    show (Jvm.Cond.and c (allAtoms t)).before a st = _
    rw [Jvm.Cond.before_and, ih, List.all_cons]
def words1 : List Jvm.Cond := Jvm.Cond.code x code maxLocals ret :: tables_1
/-- a 'code' word, met by the world's own term for the bytes: nothing is compared byte by byte -/
theorem code_word {y : MethodName} {bytes : ByteArray} {mx : Nat} {rt : Option FieldType} {a : Array Value} {s : State} {m : MethodId} {meth : Method} {c : Code} (h1 : s.methodNamed? y = some m) (h2 : s.vm.method? m = some meth) (h3 : meth.code = some c) (h4 : c.code = bytes)
    (h5 : (c.maxLocals == mx && c.exceptionTable.isEmpty && decide (c.maxStack ≤ mostOperands) && decide (meth.sig.returnType = rt) && !meth.locks && decide (parseMethodDescriptor y.desc = some meth.sig)) = true) : (Jvm.Cond.code y bytes mx rt).before a s = true := by
  simp only [Bool.and_eq_true, beq_iff_eq, Bool.not_eq_true', decide_eq_true_eq] at h5
  obtain ⟨⟨⟨⟨⟨g1, g2⟩, g3⟩, g4⟩, g5⟩, g6⟩ := h5
  simp [Cond.before, Cond.holds, Cond.value, h1, h2, h3, h4, g1, g2, g3, g4, g5, g6]
def isCode : Jvm.Cond → Bool
  | .code _ _ _ _ => true
  | _ => false
theorem all_split {L : List Jvm.Cond} {P : Jvm.Cond → Bool} (h1 : L.all (fun c => isCode c || P c) = true) (h2 : ∀ c ∈ L.filter isCode, P c = true) : L.all P = true := by
  refine List.all_eq_true.mpr fun c hc => ?_
  have h := List.all_eq_true.mp h1 c hc
  rcases Bool.eq_false_or_eq_true (isCode c) with hi | hi
  · exact h2 c (List.mem_filter.mpr ⟨hc, hi⟩)
  · simpa [hi] using h
set_option maxRecDepth 65536 in
theorem w_c0 : (Jvm.Cond.code x code maxLocals ret).before args0 about1 = true := code_word (m := ⟨1, 3⟩) (meth := k1m3) (c := k1c3) (by decide +kernel) rfl rfl rfl (by decide +kernel)
set_option maxRecDepth 65536 in
theorem w_c1 : (Jvm.Cond.code ({ cls := "com/example/burn_to_balance/burntobalance/io/LineCountTakePinLaw", name := "ch", desc := "(I)C" } : Jvm.MethodName) method_2_code (2 : Nat) (Option.some Jvm.ClassFile.FieldType.char)).before args0 about1 = true := code_word (m := ⟨1, 1⟩) (meth := k1m1) (c := k1c1) (by decide +kernel) rfl rfl rfl (by decide +kernel)
set_option maxRecDepth 65536 in
theorem w_c2 : (Jvm.Cond.code ({ cls := "com/example/burn_to_balance/burntobalance/io/LineCount", name := "<init>", desc := "()V" } : Jvm.MethodName) prog_24_method_1_code (1 : Nat) (Option.none : Option Jvm.ClassFile.FieldType)).before args0 about1 = true := code_word (m := ⟨2, 0⟩) (meth := k2m0) (c := k2c0) (by decide +kernel) rfl rfl rfl (by decide +kernel)
set_option maxRecDepth 65536 in
theorem w_c3 : (Jvm.Cond.code ({ cls := "java/lang/Object", name := "<init>", desc := "()V" } : Jvm.MethodName) object_method_1_code (1 : Nat) (Option.none : Option Jvm.ClassFile.FieldType)).before args0 about1 = true := code_word (m := ⟨0, 0⟩) (meth := k0m0) (c := k0c0) (by decide +kernel) rfl rfl rfl (by decide +kernel)
set_option maxRecDepth 65536 in
theorem w_c4 : (Jvm.Cond.code ({ cls := "com/example/burn_to_balance/burntobalance/io/LineCount", name := "line", desc := "()J" } : Jvm.MethodName) prog_24_method_4_code (1 : Nat) (Option.some Jvm.ClassFile.FieldType.long)).before args0 about1 = true := code_word (m := ⟨2, 2⟩) (meth := k2m2) (c := k2c2) (by decide +kernel) rfl rfl rfl (by decide +kernel)
set_option maxRecDepth 65536 in
theorem w_c5 : (Jvm.Cond.code ({ cls := "com/example/burn_to_balance/burntobalance/io/LineCountTakePinLaw", name := "step", desc := "(IC)J" } : Jvm.MethodName) method_3_code (2 : Nat) (Option.some Jvm.ClassFile.FieldType.long)).before args0 about1 = true := code_word (m := ⟨1, 2⟩) (meth := k1m2) (c := k1c2) (by decide +kernel) rfl rfl rfl (by decide +kernel)
set_option maxRecDepth 65536 in
theorem w_c6 : (Jvm.Cond.code ({ cls := "com/example/burn_to_balance/burntobalance/io/LineCount", name := "take", desc := "(C)V" } : Jvm.MethodName) prog_24_method_3_code (2 : Nat) (Option.none : Option Jvm.ClassFile.FieldType)).before args0 about1 = true := code_word (m := ⟨2, 1⟩) (meth := k2m1) (c := k2c1) (by decide +kernel) rfl rfl rfl (by decide +kernel)
def codes1 : List Jvm.Cond := [Jvm.Cond.code x code maxLocals ret, Jvm.Cond.code ({ cls := "com/example/burn_to_balance/burntobalance/io/LineCountTakePinLaw", name := "ch", desc := "(I)C" } : Jvm.MethodName) method_2_code (2 : Nat) (Option.some Jvm.ClassFile.FieldType.char), Jvm.Cond.code ({ cls := "com/example/burn_to_balance/burntobalance/io/LineCount", name := "<init>", desc := "()V" } : Jvm.MethodName) prog_24_method_1_code (1 : Nat) (Option.none : Option Jvm.ClassFile.FieldType), Jvm.Cond.code ({ cls := "java/lang/Object", name := "<init>", desc := "()V" } : Jvm.MethodName) object_method_1_code (1 : Nat) (Option.none : Option Jvm.ClassFile.FieldType), Jvm.Cond.code ({ cls := "com/example/burn_to_balance/burntobalance/io/LineCount", name := "line", desc := "()J" } : Jvm.MethodName) prog_24_method_4_code (1 : Nat) (Option.some Jvm.ClassFile.FieldType.long), Jvm.Cond.code ({ cls := "com/example/burn_to_balance/burntobalance/io/LineCountTakePinLaw", name := "step", desc := "(IC)J" } : Jvm.MethodName) method_3_code (2 : Nat) (Option.some Jvm.ClassFile.FieldType.long), Jvm.Cond.code ({ cls := "com/example/burn_to_balance/burntobalance/io/LineCount", name := "take", desc := "(C)V" } : Jvm.MethodName) prog_24_method_3_code (2 : Nat) (Option.none : Option Jvm.ClassFile.FieldType)]
set_option maxRecDepth 65536 in
theorem codes_eq : words1.filter isCode = codes1 := rfl
theorem w_codes : ∀ c ∈ words1.filter isCode, c.before args0 about1 = true := by
  rw [codes_eq]
  intro c hc
  simp only [codes1, List.mem_cons, List.not_mem_nil, or_false] at hc
  rcases hc with rfl | rfl | rfl | rfl | rfl | rfl | rfl
  · exact w_c0
  · exact w_c1
  · exact w_c2
  · exact w_c3
  · exact w_c4
  · exact w_c5
  · exact w_c6
set_option maxRecDepth 65536 in
theorem w_t1 : (words1.take 24).all (fun c => isCode c || c.before args0 about1) = true := by decide +kernel
set_option maxRecDepth 65536 in
theorem w_t2 : (words1.drop 24).all (fun c => isCode c || c.before args0 about1) = true := by decide +kernel
theorem w_tables : (allAtoms (Jvm.Cond.code x code maxLocals ret :: tables_1)).before args0 about1 = true := by
  rw [allAtoms_all]
  show words1.all (fun c => c.before args0 about1) = true
  refine all_split ?_ w_codes
  rw [← List.take_append_drop 24 words1, List.all_append, w_t1, w_t2]
  rfl
set_option maxRecDepth 65536 in
theorem w_case : (Jvm.Cond.and given_1 narrow_1).before args0 about1 = true := by decide +kernel
theorem w_applies : (headSpec (Jvm.Cond.code x code maxLocals ret :: tables_1) room_1).applies x e0.platform about1 = true :=
  (Spec.applies_iff w_frames).mpr ⟨w_running, w_runnable, w_alone, w_named, w_hears, w_ripe, w_room, w_tables⟩
theorem atStart : AtStart classFile x code maxLocals ret World_1 tables_1 room_1 Calls_1 rest_1 Pre_1 launch0 p0 e0 about1 theMethod args0 below0 :=
  ⟨lists_1, trivial, launch0.admits_env _ _ _, launch0.least_env, fairChoices_fair.cas, fairChoices_fair.clock, w_frames, w_args, w_heap, w_applies, trivial, trivial, w_case⟩
end start1
theorem witness_1 : WitnessClaimed_1 := ⟨start1.p0, start1.e0, start1.about1, start1.theMethod, start1.args0, start1.below0, start1.atStart⟩
end Jvm.Pilot.@@N@@
