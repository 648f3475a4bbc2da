import JvmDerived
import JvmDerived.Pilot.@@N@@Statement
import JvmDerived.Pilot.@@N@@Code
set_option linter.unusedVariables false
set_option linter.unusedSimpArgs false
namespace Jvm.Pilot.@@N@@
open Jvm Jvm.ClassFile Sem Op Lib Jvm.Free Jvm.Stand Jvm.LawKit Jvm.RoadKit Bundle Jvm.Pilot.@@N@@.Jvm.D
/-- what is left of a walk: from the frame g on, the run ends as K says -/
def own_G (p : Program) (e : Env) (below : List Frame) (s : State) (K : Option Value → Heap → List Loc → Prop) (nc ns : Nat) (T : State) (g : JFrame) : Prop :=
  ∃ s₂ o, Steps p.tables e below (T.setTop g) s₂ ∧ s₂.status = .running ∧ Ended s₂ below o ∧ ∃ v L, o = .returned v ∧ K v s₂.heap L ∧ FrameEnd s o s₂ L nc ns
section Own
variable {p : Program} {l : Launch} {e : Env} {R : Room} {s : State} {m : MethodId} {args : Array Value} {below : List Frame} {meth : Method} {c : Code} {T T' : State} {locs : List Loc} {cells slots : Nat} {K : Option Value → Heap → List Loc → Prop} {nc ns : Nat} {g g' : JFrame}
theorem own_s (h : ∀ t, Steps p.tables e below (T'.setTop g') t → Steps p.tables e below (T.setTop g) t) (k : own_G p e below s K nc ns T' g') : own_G p e below s K nc ns T g := by
  obtain ⟨s₂, o, h1, r⟩ := k
  exact ⟨s₂, o, h _ h1, r⟩
theorem own_trans (h : Steps p.tables e below (T.setTop g) (T'.setTop g')) (k : own_G p e below s K nc ns T' g') : own_G p e below s K nc ns T g := by
  obtain ⟨s₂, o, h1, r⟩ := k
  exact ⟨s₂, o, h.trans h1, r⟩
theorem own_cast (q : g = g') (k : own_G p e below s K nc ns T g') : own_G p e below s K nc ns T g := q ▸ k
theorem own_leave (X : Stand p l e R s m args below meth c T locs cells slots) {v : Option Value} (hlk : meth.locks = false) (hv : meth.sig.returnType = none → v = none) (hc : cells ≤ nc) (hn : slots ≤ ns) (hq : K v T.heap locs)
    (st : ∀ fs, (∀ (f : JFrame) (acts : List Action), f.method = m → f.locked = none → f.entered = [] → (doReturn e (T.setTop f) acts v).1 = T.setFrames fs) → Steps p.tables e below (T.setTop g) (T.setFrames fs)) : own_G p e below s K nc ns T g := by
  obtain ⟨fs, hr, hrun, hended, hW, hsame⟩ := X.leave (v := v) hv hlk
  exact ⟨_, _, st fs hr, hrun, hended, _, _, rfl, hq, ⟨_, rfl⟩, hW, hsame.mono hc hn⟩
theorem own_retN (X : Stand p l e R s m args below meth c T locs cells slots) (hx : p.tables.exec = Jvm.exec) (hlk : meth.locks = false) {pc : Nat} {Ls : Array Slot} {z z' : Int32} {t : FieldType} {rest : List Value} (hret : meth.sig.returnType = some t) (ht : t = .boolean ∨ t = .byte ∨ t = .char ∨ t = .short)
    (hd : decode c.code pc = .ok (.ireturn, 1)) (hz : nar t z = z') (hc : cells ≤ nc) (hn : slots ≤ ns) (hq : K (some (.int z')) T.heap locs) : own_G p e below s K nc ns T (mkF m pc Ls (.int z :: rest)) := by
  subst hz
  exact own_leave X hlk (fun h => by rw [hret] at h; cases h) hc hn hq fun fs hr => retN X hx hret ht hd hr
theorem own_retI (X : Stand p l e R s m args below meth c T locs cells slots) (hx : p.tables.exec = Jvm.exec) (hlk : meth.locks = false) {pc : Nat} {Ls : Array Slot} {z : Int32} {rest : List Value} (hret : meth.sig.returnType = some .int)
    (hd : decode c.code pc = .ok (.ireturn, 1)) (hc : cells ≤ nc) (hn : slots ≤ ns) (hq : K (some (.int z)) T.heap locs) : own_G p e below s K nc ns T (mkF m pc Ls (.int z :: rest)) :=
  own_leave X hlk (fun h => by rw [hret] at h; cases h) hc hn hq fun fs hr => retOut X hx hret rfl (Or.inl ⟨rfl, Or.inl rfl, _, rfl⟩) hd hr
theorem own_retJ (X : Stand p l e R s m args below meth c T locs cells slots) (hx : p.tables.exec = Jvm.exec) (hlk : meth.locks = false) {pc : Nat} {Ls : Array Slot} {z : Int64} {rest : List Value} (hret : meth.sig.returnType = some .long)
    (hd : decode c.code pc = .ok (.lreturn, 1)) (hc : cells ≤ nc) (hn : slots ≤ ns) (hq : K (some (.long z)) T.heap locs) : own_G p e below s K nc ns T (mkF m pc Ls (.long z :: rest)) :=
  own_leave X hlk (fun h => by rw [hret] at h; cases h) hc hn hq fun fs hr => retOut X hx hret rfl (Or.inr (Or.inl ⟨rfl, rfl, _, rfl⟩)) hd hr
theorem own_retR (X : Stand p l e R s m args below meth c T locs cells slots) (hx : p.tables.exec = Jvm.exec) (hlk : meth.locks = false) {pc : Nat} {Ls : Array Slot} {v : Value} {t : FieldType} {rest : List Value} (hret : meth.sig.returnType = some t) (ht : t.isReference = true) (hv : v.isRef = true) (hnv : narrow t v = v)
    (hd : decode c.code pc = .ok (.areturn, 1)) (hc : cells ≤ nc) (hn : slots ≤ ns) (hq : K (some v) T.heap locs) : own_G p e below s K nc ns T (mkF m pc Ls (v :: rest)) :=
  own_leave X hlk (fun h => by rw [hret] at h; cases h) hc hn hq fun fs hr => retOut X hx hret hnv (Or.inr (Or.inr (Or.inr (Or.inr ⟨rfl, ht, hv⟩)))) hd hr
theorem own_retV (X : Stand p l e R s m args below meth c T locs cells slots) (hx : p.tables.exec = Jvm.exec) (hlk : meth.locks = false) {pc : Nat} {Ls : Array Slot} (hret : meth.sig.returnType = none)
    (hd : decode c.code pc = .ok (.return_, 1)) (hc : cells ≤ nc) (hn : slots ≤ ns) (hq : K none T.heap locs) : own_G p e below s K nc ns T (mkF m pc Ls []) :=
  own_leave X hlk (fun _ => rfl) hc hn hq fun fs hr => X.returnOut hx hret hd hr
theorem own_selp {s : State} {args : Array Value} {y : MethodName} {n : Nat} (wi : (Jvm.Cond.instantiable y.cls n).before args s = true) (hp : (Jvm.Cond.privateMethod y).before args s = true) (hi : (Jvm.Cond.instanceMethod y).before args s = true)
    (hy : y.cls ≠ "java/lang/invoke/MethodHandle" ∧ y.cls ≠ "java/lang/invoke/VarHandle") : (Jvm.Cond.selects y.cls y y).before args s = true := by
  obtain ⟨c, k, h1, h2, h3, h4, -⟩ := Cond.instantiable_spec wi
  exact Jvm.Stand.selects_self_of_private h1 h2 (Bool.or_eq_false_iff.mp h4).1 (Cond.privateMethod_at hp) hi hy
theorem own_miss {k : Int32} (i : Int) (n : Int32) (e : n.toInt = i) (hc : ¬ k = n) : i ≠ k.toInt := fun h => hc (Int32.toInt_inj.mp (h.symm.trans e.symm))
theorem own_posI {x : Int32} (h : (0 : Int32) < x) : x ≠ 0 := fun q => by rw [q] at h; exact absurd h (by decide)
theorem own_posJ {x : Int64} (h : (0 : Int64) < x) : x ≠ 0 := fun q => by rw [q] at h; exact absurd h (by decide)
theorem own_asI {x y : Int32} (h : y < x) : ¬ x < y := fun q => Int32.lt_irrefl (Int32.lt_trans h q)
theorem own_asJ {x y : Int64} (h : y < x) : ¬ x < y := fun q => Int64.lt_irrefl (Int64.lt_trans h q)
theorem own_eqltI {x y : Int32} (h : x = y) : ¬ x < y := fun q => by rw [h] at q; exact Int32.lt_irrefl q
theorem own_eqltJ {x y : Int64} (h : x = y) : ¬ x < y := fun q => by rw [h] at q; exact Int64.lt_irrefl q
theorem own_triI {x y : Int32} (h : ¬ x = y) (q : ¬ y < x) : x < y := by
  rw [Int32.lt_iff_toInt_lt] at *
  rw [← Int32.toInt_inj] at h
  omega
theorem own_triJ {x y : Int64} (h : ¬ x = y) (q : ¬ y < x) : x < y := by
  rw [Int64.lt_iff_toInt_lt] at *
  rw [← Int64.toInt_inj] at h
  omega
theorem own_ltneI {x y : Int32} (h : x < y) : ¬ x = y := fun q => by rw [q] at h; exact Int32.lt_irrefl h
theorem own_ltneJ {x y : Int64} (h : x < y) : ¬ x = y := fun q => by rw [q] at h; exact Int64.lt_irrefl h
theorem own_ltne'I {x y : Int32} (h : y < x) : ¬ x = y := fun q => by rw [q] at h; exact Int32.lt_irrefl h
theorem own_ltne'J {x y : Int64} (h : y < x) : ¬ x = y := fun q => by rw [q] at h; exact Int64.lt_irrefl h
theorem own_nnI {x y : Int32} (h : ¬ x < y) (q : ¬ y < x) : x = y := by
  rw [Int32.lt_iff_toInt_lt] at *
  rw [← Int32.toInt_inj]
  omega
theorem own_nnJ {x y : Int64} (h : ¬ x < y) (q : ¬ y < x) : x = y := by
  rw [Int64.lt_iff_toInt_lt] at *
  rw [← Int64.toInt_inj]
  omega
end Own
theorem d1_0 : decode prog_118_method_3_code 0 = .ok (.iload_n 0, 1) := by decide +kernel
theorem d1_1 : decode prog_118_method_3_code 1 = .ok (.lookupswitch 63 #[(65, 43), (67, 48), (71, 53), (84, 58)], 43) := by decide +kernel
theorem d1_44 : decode prog_118_method_3_code 44 = .ok (.bipush 84, 2) := by decide +kernel
theorem d1_46 : decode prog_118_method_3_code 46 = .ok (.goto 20, 3) := by decide +kernel
theorem d1_49 : decode prog_118_method_3_code 49 = .ok (.bipush 71, 2) := by decide +kernel
theorem d1_51 : decode prog_118_method_3_code 51 = .ok (.goto 15, 3) := by decide +kernel
theorem d1_54 : decode prog_118_method_3_code 54 = .ok (.bipush 67, 2) := by decide +kernel
theorem d1_56 : decode prog_118_method_3_code 56 = .ok (.goto 10, 3) := by decide +kernel
theorem d1_59 : decode prog_118_method_3_code 59 = .ok (.bipush 65, 2) := by decide +kernel
theorem d1_61 : decode prog_118_method_3_code 61 = .ok (.goto 5, 3) := by decide +kernel
theorem d1_64 : decode prog_118_method_3_code 64 = .ok (.bipush 78, 2) := by decide +kernel
theorem d1_66 : decode prog_118_method_3_code 66 = .ok (.ireturn, 1) := by decide +kernel
theorem pn_com_example_junctura_junctura_model_ReadPart : plainName "com/example/junctura/junctura/model/ReadPart" = true := by first | (simp [plainName, overriddenIn]; done) | decide +kernel
theorem ef_1 (m : MethodId) (p1_0 : Int32) : entryFrame m #[(.int p1_0)] 1 = mkF m 0 #[.val (.int p1_0)] [] := by first | (simp [entryFrame, mkF, argsToLocals, Value.category]; done) | rfl
def r1 (p1_0 : Int32) : Int32 := (if p1_0 = (65 : Int32) then (84 : Int32) else (if p1_0 = (67 : Int32) then (71 : Int32) else (if p1_0 = (71 : Int32) then (67 : Int32) else (if p1_0 = (84 : Int32) then (65 : Int32) else (78 : Int32)))))
def Q1 (Z : State) (p1_0 : Int32) (h0 : Heap) (n0 : Nat) (v : Option Value) (h : Heap) (L : List Loc) : Prop := v = some (.int (r1 p1_0)) ∧ Fr n0 L ∧ h = h0
set_option maxRecDepth 65536 in
set_option maxHeartbeats 40000000 in
theorem rm1 (l : Launch) (Z : State) (a0 : Array Value) (hw : ∀ d ∈ tables_1, d.before a0 Z = true) (ws : List Jvm.Cond) (p1_0 : Int32) (h0 : Heap) (n0 : Nat) (Z0 : n0 ≤ h0.size) :
    MetFree l (⟨"com/example/junctura/junctura/model/ReadPart", "complement", "(C)C"⟩ : MethodName) (head1 (Jvm.Cond.code (⟨"com/example/junctura/junctura/model/ReadPart", "complement", "(C)C"⟩ : MethodName) prog_118_method_3_code 1 (some .char) :: ws) ({ frames := 0, cells := 0, slots := 0, locals := 0 } : Room)) (fun a U => a = #[(.int p1_0)] ∧ Z.Warmed39 U.vm ∧ U.heap = h0) (fun _ _ _ _ _ => True) (fun _ U o U' => ∃ v L, o = .returned v ∧ Q1 Z p1_0 h0 n0 v U'.heap L ∧ FrameEnd U o U' L ({ frames := 0, cells := 0, slots := 0, locals := 0 } : Room).cells ({ frames := 0, cells := 0, slots := 0, locals := 0 } : Room).slots) := by
  refine MetFree.of_bodySF (plainFor_of_name pn_com_example_junctura_junctura_model_ReadPart) hisR ?_
  intro p e s m args below meth c s₁ Bd hml0 hP hK
  obtain ⟨rfl, hZ, hh⟩ := hP
  have hx := Bd.exec
  have hby := Bd.bytes
  have hlk := Bd.notSynchronized
  have hret := Bd.returns
  have hml : c.maxLocals = 1 := hml0
  have hown : s.vm.findClass "com/example/junctura/junctura/model/ReadPart" = some m.cls := findClass_of_methodNamed Bd.named
  have hnm := (name_of_methodNamed Bd.named Bd.method).1
  have X0 : Stand p l e ({ frames := 0, cells := 0, slots := 0, locals := 0 } : Room) s m #[(.int p1_0)] below meth c s₁ [] 0 0 := Stand.of_body Bd
  have e0 : s₁.heap = h0 := by rw [← hh, Bd.state]; rfl
  have N0 := Fr.nil n0
  have K0 : Keep h0 h0 [] := Keep.refl _ _
  show own_G p e below s (Q1 Z p1_0 h0 n0) ({ frames := 0, cells := 0, slots := 0, locals := 0 } : Room).cells ({ frames := 0, cells := 0, slots := 0, locals := 0 } : Room).slots s₁ (entryFrame m #[(.int p1_0)] 1)
  refine own_cast (ef_1 m p1_0) ?_
  refine own_s (g' := (mkF m 1 #[.val (.int p1_0)] [(.int p1_0)])) (fun _ k => XS.iloadN X0.here hx rfl (hb hby d1_0) rfl k) ?_
  by_cases c1 : p1_0 = (65 : Int32)
  ·skip
   refine own_s (g' := (mkF m 44 #[.val (.int p1_0)] [])) (fun t k => X0.lookupswitchHit hx (g := (mkF m 1 #[.val (.int p1_0)] [(.int p1_0)])) rfl rfl (hb hby d1_1) (by decide) (a := 65) (off := 43) (by rw [show p1_0 = (65 : Int32) from c1]; decide) (show (0 : Int) ≤ ((1 : Nat) : Int) + (43) from by decide) t k) ?_
   refine own_s (g' := (mkF m 46 #[.val (.int p1_0)] [(.int 84)])) (fun _ k => XS.bipush X0.here hx rfl (hb hby d1_44) k) ?_
   refine own_s (g' := (mkF m 66 #[.val (.int p1_0)] [(.int 84)])) (fun _ k => XS.goto X0.here hx rfl (pc0 := 46) (pc' := 66) rfl (hb hby d1_46) (by decide) (by decide) k) ?_
   refine own_retN X0 hx hlk (t := .char) hret (by simp) (hb hby d1_66) (z' := (84 : Int32)) (by decide) (by decide) (by decide) ?_
   show Q1 Z p1_0 h0 n0 _ s₁.heap _
   rw [e0]
   exact ⟨(congrArg (fun z => some (Value.int z)) (show (84 : Int32) = (r1 p1_0) from (Eq.symm (if_pos c1)))), N0, rfl⟩
  ·skip
   by_cases c2 : p1_0 = (67 : Int32)
   ·skip
    refine own_s (g' := (mkF m 49 #[.val (.int p1_0)] [])) (fun t k => X0.lookupswitchHit hx (g := (mkF m 1 #[.val (.int p1_0)] [(.int p1_0)])) rfl rfl (hb hby d1_1) (by decide) (a := 67) (off := 48) (by rw [show p1_0 = (67 : Int32) from c2]; decide) (show (0 : Int) ≤ ((1 : Nat) : Int) + (48) from by decide) t k) ?_
    refine own_s (g' := (mkF m 51 #[.val (.int p1_0)] [(.int 71)])) (fun _ k => XS.bipush X0.here hx rfl (hb hby d1_49) k) ?_
    refine own_s (g' := (mkF m 66 #[.val (.int p1_0)] [(.int 71)])) (fun _ k => XS.goto X0.here hx rfl (pc0 := 51) (pc' := 66) rfl (hb hby d1_51) (by decide) (by decide) k) ?_
    refine own_retN X0 hx hlk (t := .char) hret (by simp) (hb hby d1_66) (z' := (71 : Int32)) (by decide) (by decide) (by decide) ?_
    show Q1 Z p1_0 h0 n0 _ s₁.heap _
    rw [e0]
    exact ⟨(congrArg (fun z => some (Value.int z)) (show (71 : Int32) = (r1 p1_0) from (Eq.symm ((if_neg c1).trans (if_pos c2))))), N0, rfl⟩
   ·skip
    by_cases c3 : p1_0 = (71 : Int32)
    ·skip
     refine own_s (g' := (mkF m 54 #[.val (.int p1_0)] [])) (fun t k => X0.lookupswitchHit hx (g := (mkF m 1 #[.val (.int p1_0)] [(.int p1_0)])) rfl rfl (hb hby d1_1) (by decide) (a := 71) (off := 53) (by rw [show p1_0 = (71 : Int32) from c3]; decide) (show (0 : Int) ≤ ((1 : Nat) : Int) + (53) from by decide) t k) ?_
     refine own_s (g' := (mkF m 56 #[.val (.int p1_0)] [(.int 67)])) (fun _ k => XS.bipush X0.here hx rfl (hb hby d1_54) k) ?_
     refine own_s (g' := (mkF m 66 #[.val (.int p1_0)] [(.int 67)])) (fun _ k => XS.goto X0.here hx rfl (pc0 := 56) (pc' := 66) rfl (hb hby d1_56) (by decide) (by decide) k) ?_
     refine own_retN X0 hx hlk (t := .char) hret (by simp) (hb hby d1_66) (z' := (67 : Int32)) (by decide) (by decide) (by decide) ?_
     show Q1 Z p1_0 h0 n0 _ s₁.heap _
     rw [e0]
     exact ⟨(congrArg (fun z => some (Value.int z)) (show (67 : Int32) = (r1 p1_0) from (Eq.symm ((if_neg c1).trans ((if_neg c2).trans (if_pos c3)))))), N0, rfl⟩
    ·skip
     by_cases c4 : p1_0 = (84 : Int32)
     ·skip
      refine own_s (g' := (mkF m 59 #[.val (.int p1_0)] [])) (fun t k => X0.lookupswitchHit hx (g := (mkF m 1 #[.val (.int p1_0)] [(.int p1_0)])) rfl rfl (hb hby d1_1) (by decide) (a := 84) (off := 58) (by rw [show p1_0 = (84 : Int32) from c4]; decide) (show (0 : Int) ≤ ((1 : Nat) : Int) + (58) from by decide) t k) ?_
      refine own_s (g' := (mkF m 61 #[.val (.int p1_0)] [(.int 65)])) (fun _ k => XS.bipush X0.here hx rfl (hb hby d1_59) k) ?_
      refine own_s (g' := (mkF m 66 #[.val (.int p1_0)] [(.int 65)])) (fun _ k => XS.goto X0.here hx rfl (pc0 := 61) (pc' := 66) rfl (hb hby d1_61) (by decide) (by decide) k) ?_
      refine own_retN X0 hx hlk (t := .char) hret (by simp) (hb hby d1_66) (z' := (65 : Int32)) (by decide) (by decide) (by decide) ?_
      show Q1 Z p1_0 h0 n0 _ s₁.heap _
      rw [e0]
      exact ⟨(congrArg (fun z => some (Value.int z)) (show (65 : Int32) = (r1 p1_0) from (Eq.symm ((if_neg c1).trans ((if_neg c2).trans ((if_neg c3).trans (if_pos c4))))))), N0, rfl⟩
     ·skip
      have hms1 := find_miss (ps := #[(65, 43), (67, 48), (71, 53), (84, 58)]) (v := p1_0.toInt) (fun q hq => by
        have hq' : q ∈ ([(65, 43), (67, 48), (71, 53), (84, 58)] : List (Int × Int)) := hq
        simp only [List.mem_cons, List.not_mem_nil, or_false] at hq'
        rcases hq' with rfl | rfl | rfl | rfl
        · exact own_miss (65) (65 : Int32) (by decide) c1
        · exact own_miss (67) (67 : Int32) (by decide) c2
        · exact own_miss (71) (71 : Int32) (by decide) c3
        · exact own_miss (84) (84 : Int32) (by decide) c4)
      refine own_s (g' := (mkF m 64 #[.val (.int p1_0)] [])) (fun t k => X0.lookupswitchMiss hx (g := (mkF m 1 #[.val (.int p1_0)] [(.int p1_0)])) rfl rfl (hb hby d1_1) (by decide) hms1 (show (0 : Int) ≤ ((1 : Nat) : Int) + (63) from by decide) t k) ?_
      refine own_s (g' := (mkF m 66 #[.val (.int p1_0)] [(.int 78)])) (fun _ k => XS.bipush X0.here hx rfl (hb hby d1_64) k) ?_
      refine own_retN X0 hx hlk (t := .char) hret (by simp) (hb hby d1_66) (z' := (78 : Int32)) (by decide) (by decide) (by decide) ?_
      show Q1 Z p1_0 h0 n0 _ s₁.heap _
      rw [e0]
      exact ⟨(congrArg (fun z => some (Value.int z)) (show (78 : Int32) = (r1 p1_0) from (Eq.symm ((if_neg c1).trans ((if_neg c2).trans ((if_neg c3).trans (if_neg c4))))))), N0, rfl⟩
theorem own_and3 (x : Int32) : x &&& (3 : Int32) = (0 : Int32) ∨ x &&& (3 : Int32) = (1 : Int32) ∨ x &&& (3 : Int32) = (2 : Int32) ∨ x &&& (3 : Int32) = (3 : Int32) := by
  have h1 := c_mask x 3 2 (by decide) (by decide)
  have h2 : ((2 ^ 2 : Nat) : Int) = 4 := by decide
  rw [h2] at h1
  have h3 : (x &&& 3).toInt = 0 ∨ (x &&& 3).toInt = 1 ∨ (x &&& 3).toInt = 2 ∨ (x &&& 3).toInt = 3 := by omega
  rcases h3 with h | h | h | h
  · left; exact Int32.toInt_inj.mp (h.trans (by decide))
  · right; left; exact Int32.toInt_inj.mp (h.trans (by decide))
  · right; right; left; exact Int32.toInt_inj.mp (h.trans (by decide))
  · right; right; right; exact Int32.toInt_inj.mp (h.trans (by decide))
theorem pd__C_C : parseMethodDescriptor "(C)C" = some ⟨[.char], some .char⟩ := by decide +kernel
theorem pn_com_example_junctura_junctura_model_ReadPartComplementPinLaw : plainName "com/example/junctura/junctura/model/ReadPartComplementPinLaw" = true := by first | (simp [plainName, overriddenIn]; done) | decide +kernel
theorem ef_0 (m : MethodId) (p0_0 : Int32) (p0_1 : Int32) : entryFrame m #[(.int p0_0), (.int p0_1)] maxLocals = mkF m 0 #[.val (.int p0_0), .val (.int p0_1), .unset, .unset, .unset, .unset, .unset, .unset, .unset] [] := by first | (simp [entryFrame, mkF, argsToLocals, Value.category, maxLocals]; done) | rfl
def t0_54 (p0_1 : Int32) : Int32 := (p0_1 &&& (65535 : Int32)).toUInt32.toUInt16.toUInt32.toInt32
def Q0 (Z : State) (p0_0 : Int32) (p0_1 : Int32) (h0 : Heap) (n0 : Nat) (v : Option Value) (h : Heap) (L : List Loc) : Prop := v = some (.int (1 : Int32)) ∧ Fr n0 L
set_option maxRecDepth 65536 in
set_option maxHeartbeats 40000000 in
theorem rm0 (l : Launch) (Z : State) (a0 : Array Value) (hw : ∀ d ∈ tables_1, d.before a0 Z = true) (ws : List Jvm.Cond) (p0_0 : Int32) (p0_1 : Int32) (h0 : Heap) (n0 : Nat) (Z0 : n0 ≤ h0.size) :
    MetFree l x (head1 (Jvm.Cond.code x code maxLocals ret :: ws) room_1) (fun a U => a = #[(.int p0_0), (.int p0_1)] ∧ Z.Warmed39 U.vm ∧ U.heap = h0) (fun _ _ _ _ _ => True) (fun _ U o U' => ∃ v L, o = .returned v ∧ Q0 Z p0_0 p0_1 h0 n0 v U'.heap L ∧ FrameEnd U o U' L 16 128) := by
  refine MetFree.of_bodySF (plainFor_of_name pn_com_example_junctura_junctura_model_ReadPartComplementPinLaw) hisR ?_
  intro p e s m args below meth c s₁ Bd hml0 hP hK
  obtain ⟨rfl, hZ, hh⟩ := hP
  have hx := Bd.exec
  have hby := Bd.bytes
  have hlk := Bd.notSynchronized
  have hret := Bd.returns
  have hml : c.maxLocals = 9 := hml0
  have hown : s.vm.findClass "com/example/junctura/junctura/model/ReadPartComplementPinLaw" = some m.cls := findClass_of_methodNamed Bd.named
  have hnm := (name_of_methodNamed Bd.named Bd.method).1
  have X0 : Stand p l e room_1 s m #[(.int p0_0), (.int p0_1)] below meth c s₁ [] 0 0 := Stand.of_body Bd
  have e0 : s₁.heap = h0 := by rw [← hh, Bd.state]; rfl
  have N0 := Fr.nil n0
  have K0 : Keep h0 h0 [] := Keep.refl _ _
  show own_G p e below s (Q0 Z p0_0 p0_1 h0 n0) 16 128 s₁ (entryFrame m #[(.int p0_0), (.int p0_1)] maxLocals)
  have ww0 := hw _ (List.mem_of_getElem? (i := 0) rfl)
  have ww1 := hw _ (List.mem_of_getElem? (i := 1) rfl)
  have ww2 := hw _ (List.mem_of_getElem? (i := 2) rfl)
  have ww3 := hw _ (List.mem_of_getElem? (i := 3) rfl)
  have ww4 := hw _ (List.mem_of_getElem? (i := 4) rfl)
  have ww5 := hw _ (List.mem_of_getElem? (i := 5) rfl)
  refine own_cast (ef_0 m p0_0 p0_1) ?_
  refine own_s (g' := (mkF m 1 #[.val (.int p0_0), .val (.int p0_1), .unset, .unset, .unset, .unset, .unset, .unset, .unset] [(.int 4)])) (fun _ k => XS.iconst X0.here hx rfl (hb hby at_0) k) ?_
  obtain ⟨T5, h5, k5, X5, e5, E5, A5, st5⟩ := newP (aty := .char) X0 hx hZ ww0 e0 (g := (mkF m 1 #[.val (.int p0_0), .val (.int p0_1), .unset, .unset, .unset, .unset, .unset, .unset, .unset] [(.int 4)])) rfl (hb hby at_1) rfl (by decide) (cap := 4) (by decide) (by decide) (by decide) (by decide)
  obtain ⟨b5, ga5⟩ : ∃ z, z = h0.size := ⟨_, rfl⟩
  rw [← ga5] at A5 st5
  have g_b5 := Nat.le_trans Z0 (Nat.le_of_eq ga5.symm)
  have sz_b5 := Nat.le_trans K0.1 (Nat.le_of_eq ga5.symm)
  have V5 : Arv Z h5 b5 k5 .char (4 : Int32) [(.int 0), (.int 0), (.int 0), (.int 0)] (.int 0) := (Arv.new A5 (by decide)).pad (pad_rep [] (.int 0) 4)
  have K5 := K0.ext E5
  refine own_s (g' := (mkF m 3 #[.val (.int p0_0), .val (.int p0_1), .unset, .unset, .unset, .unset, .unset, .unset, .unset] [(.ref b5)])) st5 ?_
  refine own_s (g' := (mkF m 4 #[.val (.int p0_0), .val (.int p0_1), .unset, .unset, .unset, .unset, .unset, .unset, .unset] [(.ref b5), (.ref b5)])) (fun _ k => XS.dup X5.here hx rfl (hb hby at_3) rfl rfl k) ?_
  refine own_s (g' := (mkF m 5 #[.val (.int p0_0), .val (.int p0_1), .unset, .unset, .unset, .unset, .unset, .unset, .unset] [(.int 0), (.ref b5), (.ref b5)])) (fun _ k => XS.iconst X5.here hx rfl (hb hby at_4) k) ?_
  refine own_s (g' := (mkF m 7 #[.val (.int p0_0), .val (.int p0_1), .unset, .unset, .unset, .unset, .unset, .unset, .unset] [(.int 65), (.int 0), (.ref b5), (.ref b5)])) (fun _ k => XS.bipush X5.here hx rfl (hb hby at_5) k) ?_
  obtain ⟨cl6, Ar6, q6, S6, M6, H6, G6⟩ := id V5
  obtain ⟨T6, h6, X6, e6, W6, st6⟩ := stC X5 hx hZ e5 Ar6 (j := (0 : Int32)) (inb_of S6 ⟨by decide, by decide⟩) (g := (mkF m 7 #[.val (.int p0_0), .val (.int p0_1), .unset, .unset, .unset, .unset, .unset, .unset, .unset] [(.int 65), (.int 0), (.ref b5), (.ref b5)])) rfl rfl (hb hby at_7)
  have f7 : Arv Z h6 b5 k5 .char (4 : Int32) [(.int 65), (.int 0), (.int 0), (.int 0)] (.int 0) := Arv.set Ar6 q6 S6 M6 H6 G6 (fits_nar_char _) W6 0 rfl (Nat.le_of_ble_eq_true rfl)
  have K6 := K5.wr W6 (Or.inr sz_b5)
  have N6 := Fr.snoc X6 N0 g_b5
  refine own_s (g' := (mkF m 8 #[.val (.int p0_0), .val (.int p0_1), .unset, .unset, .unset, .unset, .unset, .unset, .unset] [(.ref b5)])) st6 ?_
  refine own_s (g' := (mkF m 9 #[.val (.int p0_0), .val (.int p0_1), .unset, .unset, .unset, .unset, .unset, .unset, .unset] [(.ref b5), (.ref b5)])) (fun _ k => XS.dup X6.here hx rfl (hb hby at_8) rfl rfl k) ?_
  refine own_s (g' := (mkF m 10 #[.val (.int p0_0), .val (.int p0_1), .unset, .unset, .unset, .unset, .unset, .unset, .unset] [(.int 1), (.ref b5), (.ref b5)])) (fun _ k => XS.iconst X6.here hx rfl (hb hby at_9) k) ?_
  refine own_s (g' := (mkF m 12 #[.val (.int p0_0), .val (.int p0_1), .unset, .unset, .unset, .unset, .unset, .unset, .unset] [(.int 67), (.int 1), (.ref b5), (.ref b5)])) (fun _ k => XS.bipush X6.here hx rfl (hb hby at_10) k) ?_
  obtain ⟨cl8, Ar8, q8, S8, M8, H8, G8⟩ := id f7
  obtain ⟨T8, h8, X8, e8, W8, st8⟩ := stC X6 hx hZ e6 Ar8 (j := (1 : Int32)) (inb_of S8 ⟨by decide, by decide⟩) (g := (mkF m 12 #[.val (.int p0_0), .val (.int p0_1), .unset, .unset, .unset, .unset, .unset, .unset, .unset] [(.int 67), (.int 1), (.ref b5), (.ref b5)])) rfl rfl (hb hby at_12)
  have f9 : Arv Z h8 b5 k5 .char (4 : Int32) [(.int 65), (.int 67), (.int 0), (.int 0)] (.int 0) := Arv.set Ar8 q8 S8 M8 H8 G8 (fits_nar_char _) W8 1 rfl (Nat.le_of_ble_eq_true rfl)
  have K8 := K6.wr W8 (Or.inr sz_b5)
  have N8 := Fr.snoc X8 N6 g_b5
  refine own_s (g' := (mkF m 13 #[.val (.int p0_0), .val (.int p0_1), .unset, .unset, .unset, .unset, .unset, .unset, .unset] [(.ref b5)])) st8 ?_
  refine own_s (g' := (mkF m 14 #[.val (.int p0_0), .val (.int p0_1), .unset, .unset, .unset, .unset, .unset, .unset, .unset] [(.ref b5), (.ref b5)])) (fun _ k => XS.dup X8.here hx rfl (hb hby at_13) rfl rfl k) ?_
  refine own_s (g' := (mkF m 15 #[.val (.int p0_0), .val (.int p0_1), .unset, .unset, .unset, .unset, .unset, .unset, .unset] [(.int 2), (.ref b5), (.ref b5)])) (fun _ k => XS.iconst X8.here hx rfl (hb hby at_14) k) ?_
  refine own_s (g' := (mkF m 17 #[.val (.int p0_0), .val (.int p0_1), .unset, .unset, .unset, .unset, .unset, .unset, .unset] [(.int 71), (.int 2), (.ref b5), (.ref b5)])) (fun _ k => XS.bipush X8.here hx rfl (hb hby at_15) k) ?_
  obtain ⟨cl10, Ar10, q10, S10, M10, H10, G10⟩ := id f9
  obtain ⟨T10, h10, X10, e10, W10, st10⟩ := stC X8 hx hZ e8 Ar10 (j := (2 : Int32)) (inb_of S10 ⟨by decide, by decide⟩) (g := (mkF m 17 #[.val (.int p0_0), .val (.int p0_1), .unset, .unset, .unset, .unset, .unset, .unset, .unset] [(.int 71), (.int 2), (.ref b5), (.ref b5)])) rfl rfl (hb hby at_17)
  have f11 : Arv Z h10 b5 k5 .char (4 : Int32) [(.int 65), (.int 67), (.int 71), (.int 0)] (.int 0) := Arv.set Ar10 q10 S10 M10 H10 G10 (fits_nar_char _) W10 2 rfl (Nat.le_of_ble_eq_true rfl)
  have K10 := K8.wr W10 (Or.inr sz_b5)
  have N10 := Fr.snoc X10 N8 g_b5
  refine own_s (g' := (mkF m 18 #[.val (.int p0_0), .val (.int p0_1), .unset, .unset, .unset, .unset, .unset, .unset, .unset] [(.ref b5)])) st10 ?_
  refine own_s (g' := (mkF m 19 #[.val (.int p0_0), .val (.int p0_1), .unset, .unset, .unset, .unset, .unset, .unset, .unset] [(.ref b5), (.ref b5)])) (fun _ k => XS.dup X10.here hx rfl (hb hby at_18) rfl rfl k) ?_
  refine own_s (g' := (mkF m 20 #[.val (.int p0_0), .val (.int p0_1), .unset, .unset, .unset, .unset, .unset, .unset, .unset] [(.int 3), (.ref b5), (.ref b5)])) (fun _ k => XS.iconst X10.here hx rfl (hb hby at_19) k) ?_
  refine own_s (g' := (mkF m 22 #[.val (.int p0_0), .val (.int p0_1), .unset, .unset, .unset, .unset, .unset, .unset, .unset] [(.int 84), (.int 3), (.ref b5), (.ref b5)])) (fun _ k => XS.bipush X10.here hx rfl (hb hby at_20) k) ?_
  obtain ⟨cl12, Ar12, q12, S12, M12, H12, G12⟩ := id f11
  obtain ⟨T12, h12, X12, e12, W12, st12⟩ := stC X10 hx hZ e10 Ar12 (j := (3 : Int32)) (inb_of S12 ⟨by decide, by decide⟩) (g := (mkF m 22 #[.val (.int p0_0), .val (.int p0_1), .unset, .unset, .unset, .unset, .unset, .unset, .unset] [(.int 84), (.int 3), (.ref b5), (.ref b5)])) rfl rfl (hb hby at_22)
  have f13 : Arv Z h12 b5 k5 .char (4 : Int32) [(.int 65), (.int 67), (.int 71), (.int 84)] (.int 0) := Arv.set Ar12 q12 S12 M12 H12 G12 (fits_nar_char _) W12 3 rfl (Nat.le_of_ble_eq_true rfl)
  have K12 := K10.wr W12 (Or.inr sz_b5)
  have N12 := Fr.snoc X12 N10 g_b5
  refine own_s (g' := (mkF m 23 #[.val (.int p0_0), .val (.int p0_1), .unset, .unset, .unset, .unset, .unset, .unset, .unset] [(.ref b5)])) st12 ?_
  refine own_s (g' := (mkF m 24 #[.val (.int p0_0), .val (.int p0_1), .val (.ref b5), .unset, .unset, .unset, .unset, .unset, .unset] [])) (fun _ k => XS.astoreN X12.here hx rfl (hb hby at_23) rfl rfl (l' := #[.val (.int p0_0), .val (.int p0_1), .val (.ref b5), .unset, .unset, .unset, .unset, .unset, .unset]) rfl k) ?_
  refine own_s (g' := (mkF m 25 #[.val (.int p0_0), .val (.int p0_1), .val (.ref b5), .unset, .unset, .unset, .unset, .unset, .unset] [(.int p0_0)])) (fun _ k => XS.iloadN X12.here hx rfl (hb hby at_24) rfl k) ?_
  refine own_s (g' := (mkF m 26 #[.val (.int p0_0), .val (.int p0_1), .val (.ref b5), .unset, .unset, .unset, .unset, .unset, .unset] [(.int 3), (.int p0_0)])) (fun _ k => XS.iconst X12.here hx rfl (hb hby at_25) k) ?_
  refine own_s (g' := (mkF m 27 #[.val (.int p0_0), .val (.int p0_1), .val (.ref b5), .unset, .unset, .unset, .unset, .unset, .unset] [(.int (p0_0 &&& (3 : Int32)))])) (fun _ k => XS.iand X12.here hx rfl (hb hby at_26) rfl k) ?_
  rcases own_and3 p0_0 with hi | hi | hi | hi
  ·skip
   rw [show (p0_0 &&& (3 : Int32)) = (0 : Int32) from hi]
   refine own_s (g' := (mkF m 28 #[.val (.int p0_0), .val (.int p0_1), .val (.ref b5), .val (.int 0), .unset, .unset, .unset, .unset, .unset] [])) (fun _ k => XS.istoreN X12.here hx rfl (hb hby at_27) rfl (l' := #[.val (.int p0_0), .val (.int p0_1), .val (.ref b5), .val (.int 0), .unset, .unset, .unset, .unset, .unset]) rfl k) ?_
   refine own_s (g' := (mkF m 29 #[.val (.int p0_0), .val (.int p0_1), .val (.ref b5), .val (.int 0), .unset, .unset, .unset, .unset, .unset] [(.ref b5)])) (fun _ k => XS.aloadN X12.here hx rfl (hb hby at_28) rfl rfl k) ?_
   refine own_s (g' := (mkF m 30 #[.val (.int p0_0), .val (.int p0_1), .val (.ref b5), .val (.int 0), .unset, .unset, .unset, .unset, .unset] [(.int 0), (.ref b5)])) (fun _ k => XS.iloadN X12.here hx rfl (hb hby at_29) rfl k) ?_
   obtain ⟨cl14, Ar14, -, S14, -, H14, -⟩ := id f13
   have in14 := inb_of S14 (j := (0 : Int32)) ⟨by decide, by decide⟩
   refine own_s (g' := (mkF m 31 #[.val (.int p0_0), .val (.int p0_1), .val (.ref b5), .val (.int 0), .unset, .unset, .unset, .unset, .unset] [(.int 65)])) (X12.caload hx (j := (0 : Int32)) (v := (.int 65)) (by rw [e12]; exact Ar14.1) (State.isArrayOf_alike hZ.alike Ar14.2.1) Ar14.2.2 in14 (Has.at H14 in14 rfl) (g := (mkF m 30 #[.val (.int p0_0), .val (.int p0_1), .val (.ref b5), .val (.int 0), .unset, .unset, .unset, .unset, .unset] [(.int 0), (.ref b5)])) rfl rfl (hb hby at_30)) ?_
   obtain ⟨_, _, ⟨T15, L15, k15, n15⟩, -, X15, ⟨Lc15, hQ15, l15, y15, z15⟩, st15⟩ := Jvm.LawKit.callS X12 hx (y := (⟨"com/example/junctura/junctura/model/ReadPart", "complement", "(C)C"⟩ : MethodName)) hown (mvT hZ ww1) (mvT hZ ww2) (mvT hZ ww3) (mvT hZ ww4) (by decide) (backOf (W := 0) (rm1 l Z a0 hw [] (65 : Int32) h12 n0 (Nat.le_trans Z0 K12.1) ) hZ ww4 ww3 (by decide) (by decide)) (g := (mkF m 31 #[.val (.int p0_0), .val (.int p0_1), .val (.ref b5), .val (.int 0), .unset, .unset, .unset, .unset, .unset] [(.int 65)])) rfl (by rw [hml]; rfl) (argsL := [(.int 65)]) (rest := []) (lenOf pd__C_C rfl) rfl (by show 2 * 0 + _ ≤ _; exact Nat.le_of_eq rfl) (hb hby at_31) (fun _ _ => ⟨rfl, e12, (by decide : 1 + 0 ≤ _), (by decide : 4 + 0 ≤ _)⟩)
   dsimp only [Pt.U, Pt.locs, Pt.cells, Pt.slots] at X15 l15 y15 z15 st15 hQ15
   subst l15 y15 z15
   obtain ⟨rfl, N15q, eh15⟩ := hQ15
   have N15 := Fr.app N12 N15q
   refine own_s (g' := (mkF m 34 #[.val (.int p0_0), .val (.int p0_1), .val (.ref b5), .val (.int 0), .unset, .unset, .unset, .unset, .unset] [(.int (r1 (65 : Int32)))])) st15 ?_
   rw [show (r1 (65 : Int32)) = (84 : Int32) from (if_pos ((by decide) : (65 : Int32) = (65 : Int32)))]
   refine own_s (g' := (mkF m 35 #[.val (.int p0_0), .val (.int p0_1), .val (.ref b5), .val (.int 0), .unset, .unset, .unset, .unset, .unset] [(.ref b5), (.int 84)])) (fun _ k => XS.aloadN X15.here hx rfl (hb hby at_34) rfl rfl k) ?_
   refine own_s (g' := (mkF m 36 #[.val (.int p0_0), .val (.int p0_1), .val (.ref b5), .val (.int 0), .unset, .unset, .unset, .unset, .unset] [(.int 3), (.ref b5), (.int 84)])) (fun _ k => XS.iconst X15.here hx rfl (hb hby at_35) k) ?_
   refine own_s (g' := (mkF m 37 #[.val (.int p0_0), .val (.int p0_1), .val (.ref b5), .val (.int 0), .unset, .unset, .unset, .unset, .unset] [(.int 0), (.int 3), (.ref b5), (.int 84)])) (fun _ k => XS.iloadN X15.here hx rfl (hb hby at_36) rfl k) ?_
   refine own_s (g' := (mkF m 38 #[.val (.int p0_0), .val (.int p0_1), .val (.ref b5), .val (.int 0), .unset, .unset, .unset, .unset, .unset] [(.int ((3 : Int32) - (0 : Int32))), (.ref b5), (.int 84)])) (fun _ k => XS.isub X15.here hx rfl (hb hby at_37) rfl k) ?_
   rw [show ((3 : Int32) - (0 : Int32)) = (3 : Int32) from by decide]
   obtain ⟨cl16, Ar16, -, S16, -, H16, -⟩ := id f13
   have in16 := inb_of S16 (j := (3 : Int32)) ⟨by decide, by decide⟩
   refine own_s (g' := (mkF m 39 #[.val (.int p0_0), .val (.int p0_1), .val (.ref b5), .val (.int 0), .unset, .unset, .unset, .unset, .unset] [(.int 84), (.int 84)])) (X15.caload hx (j := (3 : Int32)) (v := (.int 84)) (by rw [eh15]; exact Ar16.1) (State.isArrayOf_alike hZ.alike Ar16.2.1) Ar16.2.2 in16 (Has.at H16 in16 rfl) (g := (mkF m 38 #[.val (.int p0_0), .val (.int p0_1), .val (.ref b5), .val (.int 0), .unset, .unset, .unset, .unset, .unset] [(.int 3), (.ref b5), (.int 84)])) rfl rfl (hb hby at_38)) ?_
   refine own_s (g' := (mkF m 42 #[.val (.int p0_0), .val (.int p0_1), .val (.ref b5), .val (.int 0), .unset, .unset, .unset, .unset, .unset] [])) (fun _ k => XS.icmpNo X15.here hx rfl (hb hby at_39) rfl (teq ((by decide) : (84 : Int32) = (84 : Int32))).2 k) ?_
   refine own_s (g' := (mkF m 43 #[.val (.int p0_0), .val (.int p0_1), .val (.ref b5), .val (.int 0), .unset, .unset, .unset, .unset, .unset] [(.int 1)])) (fun _ k => XS.iconst X15.here hx rfl (hb hby at_42) k) ?_
   refine own_s (g' := (mkF m 47 #[.val (.int p0_0), .val (.int p0_1), .val (.ref b5), .val (.int 0), .unset, .unset, .unset, .unset, .unset] [(.int 1)])) (fun _ k => XS.goto X15.here hx rfl (pc0 := 43) (pc' := 47) rfl (hb hby at_43) (by decide) (by decide) k) ?_
   refine own_s (g' := (mkF m 49 #[.val (.int p0_0), .val (.int p0_1), .val (.ref b5), .val (.int 0), .val (.int 1), .unset, .unset, .unset, .unset] [])) (fun _ k => XS.istore X15.here hx rfl (hb hby at_47) rfl (l' := #[.val (.int p0_0), .val (.int p0_1), .val (.ref b5), .val (.int 0), .val (.int 1), .unset, .unset, .unset, .unset]) rfl k) ?_
   refine own_s (g' := (mkF m 50 #[.val (.int p0_0), .val (.int p0_1), .val (.ref b5), .val (.int 0), .val (.int 1), .unset, .unset, .unset, .unset] [(.int p0_1)])) (fun _ k => XS.iloadN X15.here hx rfl (hb hby at_49) rfl k) ?_
   refine own_s (g' := (mkF m 52 #[.val (.int p0_0), .val (.int p0_1), .val (.ref b5), .val (.int 0), .val (.int 1), .unset, .unset, .unset, .unset] [(.int 65535), (.int p0_1)])) (X15.ldcInt hx hown (mvT hZ ww5) (g := (mkF m 50 #[.val (.int p0_0), .val (.int p0_1), .val (.ref b5), .val (.int 0), .val (.int 1), .unset, .unset, .unset, .unset] [(.int p0_1)])) rfl (hb hby at_50)) ?_
   refine own_s (g' := (mkF m 53 #[.val (.int p0_0), .val (.int p0_1), .val (.ref b5), .val (.int 0), .val (.int 1), .unset, .unset, .unset, .unset] [(.int (p0_1 &&& (65535 : Int32)))])) (fun _ k => XS.iand X15.here hx rfl (hb hby at_52) rfl k) ?_
   refine own_s (g' := (mkF m 54 #[.val (.int p0_0), .val (.int p0_1), .val (.ref b5), .val (.int 0), .val (.int 1), .unset, .unset, .unset, .unset] [(.int (p0_1 &&& (65535 : Int32)).toUInt32.toUInt16.toUInt32.toInt32)])) (fun _ k => XS.i2c X15.here hx rfl (hb hby at_53) rfl k) ?_
   refine own_s (g' := (mkF m 56 #[.val (.int p0_0), .val (.int p0_1), .val (.ref b5), .val (.int 0), .val (.int 1), .val (.int (t0_54 p0_1)), .unset, .unset, .unset] [])) (fun _ k => XS.istore X15.here hx rfl (hb hby at_54) rfl (l' := #[.val (.int p0_0), .val (.int p0_1), .val (.ref b5), .val (.int 0), .val (.int 1), .val (.int (t0_54 p0_1)), .unset, .unset, .unset]) rfl k) ?_
   refine own_s (g' := (mkF m 58 #[.val (.int p0_0), .val (.int p0_1), .val (.ref b5), .val (.int 0), .val (.int 1), .val (.int (t0_54 p0_1)), .unset, .unset, .unset] [(.int (t0_54 p0_1))])) (fun _ k => XS.iload X15.here hx rfl (hb hby at_56) rfl k) ?_
   refine own_s (g' := (mkF m 60 #[.val (.int p0_0), .val (.int p0_1), .val (.ref b5), .val (.int 0), .val (.int 1), .val (.int (t0_54 p0_1)), .unset, .unset, .unset] [(.int 65), (.int (t0_54 p0_1))])) (fun _ k => XS.bipush X15.here hx rfl (hb hby at_58) k) ?_
   by_cases c17 : (t0_54 p0_1) = (65 : Int32)
   ·skip
    refine own_s (g' := (mkF m 84 #[.val (.int p0_0), .val (.int p0_1), .val (.ref b5), .val (.int 0), .val (.int 1), .val (.int (t0_54 p0_1)), .unset, .unset, .unset] [])) (fun _ k => XS.icmpYes X15.here hx rfl (pc0 := 60) (pc' := 84) rfl (hb hby at_60) rfl (teq c17).1 (by decide) (by decide) k) ?_
    refine own_s (g' := (mkF m 85 #[.val (.int p0_0), .val (.int p0_1), .val (.ref b5), .val (.int 0), .val (.int 1), .val (.int (t0_54 p0_1)), .unset, .unset, .unset] [(.int 1)])) (fun _ k => XS.iconst X15.here hx rfl (hb hby at_84) k) ?_
    refine own_s (g' := (mkF m 89 #[.val (.int p0_0), .val (.int p0_1), .val (.ref b5), .val (.int 0), .val (.int 1), .val (.int (t0_54 p0_1)), .unset, .unset, .unset] [(.int 1)])) (fun _ k => XS.goto X15.here hx rfl (pc0 := 85) (pc' := 89) rfl (hb hby at_85) (by decide) (by decide) k) ?_
    refine own_s (g' := (mkF m 91 #[.val (.int p0_0), .val (.int p0_1), .val (.ref b5), .val (.int 0), .val (.int 1), .val (.int (t0_54 p0_1)), .val (.int 1), .unset, .unset] [])) (fun _ k => XS.istore X15.here hx rfl (hb hby at_89) rfl (l' := #[.val (.int p0_0), .val (.int p0_1), .val (.ref b5), .val (.int 0), .val (.int 1), .val (.int (t0_54 p0_1)), .val (.int 1), .unset, .unset]) rfl k) ?_
    refine own_s (g' := (mkF m 93 #[.val (.int p0_0), .val (.int p0_1), .val (.ref b5), .val (.int 0), .val (.int 1), .val (.int (t0_54 p0_1)), .val (.int 1), .unset, .unset] [(.int (t0_54 p0_1))])) (fun _ k => XS.iload X15.here hx rfl (hb hby at_91) rfl k) ?_
    obtain ⟨_, _, ⟨T18, L18, k18, n18⟩, -, X18, ⟨Lc18, hQ18, l18, y18, z18⟩, st18⟩ := Jvm.LawKit.callS X15 hx (y := (⟨"com/example/junctura/junctura/model/ReadPart", "complement", "(C)C"⟩ : MethodName)) hown (mvT hZ ww1) (mvT hZ ww2) (mvT hZ ww3) (mvT hZ ww4) (by decide) (backOf (W := 0) (rm1 l Z a0 hw [] (t0_54 p0_1) h12 n0 (Nat.le_trans Z0 K12.1) ) hZ ww4 ww3 (by decide) (by decide)) (g := (mkF m 93 #[.val (.int p0_0), .val (.int p0_1), .val (.ref b5), .val (.int 0), .val (.int 1), .val (.int (t0_54 p0_1)), .val (.int 1), .unset, .unset] [(.int (t0_54 p0_1))])) rfl (by rw [hml]; rfl) (argsL := [(.int (t0_54 p0_1))]) (rest := []) (lenOf pd__C_C rfl) rfl (by show 2 * 0 + _ ≤ _; exact Nat.le_of_eq rfl) (hb hby at_93) (fun _ _ => ⟨rfl, eh15, (by decide : 1 + 0 ≤ _), (by decide : 4 + 0 ≤ _)⟩)
    dsimp only [Pt.U, Pt.locs, Pt.cells, Pt.slots] at X18 l18 y18 z18 st18 hQ18
    subst l18 y18 z18
    obtain ⟨rfl, N18q, eh18⟩ := hQ18
    have N18 := Fr.app N15 N18q
    refine own_s (g' := (mkF m 96 #[.val (.int p0_0), .val (.int p0_1), .val (.ref b5), .val (.int 0), .val (.int 1), .val (.int (t0_54 p0_1)), .val (.int 1), .unset, .unset] [(.int (r1 (t0_54 p0_1)))])) st18 ?_
    rw [show (r1 (t0_54 p0_1)) = (84 : Int32) from (if_pos c17)]
    refine own_s (g' := (mkF m 98 #[.val (.int p0_0), .val (.int p0_1), .val (.ref b5), .val (.int 0), .val (.int 1), .val (.int (t0_54 p0_1)), .val (.int 1), .val (.int 84), .unset] [])) (fun _ k => XS.istore X18.here hx rfl (hb hby at_96) rfl (l' := #[.val (.int p0_0), .val (.int p0_1), .val (.ref b5), .val (.int 0), .val (.int 1), .val (.int (t0_54 p0_1)), .val (.int 1), .val (.int 84), .unset]) rfl k) ?_
    refine own_s (g' := (mkF m 100 #[.val (.int p0_0), .val (.int p0_1), .val (.ref b5), .val (.int 0), .val (.int 1), .val (.int (t0_54 p0_1)), .val (.int 1), .val (.int 84), .unset] [(.int 1)])) (fun _ k => XS.iload X18.here hx rfl (hb hby at_98) rfl k) ?_
    refine own_s (g' := (mkF m 103 #[.val (.int p0_0), .val (.int p0_1), .val (.ref b5), .val (.int 0), .val (.int 1), .val (.int (t0_54 p0_1)), .val (.int 1), .val (.int 84), .unset] [])) (fun _ k => XS.ifNo X18.here hx rfl (hb hby at_100) rfl ((if0 _ _).trans (feq ((by decide) : ¬ (1 : Int32) = (0 : Int32))).1) k) ?_
    refine own_s (g' := (mkF m 105 #[.val (.int p0_0), .val (.int p0_1), .val (.ref b5), .val (.int 0), .val (.int 1), .val (.int (t0_54 p0_1)), .val (.int 1), .val (.int 84), .unset] [(.int 84)])) (fun _ k => XS.iload X18.here hx rfl (hb hby at_103) rfl k) ?_
    obtain ⟨_, _, ⟨T19, L19, k19, n19⟩, -, X19, ⟨Lc19, hQ19, l19, y19, z19⟩, st19⟩ := Jvm.LawKit.callS X18 hx (y := (⟨"com/example/junctura/junctura/model/ReadPart", "complement", "(C)C"⟩ : MethodName)) hown (mvT hZ ww1) (mvT hZ ww2) (mvT hZ ww3) (mvT hZ ww4) (by decide) (backOf (W := 0) (rm1 l Z a0 hw [] (84 : Int32) h12 n0 (Nat.le_trans Z0 K12.1) ) hZ ww4 ww3 (by decide) (by decide)) (g := (mkF m 105 #[.val (.int p0_0), .val (.int p0_1), .val (.ref b5), .val (.int 0), .val (.int 1), .val (.int (t0_54 p0_1)), .val (.int 1), .val (.int 84), .unset] [(.int 84)])) rfl (by rw [hml]; rfl) (argsL := [(.int 84)]) (rest := []) (lenOf pd__C_C rfl) rfl (by show 2 * 0 + _ ≤ _; exact Nat.le_of_eq rfl) (hb hby at_105) (fun _ _ => ⟨rfl, eh18, (by decide : 1 + 0 ≤ _), (by decide : 4 + 0 ≤ _)⟩)
    dsimp only [Pt.U, Pt.locs, Pt.cells, Pt.slots] at X19 l19 y19 z19 st19 hQ19
    subst l19 y19 z19
    obtain ⟨rfl, N19q, eh19⟩ := hQ19
    have N19 := Fr.app N18 N19q
    refine own_s (g' := (mkF m 108 #[.val (.int p0_0), .val (.int p0_1), .val (.ref b5), .val (.int 0), .val (.int 1), .val (.int (t0_54 p0_1)), .val (.int 1), .val (.int 84), .unset] [(.int (r1 (84 : Int32)))])) st19 ?_
    rw [show (r1 (84 : Int32)) = (65 : Int32) from ((if_neg ((by decide) : ¬ (84 : Int32) = (65 : Int32))).trans ((if_neg ((by decide) : ¬ (84 : Int32) = (67 : Int32))).trans ((if_neg ((by decide) : ¬ (84 : Int32) = (71 : Int32))).trans (if_pos ((by decide) : (84 : Int32) = (84 : Int32))))))]
    refine own_s (g' := (mkF m 110 #[.val (.int p0_0), .val (.int p0_1), .val (.ref b5), .val (.int 0), .val (.int 1), .val (.int (t0_54 p0_1)), .val (.int 1), .val (.int 84), .unset] [(.int (t0_54 p0_1)), (.int 65)])) (fun _ k => XS.iload X19.here hx rfl (hb hby at_108) rfl k) ?_
    refine own_s (g' := (mkF m 113 #[.val (.int p0_0), .val (.int p0_1), .val (.ref b5), .val (.int 0), .val (.int 1), .val (.int (t0_54 p0_1)), .val (.int 1), .val (.int 84), .unset] [])) (fun _ k => XS.icmpNo X19.here hx rfl (hb hby at_110) rfl (teq ((by rw [c17] <;> decide) : (65 : Int32) = (t0_54 p0_1))).2 k) ?_
    refine own_s (g' := (mkF m 115 #[.val (.int p0_0), .val (.int p0_1), .val (.ref b5), .val (.int 0), .val (.int 1), .val (.int (t0_54 p0_1)), .val (.int 1), .val (.int 84), .unset] [(.int 84)])) (fun _ k => XS.iload X19.here hx rfl (hb hby at_113) rfl k) ?_
    refine own_s (g' := (mkF m 117 #[.val (.int p0_0), .val (.int p0_1), .val (.ref b5), .val (.int 0), .val (.int 1), .val (.int (t0_54 p0_1)), .val (.int 1), .val (.int 84), .unset] [(.int (t0_54 p0_1)), (.int 84)])) (fun _ k => XS.iload X19.here hx rfl (hb hby at_115) rfl k) ?_
    refine own_s (g' := (mkF m 120 #[.val (.int p0_0), .val (.int p0_1), .val (.ref b5), .val (.int 0), .val (.int 1), .val (.int (t0_54 p0_1)), .val (.int 1), .val (.int 84), .unset] [])) (fun _ k => XS.icmpNo X19.here hx rfl (hb hby at_117) rfl (feq ((by rw [c17] <;> decide) : ¬ (84 : Int32) = (t0_54 p0_1))).1 k) ?_
    refine own_s (g' := (mkF m 121 #[.val (.int p0_0), .val (.int p0_1), .val (.ref b5), .val (.int 0), .val (.int 1), .val (.int (t0_54 p0_1)), .val (.int 1), .val (.int 84), .unset] [(.int 1)])) (fun _ k => XS.iconst X19.here hx rfl (hb hby at_120) k) ?_
    refine own_s (g' := (mkF m 125 #[.val (.int p0_0), .val (.int p0_1), .val (.ref b5), .val (.int 0), .val (.int 1), .val (.int (t0_54 p0_1)), .val (.int 1), .val (.int 84), .unset] [(.int 1)])) (fun _ k => XS.goto X19.here hx rfl (pc0 := 121) (pc' := 125) rfl (hb hby at_121) (by decide) (by decide) k) ?_
    refine own_s (g' := (mkF m 127 #[.val (.int p0_0), .val (.int p0_1), .val (.ref b5), .val (.int 0), .val (.int 1), .val (.int (t0_54 p0_1)), .val (.int 1), .val (.int 84), .val (.int 1)] [])) (fun _ k => XS.istore X19.here hx rfl (hb hby at_125) rfl (l' := #[.val (.int p0_0), .val (.int p0_1), .val (.ref b5), .val (.int 0), .val (.int 1), .val (.int (t0_54 p0_1)), .val (.int 1), .val (.int 84), .val (.int 1)]) rfl k) ?_
    refine own_s (g' := (mkF m 144 #[.val (.int p0_0), .val (.int p0_1), .val (.ref b5), .val (.int 0), .val (.int 1), .val (.int (t0_54 p0_1)), .val (.int 1), .val (.int 84), .val (.int 1)] [])) (fun _ k => XS.goto X19.here hx rfl (pc0 := 127) (pc' := 144) rfl (hb hby at_127) (by decide) (by decide) k) ?_
    refine own_s (g' := (mkF m 146 #[.val (.int p0_0), .val (.int p0_1), .val (.ref b5), .val (.int 0), .val (.int 1), .val (.int (t0_54 p0_1)), .val (.int 1), .val (.int 84), .val (.int 1)] [(.int 1)])) (fun _ k => XS.iload X19.here hx rfl (hb hby at_144) rfl k) ?_
    refine own_s (g' := (mkF m 149 #[.val (.int p0_0), .val (.int p0_1), .val (.ref b5), .val (.int 0), .val (.int 1), .val (.int (t0_54 p0_1)), .val (.int 1), .val (.int 84), .val (.int 1)] [])) (fun _ k => XS.ifNo X19.here hx rfl (hb hby at_146) rfl ((if0 _ _).trans (feq ((by decide) : ¬ (1 : Int32) = (0 : Int32))).1) k) ?_
    refine own_s (g' := (mkF m 151 #[.val (.int p0_0), .val (.int p0_1), .val (.ref b5), .val (.int 0), .val (.int 1), .val (.int (t0_54 p0_1)), .val (.int 1), .val (.int 84), .val (.int 1)] [(.int 1)])) (fun _ k => XS.iload X19.here hx rfl (hb hby at_149) rfl k) ?_
    refine own_s (g' := (mkF m 154 #[.val (.int p0_0), .val (.int p0_1), .val (.ref b5), .val (.int 0), .val (.int 1), .val (.int (t0_54 p0_1)), .val (.int 1), .val (.int 84), .val (.int 1)] [])) (fun _ k => XS.ifNo X19.here hx rfl (hb hby at_151) rfl ((if0 _ _).trans (feq ((by decide) : ¬ (1 : Int32) = (0 : Int32))).1) k) ?_
    refine own_s (g' := (mkF m 155 #[.val (.int p0_0), .val (.int p0_1), .val (.ref b5), .val (.int 0), .val (.int 1), .val (.int (t0_54 p0_1)), .val (.int 1), .val (.int 84), .val (.int 1)] [(.int 1)])) (fun _ k => XS.iconst X19.here hx rfl (hb hby at_154) k) ?_
    refine own_s (g' := (mkF m 159 #[.val (.int p0_0), .val (.int p0_1), .val (.ref b5), .val (.int 0), .val (.int 1), .val (.int (t0_54 p0_1)), .val (.int 1), .val (.int 84), .val (.int 1)] [(.int 1)])) (fun _ k => XS.goto X19.here hx rfl (pc0 := 155) (pc' := 159) rfl (hb hby at_155) (by decide) (by decide) k) ?_
    refine own_retN X19 hx hlk (t := .boolean) hret (by simp) (hb hby at_159) (z' := (1 : Int32)) (by decide) (by decide) (by decide) ?_
    show Q0 Z p0_0 p0_1 h0 n0 _ T19.heap _
    rw [eh19]
    exact ⟨rfl, N19⟩
   ·skip
    refine own_s (g' := (mkF m 63 #[.val (.int p0_0), .val (.int p0_1), .val (.ref b5), .val (.int 0), .val (.int 1), .val (.int (t0_54 p0_1)), .unset, .unset, .unset] [])) (fun _ k => XS.icmpNo X15.here hx rfl (hb hby at_60) rfl (feq c17).1 k) ?_
    refine own_s (g' := (mkF m 65 #[.val (.int p0_0), .val (.int p0_1), .val (.ref b5), .val (.int 0), .val (.int 1), .val (.int (t0_54 p0_1)), .unset, .unset, .unset] [(.int (t0_54 p0_1))])) (fun _ k => XS.iload X15.here hx rfl (hb hby at_63) rfl k) ?_
    refine own_s (g' := (mkF m 67 #[.val (.int p0_0), .val (.int p0_1), .val (.ref b5), .val (.int 0), .val (.int 1), .val (.int (t0_54 p0_1)), .unset, .unset, .unset] [(.int 67), (.int (t0_54 p0_1))])) (fun _ k => XS.bipush X15.here hx rfl (hb hby at_65) k) ?_
    by_cases c20 : (t0_54 p0_1) = (67 : Int32)
    ·skip
     refine own_s (g' := (mkF m 84 #[.val (.int p0_0), .val (.int p0_1), .val (.ref b5), .val (.int 0), .val (.int 1), .val (.int (t0_54 p0_1)), .unset, .unset, .unset] [])) (fun _ k => XS.icmpYes X15.here hx rfl (pc0 := 67) (pc' := 84) rfl (hb hby at_67) rfl (teq c20).1 (by decide) (by decide) k) ?_
     refine own_s (g' := (mkF m 85 #[.val (.int p0_0), .val (.int p0_1), .val (.ref b5), .val (.int 0), .val (.int 1), .val (.int (t0_54 p0_1)), .unset, .unset, .unset] [(.int 1)])) (fun _ k => XS.iconst X15.here hx rfl (hb hby at_84) k) ?_
     refine own_s (g' := (mkF m 89 #[.val (.int p0_0), .val (.int p0_1), .val (.ref b5), .val (.int 0), .val (.int 1), .val (.int (t0_54 p0_1)), .unset, .unset, .unset] [(.int 1)])) (fun _ k => XS.goto X15.here hx rfl (pc0 := 85) (pc' := 89) rfl (hb hby at_85) (by decide) (by decide) k) ?_
     refine own_s (g' := (mkF m 91 #[.val (.int p0_0), .val (.int p0_1), .val (.ref b5), .val (.int 0), .val (.int 1), .val (.int (t0_54 p0_1)), .val (.int 1), .unset, .unset] [])) (fun _ k => XS.istore X15.here hx rfl (hb hby at_89) rfl (l' := #[.val (.int p0_0), .val (.int p0_1), .val (.ref b5), .val (.int 0), .val (.int 1), .val (.int (t0_54 p0_1)), .val (.int 1), .unset, .unset]) rfl k) ?_
     refine own_s (g' := (mkF m 93 #[.val (.int p0_0), .val (.int p0_1), .val (.ref b5), .val (.int 0), .val (.int 1), .val (.int (t0_54 p0_1)), .val (.int 1), .unset, .unset] [(.int (t0_54 p0_1))])) (fun _ k => XS.iload X15.here hx rfl (hb hby at_91) rfl k) ?_
     obtain ⟨_, _, ⟨T21, L21, k21, n21⟩, -, X21, ⟨Lc21, hQ21, l21, y21, z21⟩, st21⟩ := Jvm.LawKit.callS X15 hx (y := (⟨"com/example/junctura/junctura/model/ReadPart", "complement", "(C)C"⟩ : MethodName)) hown (mvT hZ ww1) (mvT hZ ww2) (mvT hZ ww3) (mvT hZ ww4) (by decide) (backOf (W := 0) (rm1 l Z a0 hw [] (t0_54 p0_1) h12 n0 (Nat.le_trans Z0 K12.1) ) hZ ww4 ww3 (by decide) (by decide)) (g := (mkF m 93 #[.val (.int p0_0), .val (.int p0_1), .val (.ref b5), .val (.int 0), .val (.int 1), .val (.int (t0_54 p0_1)), .val (.int 1), .unset, .unset] [(.int (t0_54 p0_1))])) rfl (by rw [hml]; rfl) (argsL := [(.int (t0_54 p0_1))]) (rest := []) (lenOf pd__C_C rfl) rfl (by show 2 * 0 + _ ≤ _; exact Nat.le_of_eq rfl) (hb hby at_93) (fun _ _ => ⟨rfl, eh15, (by decide : 1 + 0 ≤ _), (by decide : 4 + 0 ≤ _)⟩)
     dsimp only [Pt.U, Pt.locs, Pt.cells, Pt.slots] at X21 l21 y21 z21 st21 hQ21
     subst l21 y21 z21
     obtain ⟨rfl, N21q, eh21⟩ := hQ21
     have N21 := Fr.app N15 N21q
     refine own_s (g' := (mkF m 96 #[.val (.int p0_0), .val (.int p0_1), .val (.ref b5), .val (.int 0), .val (.int 1), .val (.int (t0_54 p0_1)), .val (.int 1), .unset, .unset] [(.int (r1 (t0_54 p0_1)))])) st21 ?_
     rw [show (r1 (t0_54 p0_1)) = (71 : Int32) from ((if_neg c17).trans (if_pos c20))]
     refine own_s (g' := (mkF m 98 #[.val (.int p0_0), .val (.int p0_1), .val (.ref b5), .val (.int 0), .val (.int 1), .val (.int (t0_54 p0_1)), .val (.int 1), .val (.int 71), .unset] [])) (fun _ k => XS.istore X21.here hx rfl (hb hby at_96) rfl (l' := #[.val (.int p0_0), .val (.int p0_1), .val (.ref b5), .val (.int 0), .val (.int 1), .val (.int (t0_54 p0_1)), .val (.int 1), .val (.int 71), .unset]) rfl k) ?_
     refine own_s (g' := (mkF m 100 #[.val (.int p0_0), .val (.int p0_1), .val (.ref b5), .val (.int 0), .val (.int 1), .val (.int (t0_54 p0_1)), .val (.int 1), .val (.int 71), .unset] [(.int 1)])) (fun _ k => XS.iload X21.here hx rfl (hb hby at_98) rfl k) ?_
     refine own_s (g' := (mkF m 103 #[.val (.int p0_0), .val (.int p0_1), .val (.ref b5), .val (.int 0), .val (.int 1), .val (.int (t0_54 p0_1)), .val (.int 1), .val (.int 71), .unset] [])) (fun _ k => XS.ifNo X21.here hx rfl (hb hby at_100) rfl ((if0 _ _).trans (feq ((by decide) : ¬ (1 : Int32) = (0 : Int32))).1) k) ?_
     refine own_s (g' := (mkF m 105 #[.val (.int p0_0), .val (.int p0_1), .val (.ref b5), .val (.int 0), .val (.int 1), .val (.int (t0_54 p0_1)), .val (.int 1), .val (.int 71), .unset] [(.int 71)])) (fun _ k => XS.iload X21.here hx rfl (hb hby at_103) rfl k) ?_
     obtain ⟨_, _, ⟨T22, L22, k22, n22⟩, -, X22, ⟨Lc22, hQ22, l22, y22, z22⟩, st22⟩ := Jvm.LawKit.callS X21 hx (y := (⟨"com/example/junctura/junctura/model/ReadPart", "complement", "(C)C"⟩ : MethodName)) hown (mvT hZ ww1) (mvT hZ ww2) (mvT hZ ww3) (mvT hZ ww4) (by decide) (backOf (W := 0) (rm1 l Z a0 hw [] (71 : Int32) h12 n0 (Nat.le_trans Z0 K12.1) ) hZ ww4 ww3 (by decide) (by decide)) (g := (mkF m 105 #[.val (.int p0_0), .val (.int p0_1), .val (.ref b5), .val (.int 0), .val (.int 1), .val (.int (t0_54 p0_1)), .val (.int 1), .val (.int 71), .unset] [(.int 71)])) rfl (by rw [hml]; rfl) (argsL := [(.int 71)]) (rest := []) (lenOf pd__C_C rfl) rfl (by show 2 * 0 + _ ≤ _; exact Nat.le_of_eq rfl) (hb hby at_105) (fun _ _ => ⟨rfl, eh21, (by decide : 1 + 0 ≤ _), (by decide : 4 + 0 ≤ _)⟩)
     dsimp only [Pt.U, Pt.locs, Pt.cells, Pt.slots] at X22 l22 y22 z22 st22 hQ22
     subst l22 y22 z22
     obtain ⟨rfl, N22q, eh22⟩ := hQ22
     have N22 := Fr.app N21 N22q
     refine own_s (g' := (mkF m 108 #[.val (.int p0_0), .val (.int p0_1), .val (.ref b5), .val (.int 0), .val (.int 1), .val (.int (t0_54 p0_1)), .val (.int 1), .val (.int 71), .unset] [(.int (r1 (71 : Int32)))])) st22 ?_
     rw [show (r1 (71 : Int32)) = (67 : Int32) from ((if_neg ((by decide) : ¬ (71 : Int32) = (65 : Int32))).trans ((if_neg ((by decide) : ¬ (71 : Int32) = (67 : Int32))).trans (if_pos ((by decide) : (71 : Int32) = (71 : Int32)))))]
     refine own_s (g' := (mkF m 110 #[.val (.int p0_0), .val (.int p0_1), .val (.ref b5), .val (.int 0), .val (.int 1), .val (.int (t0_54 p0_1)), .val (.int 1), .val (.int 71), .unset] [(.int (t0_54 p0_1)), (.int 67)])) (fun _ k => XS.iload X22.here hx rfl (hb hby at_108) rfl k) ?_
     refine own_s (g' := (mkF m 113 #[.val (.int p0_0), .val (.int p0_1), .val (.ref b5), .val (.int 0), .val (.int 1), .val (.int (t0_54 p0_1)), .val (.int 1), .val (.int 71), .unset] [])) (fun _ k => XS.icmpNo X22.here hx rfl (hb hby at_110) rfl (teq ((by rw [c20] <;> decide) : (67 : Int32) = (t0_54 p0_1))).2 k) ?_
     refine own_s (g' := (mkF m 115 #[.val (.int p0_0), .val (.int p0_1), .val (.ref b5), .val (.int 0), .val (.int 1), .val (.int (t0_54 p0_1)), .val (.int 1), .val (.int 71), .unset] [(.int 71)])) (fun _ k => XS.iload X22.here hx rfl (hb hby at_113) rfl k) ?_
     refine own_s (g' := (mkF m 117 #[.val (.int p0_0), .val (.int p0_1), .val (.ref b5), .val (.int 0), .val (.int 1), .val (.int (t0_54 p0_1)), .val (.int 1), .val (.int 71), .unset] [(.int (t0_54 p0_1)), (.int 71)])) (fun _ k => XS.iload X22.here hx rfl (hb hby at_115) rfl k) ?_
     refine own_s (g' := (mkF m 120 #[.val (.int p0_0), .val (.int p0_1), .val (.ref b5), .val (.int 0), .val (.int 1), .val (.int (t0_54 p0_1)), .val (.int 1), .val (.int 71), .unset] [])) (fun _ k => XS.icmpNo X22.here hx rfl (hb hby at_117) rfl (feq ((by rw [c20] <;> decide) : ¬ (71 : Int32) = (t0_54 p0_1))).1 k) ?_
     refine own_s (g' := (mkF m 121 #[.val (.int p0_0), .val (.int p0_1), .val (.ref b5), .val (.int 0), .val (.int 1), .val (.int (t0_54 p0_1)), .val (.int 1), .val (.int 71), .unset] [(.int 1)])) (fun _ k => XS.iconst X22.here hx rfl (hb hby at_120) k) ?_
     refine own_s (g' := (mkF m 125 #[.val (.int p0_0), .val (.int p0_1), .val (.ref b5), .val (.int 0), .val (.int 1), .val (.int (t0_54 p0_1)), .val (.int 1), .val (.int 71), .unset] [(.int 1)])) (fun _ k => XS.goto X22.here hx rfl (pc0 := 121) (pc' := 125) rfl (hb hby at_121) (by decide) (by decide) k) ?_
     refine own_s (g' := (mkF m 127 #[.val (.int p0_0), .val (.int p0_1), .val (.ref b5), .val (.int 0), .val (.int 1), .val (.int (t0_54 p0_1)), .val (.int 1), .val (.int 71), .val (.int 1)] [])) (fun _ k => XS.istore X22.here hx rfl (hb hby at_125) rfl (l' := #[.val (.int p0_0), .val (.int p0_1), .val (.ref b5), .val (.int 0), .val (.int 1), .val (.int (t0_54 p0_1)), .val (.int 1), .val (.int 71), .val (.int 1)]) rfl k) ?_
     refine own_s (g' := (mkF m 144 #[.val (.int p0_0), .val (.int p0_1), .val (.ref b5), .val (.int 0), .val (.int 1), .val (.int (t0_54 p0_1)), .val (.int 1), .val (.int 71), .val (.int 1)] [])) (fun _ k => XS.goto X22.here hx rfl (pc0 := 127) (pc' := 144) rfl (hb hby at_127) (by decide) (by decide) k) ?_
     refine own_s (g' := (mkF m 146 #[.val (.int p0_0), .val (.int p0_1), .val (.ref b5), .val (.int 0), .val (.int 1), .val (.int (t0_54 p0_1)), .val (.int 1), .val (.int 71), .val (.int 1)] [(.int 1)])) (fun _ k => XS.iload X22.here hx rfl (hb hby at_144) rfl k) ?_
     refine own_s (g' := (mkF m 149 #[.val (.int p0_0), .val (.int p0_1), .val (.ref b5), .val (.int 0), .val (.int 1), .val (.int (t0_54 p0_1)), .val (.int 1), .val (.int 71), .val (.int 1)] [])) (fun _ k => XS.ifNo X22.here hx rfl (hb hby at_146) rfl ((if0 _ _).trans (feq ((by decide) : ¬ (1 : Int32) = (0 : Int32))).1) k) ?_
     refine own_s (g' := (mkF m 151 #[.val (.int p0_0), .val (.int p0_1), .val (.ref b5), .val (.int 0), .val (.int 1), .val (.int (t0_54 p0_1)), .val (.int 1), .val (.int 71), .val (.int 1)] [(.int 1)])) (fun _ k => XS.iload X22.here hx rfl (hb hby at_149) rfl k) ?_
     refine own_s (g' := (mkF m 154 #[.val (.int p0_0), .val (.int p0_1), .val (.ref b5), .val (.int 0), .val (.int 1), .val (.int (t0_54 p0_1)), .val (.int 1), .val (.int 71), .val (.int 1)] [])) (fun _ k => XS.ifNo X22.here hx rfl (hb hby at_151) rfl ((if0 _ _).trans (feq ((by decide) : ¬ (1 : Int32) = (0 : Int32))).1) k) ?_
     refine own_s (g' := (mkF m 155 #[.val (.int p0_0), .val (.int p0_1), .val (.ref b5), .val (.int 0), .val (.int 1), .val (.int (t0_54 p0_1)), .val (.int 1), .val (.int 71), .val (.int 1)] [(.int 1)])) (fun _ k => XS.iconst X22.here hx rfl (hb hby at_154) k) ?_
     refine own_s (g' := (mkF m 159 #[.val (.int p0_0), .val (.int p0_1), .val (.ref b5), .val (.int 0), .val (.int 1), .val (.int (t0_54 p0_1)), .val (.int 1), .val (.int 71), .val (.int 1)] [(.int 1)])) (fun _ k => XS.goto X22.here hx rfl (pc0 := 155) (pc' := 159) rfl (hb hby at_155) (by decide) (by decide) k) ?_
     refine own_retN X22 hx hlk (t := .boolean) hret (by simp) (hb hby at_159) (z' := (1 : Int32)) (by decide) (by decide) (by decide) ?_
     show Q0 Z p0_0 p0_1 h0 n0 _ T22.heap _
     rw [eh22]
     exact ⟨rfl, N22⟩
    ·skip
     refine own_s (g' := (mkF m 70 #[.val (.int p0_0), .val (.int p0_1), .val (.ref b5), .val (.int 0), .val (.int 1), .val (.int (t0_54 p0_1)), .unset, .unset, .unset] [])) (fun _ k => XS.icmpNo X15.here hx rfl (hb hby at_67) rfl (feq c20).1 k) ?_
     refine own_s (g' := (mkF m 72 #[.val (.int p0_0), .val (.int p0_1), .val (.ref b5), .val (.int 0), .val (.int 1), .val (.int (t0_54 p0_1)), .unset, .unset, .unset] [(.int (t0_54 p0_1))])) (fun _ k => XS.iload X15.here hx rfl (hb hby at_70) rfl k) ?_
     refine own_s (g' := (mkF m 74 #[.val (.int p0_0), .val (.int p0_1), .val (.ref b5), .val (.int 0), .val (.int 1), .val (.int (t0_54 p0_1)), .unset, .unset, .unset] [(.int 71), (.int (t0_54 p0_1))])) (fun _ k => XS.bipush X15.here hx rfl (hb hby at_72) k) ?_
     by_cases c23 : (t0_54 p0_1) = (71 : Int32)
     ·skip
      refine own_s (g' := (mkF m 84 #[.val (.int p0_0), .val (.int p0_1), .val (.ref b5), .val (.int 0), .val (.int 1), .val (.int (t0_54 p0_1)), .unset, .unset, .unset] [])) (fun _ k => XS.icmpYes X15.here hx rfl (pc0 := 74) (pc' := 84) rfl (hb hby at_74) rfl (teq c23).1 (by decide) (by decide) k) ?_
      refine own_s (g' := (mkF m 85 #[.val (.int p0_0), .val (.int p0_1), .val (.ref b5), .val (.int 0), .val (.int 1), .val (.int (t0_54 p0_1)), .unset, .unset, .unset] [(.int 1)])) (fun _ k => XS.iconst X15.here hx rfl (hb hby at_84) k) ?_
      refine own_s (g' := (mkF m 89 #[.val (.int p0_0), .val (.int p0_1), .val (.ref b5), .val (.int 0), .val (.int 1), .val (.int (t0_54 p0_1)), .unset, .unset, .unset] [(.int 1)])) (fun _ k => XS.goto X15.here hx rfl (pc0 := 85) (pc' := 89) rfl (hb hby at_85) (by decide) (by decide) k) ?_
      refine own_s (g' := (mkF m 91 #[.val (.int p0_0), .val (.int p0_1), .val (.ref b5), .val (.int 0), .val (.int 1), .val (.int (t0_54 p0_1)), .val (.int 1), .unset, .unset] [])) (fun _ k => XS.istore X15.here hx rfl (hb hby at_89) rfl (l' := #[.val (.int p0_0), .val (.int p0_1), .val (.ref b5), .val (.int 0), .val (.int 1), .val (.int (t0_54 p0_1)), .val (.int 1), .unset, .unset]) rfl k) ?_
      refine own_s (g' := (mkF m 93 #[.val (.int p0_0), .val (.int p0_1), .val (.ref b5), .val (.int 0), .val (.int 1), .val (.int (t0_54 p0_1)), .val (.int 1), .unset, .unset] [(.int (t0_54 p0_1))])) (fun _ k => XS.iload X15.here hx rfl (hb hby at_91) rfl k) ?_
      obtain ⟨_, _, ⟨T24, L24, k24, n24⟩, -, X24, ⟨Lc24, hQ24, l24, y24, z24⟩, st24⟩ := Jvm.LawKit.callS X15 hx (y := (⟨"com/example/junctura/junctura/model/ReadPart", "complement", "(C)C"⟩ : MethodName)) hown (mvT hZ ww1) (mvT hZ ww2) (mvT hZ ww3) (mvT hZ ww4) (by decide) (backOf (W := 0) (rm1 l Z a0 hw [] (t0_54 p0_1) h12 n0 (Nat.le_trans Z0 K12.1) ) hZ ww4 ww3 (by decide) (by decide)) (g := (mkF m 93 #[.val (.int p0_0), .val (.int p0_1), .val (.ref b5), .val (.int 0), .val (.int 1), .val (.int (t0_54 p0_1)), .val (.int 1), .unset, .unset] [(.int (t0_54 p0_1))])) rfl (by rw [hml]; rfl) (argsL := [(.int (t0_54 p0_1))]) (rest := []) (lenOf pd__C_C rfl) rfl (by show 2 * 0 + _ ≤ _; exact Nat.le_of_eq rfl) (hb hby at_93) (fun _ _ => ⟨rfl, eh15, (by decide : 1 + 0 ≤ _), (by decide : 4 + 0 ≤ _)⟩)
      dsimp only [Pt.U, Pt.locs, Pt.cells, Pt.slots] at X24 l24 y24 z24 st24 hQ24
      subst l24 y24 z24
      obtain ⟨rfl, N24q, eh24⟩ := hQ24
      have N24 := Fr.app N15 N24q
      refine own_s (g' := (mkF m 96 #[.val (.int p0_0), .val (.int p0_1), .val (.ref b5), .val (.int 0), .val (.int 1), .val (.int (t0_54 p0_1)), .val (.int 1), .unset, .unset] [(.int (r1 (t0_54 p0_1)))])) st24 ?_
      rw [show (r1 (t0_54 p0_1)) = (67 : Int32) from ((if_neg c17).trans ((if_neg c20).trans (if_pos c23)))]
      refine own_s (g' := (mkF m 98 #[.val (.int p0_0), .val (.int p0_1), .val (.ref b5), .val (.int 0), .val (.int 1), .val (.int (t0_54 p0_1)), .val (.int 1), .val (.int 67), .unset] [])) (fun _ k => XS.istore X24.here hx rfl (hb hby at_96) rfl (l' := #[.val (.int p0_0), .val (.int p0_1), .val (.ref b5), .val (.int 0), .val (.int 1), .val (.int (t0_54 p0_1)), .val (.int 1), .val (.int 67), .unset]) rfl k) ?_
      refine own_s (g' := (mkF m 100 #[.val (.int p0_0), .val (.int p0_1), .val (.ref b5), .val (.int 0), .val (.int 1), .val (.int (t0_54 p0_1)), .val (.int 1), .val (.int 67), .unset] [(.int 1)])) (fun _ k => XS.iload X24.here hx rfl (hb hby at_98) rfl k) ?_
      refine own_s (g' := (mkF m 103 #[.val (.int p0_0), .val (.int p0_1), .val (.ref b5), .val (.int 0), .val (.int 1), .val (.int (t0_54 p0_1)), .val (.int 1), .val (.int 67), .unset] [])) (fun _ k => XS.ifNo X24.here hx rfl (hb hby at_100) rfl ((if0 _ _).trans (feq ((by decide) : ¬ (1 : Int32) = (0 : Int32))).1) k) ?_
      refine own_s (g' := (mkF m 105 #[.val (.int p0_0), .val (.int p0_1), .val (.ref b5), .val (.int 0), .val (.int 1), .val (.int (t0_54 p0_1)), .val (.int 1), .val (.int 67), .unset] [(.int 67)])) (fun _ k => XS.iload X24.here hx rfl (hb hby at_103) rfl k) ?_
      obtain ⟨_, _, ⟨T25, L25, k25, n25⟩, -, X25, ⟨Lc25, hQ25, l25, y25, z25⟩, st25⟩ := Jvm.LawKit.callS X24 hx (y := (⟨"com/example/junctura/junctura/model/ReadPart", "complement", "(C)C"⟩ : MethodName)) hown (mvT hZ ww1) (mvT hZ ww2) (mvT hZ ww3) (mvT hZ ww4) (by decide) (backOf (W := 0) (rm1 l Z a0 hw [] (67 : Int32) h12 n0 (Nat.le_trans Z0 K12.1) ) hZ ww4 ww3 (by decide) (by decide)) (g := (mkF m 105 #[.val (.int p0_0), .val (.int p0_1), .val (.ref b5), .val (.int 0), .val (.int 1), .val (.int (t0_54 p0_1)), .val (.int 1), .val (.int 67), .unset] [(.int 67)])) rfl (by rw [hml]; rfl) (argsL := [(.int 67)]) (rest := []) (lenOf pd__C_C rfl) rfl (by show 2 * 0 + _ ≤ _; exact Nat.le_of_eq rfl) (hb hby at_105) (fun _ _ => ⟨rfl, eh24, (by decide : 1 + 0 ≤ _), (by decide : 4 + 0 ≤ _)⟩)
      dsimp only [Pt.U, Pt.locs, Pt.cells, Pt.slots] at X25 l25 y25 z25 st25 hQ25
      subst l25 y25 z25
      obtain ⟨rfl, N25q, eh25⟩ := hQ25
      have N25 := Fr.app N24 N25q
      refine own_s (g' := (mkF m 108 #[.val (.int p0_0), .val (.int p0_1), .val (.ref b5), .val (.int 0), .val (.int 1), .val (.int (t0_54 p0_1)), .val (.int 1), .val (.int 67), .unset] [(.int (r1 (67 : Int32)))])) st25 ?_
      rw [show (r1 (67 : Int32)) = (71 : Int32) from ((if_neg ((by decide) : ¬ (67 : Int32) = (65 : Int32))).trans (if_pos ((by decide) : (67 : Int32) = (67 : Int32))))]
      refine own_s (g' := (mkF m 110 #[.val (.int p0_0), .val (.int p0_1), .val (.ref b5), .val (.int 0), .val (.int 1), .val (.int (t0_54 p0_1)), .val (.int 1), .val (.int 67), .unset] [(.int (t0_54 p0_1)), (.int 71)])) (fun _ k => XS.iload X25.here hx rfl (hb hby at_108) rfl k) ?_
      refine own_s (g' := (mkF m 113 #[.val (.int p0_0), .val (.int p0_1), .val (.ref b5), .val (.int 0), .val (.int 1), .val (.int (t0_54 p0_1)), .val (.int 1), .val (.int 67), .unset] [])) (fun _ k => XS.icmpNo X25.here hx rfl (hb hby at_110) rfl (teq ((by rw [c23] <;> decide) : (71 : Int32) = (t0_54 p0_1))).2 k) ?_
      refine own_s (g' := (mkF m 115 #[.val (.int p0_0), .val (.int p0_1), .val (.ref b5), .val (.int 0), .val (.int 1), .val (.int (t0_54 p0_1)), .val (.int 1), .val (.int 67), .unset] [(.int 67)])) (fun _ k => XS.iload X25.here hx rfl (hb hby at_113) rfl k) ?_
      refine own_s (g' := (mkF m 117 #[.val (.int p0_0), .val (.int p0_1), .val (.ref b5), .val (.int 0), .val (.int 1), .val (.int (t0_54 p0_1)), .val (.int 1), .val (.int 67), .unset] [(.int (t0_54 p0_1)), (.int 67)])) (fun _ k => XS.iload X25.here hx rfl (hb hby at_115) rfl k) ?_
      refine own_s (g' := (mkF m 120 #[.val (.int p0_0), .val (.int p0_1), .val (.ref b5), .val (.int 0), .val (.int 1), .val (.int (t0_54 p0_1)), .val (.int 1), .val (.int 67), .unset] [])) (fun _ k => XS.icmpNo X25.here hx rfl (hb hby at_117) rfl (feq ((by rw [c23] <;> decide) : ¬ (67 : Int32) = (t0_54 p0_1))).1 k) ?_
      refine own_s (g' := (mkF m 121 #[.val (.int p0_0), .val (.int p0_1), .val (.ref b5), .val (.int 0), .val (.int 1), .val (.int (t0_54 p0_1)), .val (.int 1), .val (.int 67), .unset] [(.int 1)])) (fun _ k => XS.iconst X25.here hx rfl (hb hby at_120) k) ?_
      refine own_s (g' := (mkF m 125 #[.val (.int p0_0), .val (.int p0_1), .val (.ref b5), .val (.int 0), .val (.int 1), .val (.int (t0_54 p0_1)), .val (.int 1), .val (.int 67), .unset] [(.int 1)])) (fun _ k => XS.goto X25.here hx rfl (pc0 := 121) (pc' := 125) rfl (hb hby at_121) (by decide) (by decide) k) ?_
      refine own_s (g' := (mkF m 127 #[.val (.int p0_0), .val (.int p0_1), .val (.ref b5), .val (.int 0), .val (.int 1), .val (.int (t0_54 p0_1)), .val (.int 1), .val (.int 67), .val (.int 1)] [])) (fun _ k => XS.istore X25.here hx rfl (hb hby at_125) rfl (l' := #[.val (.int p0_0), .val (.int p0_1), .val (.ref b5), .val (.int 0), .val (.int 1), .val (.int (t0_54 p0_1)), .val (.int 1), .val (.int 67), .val (.int 1)]) rfl k) ?_
      refine own_s (g' := (mkF m 144 #[.val (.int p0_0), .val (.int p0_1), .val (.ref b5), .val (.int 0), .val (.int 1), .val (.int (t0_54 p0_1)), .val (.int 1), .val (.int 67), .val (.int 1)] [])) (fun _ k => XS.goto X25.here hx rfl (pc0 := 127) (pc' := 144) rfl (hb hby at_127) (by decide) (by decide) k) ?_
      refine own_s (g' := (mkF m 146 #[.val (.int p0_0), .val (.int p0_1), .val (.ref b5), .val (.int 0), .val (.int 1), .val (.int (t0_54 p0_1)), .val (.int 1), .val (.int 67), .val (.int 1)] [(.int 1)])) (fun _ k => XS.iload X25.here hx rfl (hb hby at_144) rfl k) ?_
      refine own_s (g' := (mkF m 149 #[.val (.int p0_0), .val (.int p0_1), .val (.ref b5), .val (.int 0), .val (.int 1), .val (.int (t0_54 p0_1)), .val (.int 1), .val (.int 67), .val (.int 1)] [])) (fun _ k => XS.ifNo X25.here hx rfl (hb hby at_146) rfl ((if0 _ _).trans (feq ((by decide) : ¬ (1 : Int32) = (0 : Int32))).1) k) ?_
      refine own_s (g' := (mkF m 151 #[.val (.int p0_0), .val (.int p0_1), .val (.ref b5), .val (.int 0), .val (.int 1), .val (.int (t0_54 p0_1)), .val (.int 1), .val (.int 67), .val (.int 1)] [(.int 1)])) (fun _ k => XS.iload X25.here hx rfl (hb hby at_149) rfl k) ?_
      refine own_s (g' := (mkF m 154 #[.val (.int p0_0), .val (.int p0_1), .val (.ref b5), .val (.int 0), .val (.int 1), .val (.int (t0_54 p0_1)), .val (.int 1), .val (.int 67), .val (.int 1)] [])) (fun _ k => XS.ifNo X25.here hx rfl (hb hby at_151) rfl ((if0 _ _).trans (feq ((by decide) : ¬ (1 : Int32) = (0 : Int32))).1) k) ?_
      refine own_s (g' := (mkF m 155 #[.val (.int p0_0), .val (.int p0_1), .val (.ref b5), .val (.int 0), .val (.int 1), .val (.int (t0_54 p0_1)), .val (.int 1), .val (.int 67), .val (.int 1)] [(.int 1)])) (fun _ k => XS.iconst X25.here hx rfl (hb hby at_154) k) ?_
      refine own_s (g' := (mkF m 159 #[.val (.int p0_0), .val (.int p0_1), .val (.ref b5), .val (.int 0), .val (.int 1), .val (.int (t0_54 p0_1)), .val (.int 1), .val (.int 67), .val (.int 1)] [(.int 1)])) (fun _ k => XS.goto X25.here hx rfl (pc0 := 155) (pc' := 159) rfl (hb hby at_155) (by decide) (by decide) k) ?_
      refine own_retN X25 hx hlk (t := .boolean) hret (by simp) (hb hby at_159) (z' := (1 : Int32)) (by decide) (by decide) (by decide) ?_
      show Q0 Z p0_0 p0_1 h0 n0 _ T25.heap _
      rw [eh25]
      exact ⟨rfl, N25⟩
     ·skip
      refine own_s (g' := (mkF m 77 #[.val (.int p0_0), .val (.int p0_1), .val (.ref b5), .val (.int 0), .val (.int 1), .val (.int (t0_54 p0_1)), .unset, .unset, .unset] [])) (fun _ k => XS.icmpNo X15.here hx rfl (hb hby at_74) rfl (feq c23).1 k) ?_
      refine own_s (g' := (mkF m 79 #[.val (.int p0_0), .val (.int p0_1), .val (.ref b5), .val (.int 0), .val (.int 1), .val (.int (t0_54 p0_1)), .unset, .unset, .unset] [(.int (t0_54 p0_1))])) (fun _ k => XS.iload X15.here hx rfl (hb hby at_77) rfl k) ?_
      refine own_s (g' := (mkF m 81 #[.val (.int p0_0), .val (.int p0_1), .val (.ref b5), .val (.int 0), .val (.int 1), .val (.int (t0_54 p0_1)), .unset, .unset, .unset] [(.int 84), (.int (t0_54 p0_1))])) (fun _ k => XS.bipush X15.here hx rfl (hb hby at_79) k) ?_
      by_cases c26 : (t0_54 p0_1) = (84 : Int32)
      ·skip
       refine own_s (g' := (mkF m 84 #[.val (.int p0_0), .val (.int p0_1), .val (.ref b5), .val (.int 0), .val (.int 1), .val (.int (t0_54 p0_1)), .unset, .unset, .unset] [])) (fun _ k => XS.icmpNo X15.here hx rfl (hb hby at_81) rfl (teq c26).2 k) ?_
       refine own_s (g' := (mkF m 85 #[.val (.int p0_0), .val (.int p0_1), .val (.ref b5), .val (.int 0), .val (.int 1), .val (.int (t0_54 p0_1)), .unset, .unset, .unset] [(.int 1)])) (fun _ k => XS.iconst X15.here hx rfl (hb hby at_84) k) ?_
       refine own_s (g' := (mkF m 89 #[.val (.int p0_0), .val (.int p0_1), .val (.ref b5), .val (.int 0), .val (.int 1), .val (.int (t0_54 p0_1)), .unset, .unset, .unset] [(.int 1)])) (fun _ k => XS.goto X15.here hx rfl (pc0 := 85) (pc' := 89) rfl (hb hby at_85) (by decide) (by decide) k) ?_
       refine own_s (g' := (mkF m 91 #[.val (.int p0_0), .val (.int p0_1), .val (.ref b5), .val (.int 0), .val (.int 1), .val (.int (t0_54 p0_1)), .val (.int 1), .unset, .unset] [])) (fun _ k => XS.istore X15.here hx rfl (hb hby at_89) rfl (l' := #[.val (.int p0_0), .val (.int p0_1), .val (.ref b5), .val (.int 0), .val (.int 1), .val (.int (t0_54 p0_1)), .val (.int 1), .unset, .unset]) rfl k) ?_
       refine own_s (g' := (mkF m 93 #[.val (.int p0_0), .val (.int p0_1), .val (.ref b5), .val (.int 0), .val (.int 1), .val (.int (t0_54 p0_1)), .val (.int 1), .unset, .unset] [(.int (t0_54 p0_1))])) (fun _ k => XS.iload X15.here hx rfl (hb hby at_91) rfl k) ?_
       obtain ⟨_, _, ⟨T27, L27, k27, n27⟩, -, X27, ⟨Lc27, hQ27, l27, y27, z27⟩, st27⟩ := Jvm.LawKit.callS X15 hx (y := (⟨"com/example/junctura/junctura/model/ReadPart", "complement", "(C)C"⟩ : MethodName)) hown (mvT hZ ww1) (mvT hZ ww2) (mvT hZ ww3) (mvT hZ ww4) (by decide) (backOf (W := 0) (rm1 l Z a0 hw [] (t0_54 p0_1) h12 n0 (Nat.le_trans Z0 K12.1) ) hZ ww4 ww3 (by decide) (by decide)) (g := (mkF m 93 #[.val (.int p0_0), .val (.int p0_1), .val (.ref b5), .val (.int 0), .val (.int 1), .val (.int (t0_54 p0_1)), .val (.int 1), .unset, .unset] [(.int (t0_54 p0_1))])) rfl (by rw [hml]; rfl) (argsL := [(.int (t0_54 p0_1))]) (rest := []) (lenOf pd__C_C rfl) rfl (by show 2 * 0 + _ ≤ _; exact Nat.le_of_eq rfl) (hb hby at_93) (fun _ _ => ⟨rfl, eh15, (by decide : 1 + 0 ≤ _), (by decide : 4 + 0 ≤ _)⟩)
       dsimp only [Pt.U, Pt.locs, Pt.cells, Pt.slots] at X27 l27 y27 z27 st27 hQ27
       subst l27 y27 z27
       obtain ⟨rfl, N27q, eh27⟩ := hQ27
       have N27 := Fr.app N15 N27q
       refine own_s (g' := (mkF m 96 #[.val (.int p0_0), .val (.int p0_1), .val (.ref b5), .val (.int 0), .val (.int 1), .val (.int (t0_54 p0_1)), .val (.int 1), .unset, .unset] [(.int (r1 (t0_54 p0_1)))])) st27 ?_
       rw [show (r1 (t0_54 p0_1)) = (65 : Int32) from ((if_neg c17).trans ((if_neg c20).trans ((if_neg c23).trans (if_pos c26))))]
       refine own_s (g' := (mkF m 98 #[.val (.int p0_0), .val (.int p0_1), .val (.ref b5), .val (.int 0), .val (.int 1), .val (.int (t0_54 p0_1)), .val (.int 1), .val (.int 65), .unset] [])) (fun _ k => XS.istore X27.here hx rfl (hb hby at_96) rfl (l' := #[.val (.int p0_0), .val (.int p0_1), .val (.ref b5), .val (.int 0), .val (.int 1), .val (.int (t0_54 p0_1)), .val (.int 1), .val (.int 65), .unset]) rfl k) ?_
       refine own_s (g' := (mkF m 100 #[.val (.int p0_0), .val (.int p0_1), .val (.ref b5), .val (.int 0), .val (.int 1), .val (.int (t0_54 p0_1)), .val (.int 1), .val (.int 65), .unset] [(.int 1)])) (fun _ k => XS.iload X27.here hx rfl (hb hby at_98) rfl k) ?_
       refine own_s (g' := (mkF m 103 #[.val (.int p0_0), .val (.int p0_1), .val (.ref b5), .val (.int 0), .val (.int 1), .val (.int (t0_54 p0_1)), .val (.int 1), .val (.int 65), .unset] [])) (fun _ k => XS.ifNo X27.here hx rfl (hb hby at_100) rfl ((if0 _ _).trans (feq ((by decide) : ¬ (1 : Int32) = (0 : Int32))).1) k) ?_
       refine own_s (g' := (mkF m 105 #[.val (.int p0_0), .val (.int p0_1), .val (.ref b5), .val (.int 0), .val (.int 1), .val (.int (t0_54 p0_1)), .val (.int 1), .val (.int 65), .unset] [(.int 65)])) (fun _ k => XS.iload X27.here hx rfl (hb hby at_103) rfl k) ?_
       obtain ⟨_, _, ⟨T28, L28, k28, n28⟩, -, X28, ⟨Lc28, hQ28, l28, y28, z28⟩, st28⟩ := Jvm.LawKit.callS X27 hx (y := (⟨"com/example/junctura/junctura/model/ReadPart", "complement", "(C)C"⟩ : MethodName)) hown (mvT hZ ww1) (mvT hZ ww2) (mvT hZ ww3) (mvT hZ ww4) (by decide) (backOf (W := 0) (rm1 l Z a0 hw [] (65 : Int32) h12 n0 (Nat.le_trans Z0 K12.1) ) hZ ww4 ww3 (by decide) (by decide)) (g := (mkF m 105 #[.val (.int p0_0), .val (.int p0_1), .val (.ref b5), .val (.int 0), .val (.int 1), .val (.int (t0_54 p0_1)), .val (.int 1), .val (.int 65), .unset] [(.int 65)])) rfl (by rw [hml]; rfl) (argsL := [(.int 65)]) (rest := []) (lenOf pd__C_C rfl) rfl (by show 2 * 0 + _ ≤ _; exact Nat.le_of_eq rfl) (hb hby at_105) (fun _ _ => ⟨rfl, eh27, (by decide : 1 + 0 ≤ _), (by decide : 4 + 0 ≤ _)⟩)
       dsimp only [Pt.U, Pt.locs, Pt.cells, Pt.slots] at X28 l28 y28 z28 st28 hQ28
       subst l28 y28 z28
       obtain ⟨rfl, N28q, eh28⟩ := hQ28
       have N28 := Fr.app N27 N28q
       refine own_s (g' := (mkF m 108 #[.val (.int p0_0), .val (.int p0_1), .val (.ref b5), .val (.int 0), .val (.int 1), .val (.int (t0_54 p0_1)), .val (.int 1), .val (.int 65), .unset] [(.int (r1 (65 : Int32)))])) st28 ?_
       rw [show (r1 (65 : Int32)) = (84 : Int32) from (if_pos ((by decide) : (65 : Int32) = (65 : Int32)))]
       refine own_s (g' := (mkF m 110 #[.val (.int p0_0), .val (.int p0_1), .val (.ref b5), .val (.int 0), .val (.int 1), .val (.int (t0_54 p0_1)), .val (.int 1), .val (.int 65), .unset] [(.int (t0_54 p0_1)), (.int 84)])) (fun _ k => XS.iload X28.here hx rfl (hb hby at_108) rfl k) ?_
       refine own_s (g' := (mkF m 113 #[.val (.int p0_0), .val (.int p0_1), .val (.ref b5), .val (.int 0), .val (.int 1), .val (.int (t0_54 p0_1)), .val (.int 1), .val (.int 65), .unset] [])) (fun _ k => XS.icmpNo X28.here hx rfl (hb hby at_110) rfl (teq ((by rw [c26] <;> decide) : (84 : Int32) = (t0_54 p0_1))).2 k) ?_
       refine own_s (g' := (mkF m 115 #[.val (.int p0_0), .val (.int p0_1), .val (.ref b5), .val (.int 0), .val (.int 1), .val (.int (t0_54 p0_1)), .val (.int 1), .val (.int 65), .unset] [(.int 65)])) (fun _ k => XS.iload X28.here hx rfl (hb hby at_113) rfl k) ?_
       refine own_s (g' := (mkF m 117 #[.val (.int p0_0), .val (.int p0_1), .val (.ref b5), .val (.int 0), .val (.int 1), .val (.int (t0_54 p0_1)), .val (.int 1), .val (.int 65), .unset] [(.int (t0_54 p0_1)), (.int 65)])) (fun _ k => XS.iload X28.here hx rfl (hb hby at_115) rfl k) ?_
       refine own_s (g' := (mkF m 120 #[.val (.int p0_0), .val (.int p0_1), .val (.ref b5), .val (.int 0), .val (.int 1), .val (.int (t0_54 p0_1)), .val (.int 1), .val (.int 65), .unset] [])) (fun _ k => XS.icmpNo X28.here hx rfl (hb hby at_117) rfl (feq ((by rw [c26] <;> decide) : ¬ (65 : Int32) = (t0_54 p0_1))).1 k) ?_
       refine own_s (g' := (mkF m 121 #[.val (.int p0_0), .val (.int p0_1), .val (.ref b5), .val (.int 0), .val (.int 1), .val (.int (t0_54 p0_1)), .val (.int 1), .val (.int 65), .unset] [(.int 1)])) (fun _ k => XS.iconst X28.here hx rfl (hb hby at_120) k) ?_
       refine own_s (g' := (mkF m 125 #[.val (.int p0_0), .val (.int p0_1), .val (.ref b5), .val (.int 0), .val (.int 1), .val (.int (t0_54 p0_1)), .val (.int 1), .val (.int 65), .unset] [(.int 1)])) (fun _ k => XS.goto X28.here hx rfl (pc0 := 121) (pc' := 125) rfl (hb hby at_121) (by decide) (by decide) k) ?_
       refine own_s (g' := (mkF m 127 #[.val (.int p0_0), .val (.int p0_1), .val (.ref b5), .val (.int 0), .val (.int 1), .val (.int (t0_54 p0_1)), .val (.int 1), .val (.int 65), .val (.int 1)] [])) (fun _ k => XS.istore X28.here hx rfl (hb hby at_125) rfl (l' := #[.val (.int p0_0), .val (.int p0_1), .val (.ref b5), .val (.int 0), .val (.int 1), .val (.int (t0_54 p0_1)), .val (.int 1), .val (.int 65), .val (.int 1)]) rfl k) ?_
       refine own_s (g' := (mkF m 144 #[.val (.int p0_0), .val (.int p0_1), .val (.ref b5), .val (.int 0), .val (.int 1), .val (.int (t0_54 p0_1)), .val (.int 1), .val (.int 65), .val (.int 1)] [])) (fun _ k => XS.goto X28.here hx rfl (pc0 := 127) (pc' := 144) rfl (hb hby at_127) (by decide) (by decide) k) ?_
       refine own_s (g' := (mkF m 146 #[.val (.int p0_0), .val (.int p0_1), .val (.ref b5), .val (.int 0), .val (.int 1), .val (.int (t0_54 p0_1)), .val (.int 1), .val (.int 65), .val (.int 1)] [(.int 1)])) (fun _ k => XS.iload X28.here hx rfl (hb hby at_144) rfl k) ?_
       refine own_s (g' := (mkF m 149 #[.val (.int p0_0), .val (.int p0_1), .val (.ref b5), .val (.int 0), .val (.int 1), .val (.int (t0_54 p0_1)), .val (.int 1), .val (.int 65), .val (.int 1)] [])) (fun _ k => XS.ifNo X28.here hx rfl (hb hby at_146) rfl ((if0 _ _).trans (feq ((by decide) : ¬ (1 : Int32) = (0 : Int32))).1) k) ?_
       refine own_s (g' := (mkF m 151 #[.val (.int p0_0), .val (.int p0_1), .val (.ref b5), .val (.int 0), .val (.int 1), .val (.int (t0_54 p0_1)), .val (.int 1), .val (.int 65), .val (.int 1)] [(.int 1)])) (fun _ k => XS.iload X28.here hx rfl (hb hby at_149) rfl k) ?_
       refine own_s (g' := (mkF m 154 #[.val (.int p0_0), .val (.int p0_1), .val (.ref b5), .val (.int 0), .val (.int 1), .val (.int (t0_54 p0_1)), .val (.int 1), .val (.int 65), .val (.int 1)] [])) (fun _ k => XS.ifNo X28.here hx rfl (hb hby at_151) rfl ((if0 _ _).trans (feq ((by decide) : ¬ (1 : Int32) = (0 : Int32))).1) k) ?_
       refine own_s (g' := (mkF m 155 #[.val (.int p0_0), .val (.int p0_1), .val (.ref b5), .val (.int 0), .val (.int 1), .val (.int (t0_54 p0_1)), .val (.int 1), .val (.int 65), .val (.int 1)] [(.int 1)])) (fun _ k => XS.iconst X28.here hx rfl (hb hby at_154) k) ?_
       refine own_s (g' := (mkF m 159 #[.val (.int p0_0), .val (.int p0_1), .val (.ref b5), .val (.int 0), .val (.int 1), .val (.int (t0_54 p0_1)), .val (.int 1), .val (.int 65), .val (.int 1)] [(.int 1)])) (fun _ k => XS.goto X28.here hx rfl (pc0 := 155) (pc' := 159) rfl (hb hby at_155) (by decide) (by decide) k) ?_
       refine own_retN X28 hx hlk (t := .boolean) hret (by simp) (hb hby at_159) (z' := (1 : Int32)) (by decide) (by decide) (by decide) ?_
       show Q0 Z p0_0 p0_1 h0 n0 _ T28.heap _
       rw [eh28]
       exact ⟨rfl, N28⟩
      ·skip
       refine own_s (g' := (mkF m 88 #[.val (.int p0_0), .val (.int p0_1), .val (.ref b5), .val (.int 0), .val (.int 1), .val (.int (t0_54 p0_1)), .unset, .unset, .unset] [])) (fun _ k => XS.icmpYes X15.here hx rfl (pc0 := 81) (pc' := 88) rfl (hb hby at_81) rfl (feq c26).2 (by decide) (by decide) k) ?_
       refine own_s (g' := (mkF m 89 #[.val (.int p0_0), .val (.int p0_1), .val (.ref b5), .val (.int 0), .val (.int 1), .val (.int (t0_54 p0_1)), .unset, .unset, .unset] [(.int 0)])) (fun _ k => XS.iconst X15.here hx rfl (hb hby at_88) k) ?_
       refine own_s (g' := (mkF m 91 #[.val (.int p0_0), .val (.int p0_1), .val (.ref b5), .val (.int 0), .val (.int 1), .val (.int (t0_54 p0_1)), .val (.int 0), .unset, .unset] [])) (fun _ k => XS.istore X15.here hx rfl (hb hby at_89) rfl (l' := #[.val (.int p0_0), .val (.int p0_1), .val (.ref b5), .val (.int 0), .val (.int 1), .val (.int (t0_54 p0_1)), .val (.int 0), .unset, .unset]) rfl k) ?_
       refine own_s (g' := (mkF m 93 #[.val (.int p0_0), .val (.int p0_1), .val (.ref b5), .val (.int 0), .val (.int 1), .val (.int (t0_54 p0_1)), .val (.int 0), .unset, .unset] [(.int (t0_54 p0_1))])) (fun _ k => XS.iload X15.here hx rfl (hb hby at_91) rfl k) ?_
       obtain ⟨_, _, ⟨T29, L29, k29, n29⟩, -, X29, ⟨Lc29, hQ29, l29, y29, z29⟩, st29⟩ := Jvm.LawKit.callS X15 hx (y := (⟨"com/example/junctura/junctura/model/ReadPart", "complement", "(C)C"⟩ : MethodName)) hown (mvT hZ ww1) (mvT hZ ww2) (mvT hZ ww3) (mvT hZ ww4) (by decide) (backOf (W := 0) (rm1 l Z a0 hw [] (t0_54 p0_1) h12 n0 (Nat.le_trans Z0 K12.1) ) hZ ww4 ww3 (by decide) (by decide)) (g := (mkF m 93 #[.val (.int p0_0), .val (.int p0_1), .val (.ref b5), .val (.int 0), .val (.int 1), .val (.int (t0_54 p0_1)), .val (.int 0), .unset, .unset] [(.int (t0_54 p0_1))])) rfl (by rw [hml]; rfl) (argsL := [(.int (t0_54 p0_1))]) (rest := []) (lenOf pd__C_C rfl) rfl (by show 2 * 0 + _ ≤ _; exact Nat.le_of_eq rfl) (hb hby at_93) (fun _ _ => ⟨rfl, eh15, (by decide : 1 + 0 ≤ _), (by decide : 4 + 0 ≤ _)⟩)
       dsimp only [Pt.U, Pt.locs, Pt.cells, Pt.slots] at X29 l29 y29 z29 st29 hQ29
       subst l29 y29 z29
       obtain ⟨rfl, N29q, eh29⟩ := hQ29
       have N29 := Fr.app N15 N29q
       refine own_s (g' := (mkF m 96 #[.val (.int p0_0), .val (.int p0_1), .val (.ref b5), .val (.int 0), .val (.int 1), .val (.int (t0_54 p0_1)), .val (.int 0), .unset, .unset] [(.int (r1 (t0_54 p0_1)))])) st29 ?_
       rw [show (r1 (t0_54 p0_1)) = (78 : Int32) from ((if_neg c17).trans ((if_neg c20).trans ((if_neg c23).trans (if_neg c26))))]
       refine own_s (g' := (mkF m 98 #[.val (.int p0_0), .val (.int p0_1), .val (.ref b5), .val (.int 0), .val (.int 1), .val (.int (t0_54 p0_1)), .val (.int 0), .val (.int 78), .unset] [])) (fun _ k => XS.istore X29.here hx rfl (hb hby at_96) rfl (l' := #[.val (.int p0_0), .val (.int p0_1), .val (.ref b5), .val (.int 0), .val (.int 1), .val (.int (t0_54 p0_1)), .val (.int 0), .val (.int 78), .unset]) rfl k) ?_
       refine own_s (g' := (mkF m 100 #[.val (.int p0_0), .val (.int p0_1), .val (.ref b5), .val (.int 0), .val (.int 1), .val (.int (t0_54 p0_1)), .val (.int 0), .val (.int 78), .unset] [(.int 0)])) (fun _ k => XS.iload X29.here hx rfl (hb hby at_98) rfl k) ?_
       refine own_s (g' := (mkF m 130 #[.val (.int p0_0), .val (.int p0_1), .val (.ref b5), .val (.int 0), .val (.int 1), .val (.int (t0_54 p0_1)), .val (.int 0), .val (.int 78), .unset] [])) (fun _ k => XS.ifYes X29.here hx rfl (pc0 := 100) (pc' := 130) rfl (hb hby at_100) rfl ((if0 _ _).trans (teq ((by decide) : (0 : Int32) = (0 : Int32))).1) (by decide) (by decide) k) ?_
       refine own_s (g' := (mkF m 132 #[.val (.int p0_0), .val (.int p0_1), .val (.ref b5), .val (.int 0), .val (.int 1), .val (.int (t0_54 p0_1)), .val (.int 0), .val (.int 78), .unset] [(.int 78)])) (fun _ k => XS.iload X29.here hx rfl (hb hby at_130) rfl k) ?_
       refine own_s (g' := (mkF m 134 #[.val (.int p0_0), .val (.int p0_1), .val (.ref b5), .val (.int 0), .val (.int 1), .val (.int (t0_54 p0_1)), .val (.int 0), .val (.int 78), .unset] [(.int 78), (.int 78)])) (fun _ k => XS.bipush X29.here hx rfl (hb hby at_132) k) ?_
       refine own_s (g' := (mkF m 137 #[.val (.int p0_0), .val (.int p0_1), .val (.ref b5), .val (.int 0), .val (.int 1), .val (.int (t0_54 p0_1)), .val (.int 0), .val (.int 78), .unset] [])) (fun _ k => XS.icmpNo X29.here hx rfl (hb hby at_134) rfl (teq ((by simp only [r1, if_neg c17, if_neg c20, if_neg c23, if_neg c26]) : (78 : Int32) = (78 : Int32))).2 k) ?_
       refine own_s (g' := (mkF m 138 #[.val (.int p0_0), .val (.int p0_1), .val (.ref b5), .val (.int 0), .val (.int 1), .val (.int (t0_54 p0_1)), .val (.int 0), .val (.int 78), .unset] [(.int 1)])) (fun _ k => XS.iconst X29.here hx rfl (hb hby at_137) k) ?_
       refine own_s (g' := (mkF m 142 #[.val (.int p0_0), .val (.int p0_1), .val (.ref b5), .val (.int 0), .val (.int 1), .val (.int (t0_54 p0_1)), .val (.int 0), .val (.int 78), .unset] [(.int 1)])) (fun _ k => XS.goto X29.here hx rfl (pc0 := 138) (pc' := 142) rfl (hb hby at_138) (by decide) (by decide) k) ?_
       refine own_s (g' := (mkF m 144 #[.val (.int p0_0), .val (.int p0_1), .val (.ref b5), .val (.int 0), .val (.int 1), .val (.int (t0_54 p0_1)), .val (.int 0), .val (.int 78), .val (.int 1)] [])) (fun _ k => XS.istore X29.here hx rfl (hb hby at_142) rfl (l' := #[.val (.int p0_0), .val (.int p0_1), .val (.ref b5), .val (.int 0), .val (.int 1), .val (.int (t0_54 p0_1)), .val (.int 0), .val (.int 78), .val (.int 1)]) rfl k) ?_
       refine own_s (g' := (mkF m 146 #[.val (.int p0_0), .val (.int p0_1), .val (.ref b5), .val (.int 0), .val (.int 1), .val (.int (t0_54 p0_1)), .val (.int 0), .val (.int 78), .val (.int 1)] [(.int 1)])) (fun _ k => XS.iload X29.here hx rfl (hb hby at_144) rfl k) ?_
       refine own_s (g' := (mkF m 149 #[.val (.int p0_0), .val (.int p0_1), .val (.ref b5), .val (.int 0), .val (.int 1), .val (.int (t0_54 p0_1)), .val (.int 0), .val (.int 78), .val (.int 1)] [])) (fun _ k => XS.ifNo X29.here hx rfl (hb hby at_146) rfl ((if0 _ _).trans (feq ((by decide) : ¬ (1 : Int32) = (0 : Int32))).1) k) ?_
       refine own_s (g' := (mkF m 151 #[.val (.int p0_0), .val (.int p0_1), .val (.ref b5), .val (.int 0), .val (.int 1), .val (.int (t0_54 p0_1)), .val (.int 0), .val (.int 78), .val (.int 1)] [(.int 1)])) (fun _ k => XS.iload X29.here hx rfl (hb hby at_149) rfl k) ?_
       refine own_s (g' := (mkF m 154 #[.val (.int p0_0), .val (.int p0_1), .val (.ref b5), .val (.int 0), .val (.int 1), .val (.int (t0_54 p0_1)), .val (.int 0), .val (.int 78), .val (.int 1)] [])) (fun _ k => XS.ifNo X29.here hx rfl (hb hby at_151) rfl ((if0 _ _).trans (feq ((by decide) : ¬ (1 : Int32) = (0 : Int32))).1) k) ?_
       refine own_s (g' := (mkF m 155 #[.val (.int p0_0), .val (.int p0_1), .val (.ref b5), .val (.int 0), .val (.int 1), .val (.int (t0_54 p0_1)), .val (.int 0), .val (.int 78), .val (.int 1)] [(.int 1)])) (fun _ k => XS.iconst X29.here hx rfl (hb hby at_154) k) ?_
       refine own_s (g' := (mkF m 159 #[.val (.int p0_0), .val (.int p0_1), .val (.ref b5), .val (.int 0), .val (.int 1), .val (.int (t0_54 p0_1)), .val (.int 0), .val (.int 78), .val (.int 1)] [(.int 1)])) (fun _ k => XS.goto X29.here hx rfl (pc0 := 155) (pc' := 159) rfl (hb hby at_155) (by decide) (by decide) k) ?_
       refine own_retN X29 hx hlk (t := .boolean) hret (by simp) (hb hby at_159) (z' := (1 : Int32)) (by decide) (by decide) (by decide) ?_
       show Q0 Z p0_0 p0_1 h0 n0 _ T29.heap _
       rw [eh29]
       exact ⟨rfl, N29⟩
  ·skip
   rw [show (p0_0 &&& (3 : Int32)) = (1 : Int32) from hi]
   refine own_s (g' := (mkF m 28 #[.val (.int p0_0), .val (.int p0_1), .val (.ref b5), .val (.int 1), .unset, .unset, .unset, .unset, .unset] [])) (fun _ k => XS.istoreN X12.here hx rfl (hb hby at_27) rfl (l' := #[.val (.int p0_0), .val (.int p0_1), .val (.ref b5), .val (.int 1), .unset, .unset, .unset, .unset, .unset]) rfl k) ?_
   refine own_s (g' := (mkF m 29 #[.val (.int p0_0), .val (.int p0_1), .val (.ref b5), .val (.int 1), .unset, .unset, .unset, .unset, .unset] [(.ref b5)])) (fun _ k => XS.aloadN X12.here hx rfl (hb hby at_28) rfl rfl k) ?_
   refine own_s (g' := (mkF m 30 #[.val (.int p0_0), .val (.int p0_1), .val (.ref b5), .val (.int 1), .unset, .unset, .unset, .unset, .unset] [(.int 1), (.ref b5)])) (fun _ k => XS.iloadN X12.here hx rfl (hb hby at_29) rfl k) ?_
   obtain ⟨cl30, Ar30, -, S30, -, H30, -⟩ := id f13
   have in30 := inb_of S30 (j := (1 : Int32)) ⟨by decide, by decide⟩
   refine own_s (g' := (mkF m 31 #[.val (.int p0_0), .val (.int p0_1), .val (.ref b5), .val (.int 1), .unset, .unset, .unset, .unset, .unset] [(.int 67)])) (X12.caload hx (j := (1 : Int32)) (v := (.int 67)) (by rw [e12]; exact Ar30.1) (State.isArrayOf_alike hZ.alike Ar30.2.1) Ar30.2.2 in30 (Has.at H30 in30 rfl) (g := (mkF m 30 #[.val (.int p0_0), .val (.int p0_1), .val (.ref b5), .val (.int 1), .unset, .unset, .unset, .unset, .unset] [(.int 1), (.ref b5)])) rfl rfl (hb hby at_30)) ?_
   obtain ⟨_, _, ⟨T31, L31, k31, n31⟩, -, X31, ⟨Lc31, hQ31, l31, y31, z31⟩, st31⟩ := Jvm.LawKit.callS X12 hx (y := (⟨"com/example/junctura/junctura/model/ReadPart", "complement", "(C)C"⟩ : MethodName)) hown (mvT hZ ww1) (mvT hZ ww2) (mvT hZ ww3) (mvT hZ ww4) (by decide) (backOf (W := 0) (rm1 l Z a0 hw [] (67 : Int32) h12 n0 (Nat.le_trans Z0 K12.1) ) hZ ww4 ww3 (by decide) (by decide)) (g := (mkF m 31 #[.val (.int p0_0), .val (.int p0_1), .val (.ref b5), .val (.int 1), .unset, .unset, .unset, .unset, .unset] [(.int 67)])) rfl (by rw [hml]; rfl) (argsL := [(.int 67)]) (rest := []) (lenOf pd__C_C rfl) rfl (by show 2 * 0 + _ ≤ _; exact Nat.le_of_eq rfl) (hb hby at_31) (fun _ _ => ⟨rfl, e12, (by decide : 1 + 0 ≤ _), (by decide : 4 + 0 ≤ _)⟩)
   dsimp only [Pt.U, Pt.locs, Pt.cells, Pt.slots] at X31 l31 y31 z31 st31 hQ31
   subst l31 y31 z31
   obtain ⟨rfl, N31q, eh31⟩ := hQ31
   have N31 := Fr.app N12 N31q
   refine own_s (g' := (mkF m 34 #[.val (.int p0_0), .val (.int p0_1), .val (.ref b5), .val (.int 1), .unset, .unset, .unset, .unset, .unset] [(.int (r1 (67 : Int32)))])) st31 ?_
   rw [show (r1 (67 : Int32)) = (71 : Int32) from ((if_neg ((by decide) : ¬ (67 : Int32) = (65 : Int32))).trans (if_pos ((by decide) : (67 : Int32) = (67 : Int32))))]
   refine own_s (g' := (mkF m 35 #[.val (.int p0_0), .val (.int p0_1), .val (.ref b5), .val (.int 1), .unset, .unset, .unset, .unset, .unset] [(.ref b5), (.int 71)])) (fun _ k => XS.aloadN X31.here hx rfl (hb hby at_34) rfl rfl k) ?_
   refine own_s (g' := (mkF m 36 #[.val (.int p0_0), .val (.int p0_1), .val (.ref b5), .val (.int 1), .unset, .unset, .unset, .unset, .unset] [(.int 3), (.ref b5), (.int 71)])) (fun _ k => XS.iconst X31.here hx rfl (hb hby at_35) k) ?_
   refine own_s (g' := (mkF m 37 #[.val (.int p0_0), .val (.int p0_1), .val (.ref b5), .val (.int 1), .unset, .unset, .unset, .unset, .unset] [(.int 1), (.int 3), (.ref b5), (.int 71)])) (fun _ k => XS.iloadN X31.here hx rfl (hb hby at_36) rfl k) ?_
   refine own_s (g' := (mkF m 38 #[.val (.int p0_0), .val (.int p0_1), .val (.ref b5), .val (.int 1), .unset, .unset, .unset, .unset, .unset] [(.int ((3 : Int32) - (1 : Int32))), (.ref b5), (.int 71)])) (fun _ k => XS.isub X31.here hx rfl (hb hby at_37) rfl k) ?_
   rw [show ((3 : Int32) - (1 : Int32)) = (2 : Int32) from by decide]
   obtain ⟨cl32, Ar32, -, S32, -, H32, -⟩ := id f13
   have in32 := inb_of S32 (j := (2 : Int32)) ⟨by decide, by decide⟩
   refine own_s (g' := (mkF m 39 #[.val (.int p0_0), .val (.int p0_1), .val (.ref b5), .val (.int 1), .unset, .unset, .unset, .unset, .unset] [(.int 71), (.int 71)])) (X31.caload hx (j := (2 : Int32)) (v := (.int 71)) (by rw [eh31]; exact Ar32.1) (State.isArrayOf_alike hZ.alike Ar32.2.1) Ar32.2.2 in32 (Has.at H32 in32 rfl) (g := (mkF m 38 #[.val (.int p0_0), .val (.int p0_1), .val (.ref b5), .val (.int 1), .unset, .unset, .unset, .unset, .unset] [(.int 2), (.ref b5), (.int 71)])) rfl rfl (hb hby at_38)) ?_
   refine own_s (g' := (mkF m 42 #[.val (.int p0_0), .val (.int p0_1), .val (.ref b5), .val (.int 1), .unset, .unset, .unset, .unset, .unset] [])) (fun _ k => XS.icmpNo X31.here hx rfl (hb hby at_39) rfl (teq ((by decide) : (71 : Int32) = (71 : Int32))).2 k) ?_
   refine own_s (g' := (mkF m 43 #[.val (.int p0_0), .val (.int p0_1), .val (.ref b5), .val (.int 1), .unset, .unset, .unset, .unset, .unset] [(.int 1)])) (fun _ k => XS.iconst X31.here hx rfl (hb hby at_42) k) ?_
   refine own_s (g' := (mkF m 47 #[.val (.int p0_0), .val (.int p0_1), .val (.ref b5), .val (.int 1), .unset, .unset, .unset, .unset, .unset] [(.int 1)])) (fun _ k => XS.goto X31.here hx rfl (pc0 := 43) (pc' := 47) rfl (hb hby at_43) (by decide) (by decide) k) ?_
   refine own_s (g' := (mkF m 49 #[.val (.int p0_0), .val (.int p0_1), .val (.ref b5), .val (.int 1), .val (.int 1), .unset, .unset, .unset, .unset] [])) (fun _ k => XS.istore X31.here hx rfl (hb hby at_47) rfl (l' := #[.val (.int p0_0), .val (.int p0_1), .val (.ref b5), .val (.int 1), .val (.int 1), .unset, .unset, .unset, .unset]) rfl k) ?_
   refine own_s (g' := (mkF m 50 #[.val (.int p0_0), .val (.int p0_1), .val (.ref b5), .val (.int 1), .val (.int 1), .unset, .unset, .unset, .unset] [(.int p0_1)])) (fun _ k => XS.iloadN X31.here hx rfl (hb hby at_49) rfl k) ?_
   refine own_s (g' := (mkF m 52 #[.val (.int p0_0), .val (.int p0_1), .val (.ref b5), .val (.int 1), .val (.int 1), .unset, .unset, .unset, .unset] [(.int 65535), (.int p0_1)])) (X31.ldcInt hx hown (mvT hZ ww5) (g := (mkF m 50 #[.val (.int p0_0), .val (.int p0_1), .val (.ref b5), .val (.int 1), .val (.int 1), .unset, .unset, .unset, .unset] [(.int p0_1)])) rfl (hb hby at_50)) ?_
   refine own_s (g' := (mkF m 53 #[.val (.int p0_0), .val (.int p0_1), .val (.ref b5), .val (.int 1), .val (.int 1), .unset, .unset, .unset, .unset] [(.int (p0_1 &&& (65535 : Int32)))])) (fun _ k => XS.iand X31.here hx rfl (hb hby at_52) rfl k) ?_
   refine own_s (g' := (mkF m 54 #[.val (.int p0_0), .val (.int p0_1), .val (.ref b5), .val (.int 1), .val (.int 1), .unset, .unset, .unset, .unset] [(.int (p0_1 &&& (65535 : Int32)).toUInt32.toUInt16.toUInt32.toInt32)])) (fun _ k => XS.i2c X31.here hx rfl (hb hby at_53) rfl k) ?_
   refine own_s (g' := (mkF m 56 #[.val (.int p0_0), .val (.int p0_1), .val (.ref b5), .val (.int 1), .val (.int 1), .val (.int (t0_54 p0_1)), .unset, .unset, .unset] [])) (fun _ k => XS.istore X31.here hx rfl (hb hby at_54) rfl (l' := #[.val (.int p0_0), .val (.int p0_1), .val (.ref b5), .val (.int 1), .val (.int 1), .val (.int (t0_54 p0_1)), .unset, .unset, .unset]) rfl k) ?_
   refine own_s (g' := (mkF m 58 #[.val (.int p0_0), .val (.int p0_1), .val (.ref b5), .val (.int 1), .val (.int 1), .val (.int (t0_54 p0_1)), .unset, .unset, .unset] [(.int (t0_54 p0_1))])) (fun _ k => XS.iload X31.here hx rfl (hb hby at_56) rfl k) ?_
   refine own_s (g' := (mkF m 60 #[.val (.int p0_0), .val (.int p0_1), .val (.ref b5), .val (.int 1), .val (.int 1), .val (.int (t0_54 p0_1)), .unset, .unset, .unset] [(.int 65), (.int (t0_54 p0_1))])) (fun _ k => XS.bipush X31.here hx rfl (hb hby at_58) k) ?_
   by_cases c33 : (t0_54 p0_1) = (65 : Int32)
   ·skip
    refine own_s (g' := (mkF m 84 #[.val (.int p0_0), .val (.int p0_1), .val (.ref b5), .val (.int 1), .val (.int 1), .val (.int (t0_54 p0_1)), .unset, .unset, .unset] [])) (fun _ k => XS.icmpYes X31.here hx rfl (pc0 := 60) (pc' := 84) rfl (hb hby at_60) rfl (teq c33).1 (by decide) (by decide) k) ?_
    refine own_s (g' := (mkF m 85 #[.val (.int p0_0), .val (.int p0_1), .val (.ref b5), .val (.int 1), .val (.int 1), .val (.int (t0_54 p0_1)), .unset, .unset, .unset] [(.int 1)])) (fun _ k => XS.iconst X31.here hx rfl (hb hby at_84) k) ?_
    refine own_s (g' := (mkF m 89 #[.val (.int p0_0), .val (.int p0_1), .val (.ref b5), .val (.int 1), .val (.int 1), .val (.int (t0_54 p0_1)), .unset, .unset, .unset] [(.int 1)])) (fun _ k => XS.goto X31.here hx rfl (pc0 := 85) (pc' := 89) rfl (hb hby at_85) (by decide) (by decide) k) ?_
    refine own_s (g' := (mkF m 91 #[.val (.int p0_0), .val (.int p0_1), .val (.ref b5), .val (.int 1), .val (.int 1), .val (.int (t0_54 p0_1)), .val (.int 1), .unset, .unset] [])) (fun _ k => XS.istore X31.here hx rfl (hb hby at_89) rfl (l' := #[.val (.int p0_0), .val (.int p0_1), .val (.ref b5), .val (.int 1), .val (.int 1), .val (.int (t0_54 p0_1)), .val (.int 1), .unset, .unset]) rfl k) ?_
    refine own_s (g' := (mkF m 93 #[.val (.int p0_0), .val (.int p0_1), .val (.ref b5), .val (.int 1), .val (.int 1), .val (.int (t0_54 p0_1)), .val (.int 1), .unset, .unset] [(.int (t0_54 p0_1))])) (fun _ k => XS.iload X31.here hx rfl (hb hby at_91) rfl k) ?_
    obtain ⟨_, _, ⟨T34, L34, k34, n34⟩, -, X34, ⟨Lc34, hQ34, l34, y34, z34⟩, st34⟩ := Jvm.LawKit.callS X31 hx (y := (⟨"com/example/junctura/junctura/model/ReadPart", "complement", "(C)C"⟩ : MethodName)) hown (mvT hZ ww1) (mvT hZ ww2) (mvT hZ ww3) (mvT hZ ww4) (by decide) (backOf (W := 0) (rm1 l Z a0 hw [] (t0_54 p0_1) h12 n0 (Nat.le_trans Z0 K12.1) ) hZ ww4 ww3 (by decide) (by decide)) (g := (mkF m 93 #[.val (.int p0_0), .val (.int p0_1), .val (.ref b5), .val (.int 1), .val (.int 1), .val (.int (t0_54 p0_1)), .val (.int 1), .unset, .unset] [(.int (t0_54 p0_1))])) rfl (by rw [hml]; rfl) (argsL := [(.int (t0_54 p0_1))]) (rest := []) (lenOf pd__C_C rfl) rfl (by show 2 * 0 + _ ≤ _; exact Nat.le_of_eq rfl) (hb hby at_93) (fun _ _ => ⟨rfl, eh31, (by decide : 1 + 0 ≤ _), (by decide : 4 + 0 ≤ _)⟩)
    dsimp only [Pt.U, Pt.locs, Pt.cells, Pt.slots] at X34 l34 y34 z34 st34 hQ34
    subst l34 y34 z34
    obtain ⟨rfl, N34q, eh34⟩ := hQ34
    have N34 := Fr.app N31 N34q
    refine own_s (g' := (mkF m 96 #[.val (.int p0_0), .val (.int p0_1), .val (.ref b5), .val (.int 1), .val (.int 1), .val (.int (t0_54 p0_1)), .val (.int 1), .unset, .unset] [(.int (r1 (t0_54 p0_1)))])) st34 ?_
    rw [show (r1 (t0_54 p0_1)) = (84 : Int32) from (if_pos c33)]
    refine own_s (g' := (mkF m 98 #[.val (.int p0_0), .val (.int p0_1), .val (.ref b5), .val (.int 1), .val (.int 1), .val (.int (t0_54 p0_1)), .val (.int 1), .val (.int 84), .unset] [])) (fun _ k => XS.istore X34.here hx rfl (hb hby at_96) rfl (l' := #[.val (.int p0_0), .val (.int p0_1), .val (.ref b5), .val (.int 1), .val (.int 1), .val (.int (t0_54 p0_1)), .val (.int 1), .val (.int 84), .unset]) rfl k) ?_
    refine own_s (g' := (mkF m 100 #[.val (.int p0_0), .val (.int p0_1), .val (.ref b5), .val (.int 1), .val (.int 1), .val (.int (t0_54 p0_1)), .val (.int 1), .val (.int 84), .unset] [(.int 1)])) (fun _ k => XS.iload X34.here hx rfl (hb hby at_98) rfl k) ?_
    refine own_s (g' := (mkF m 103 #[.val (.int p0_0), .val (.int p0_1), .val (.ref b5), .val (.int 1), .val (.int 1), .val (.int (t0_54 p0_1)), .val (.int 1), .val (.int 84), .unset] [])) (fun _ k => XS.ifNo X34.here hx rfl (hb hby at_100) rfl ((if0 _ _).trans (feq ((by decide) : ¬ (1 : Int32) = (0 : Int32))).1) k) ?_
    refine own_s (g' := (mkF m 105 #[.val (.int p0_0), .val (.int p0_1), .val (.ref b5), .val (.int 1), .val (.int 1), .val (.int (t0_54 p0_1)), .val (.int 1), .val (.int 84), .unset] [(.int 84)])) (fun _ k => XS.iload X34.here hx rfl (hb hby at_103) rfl k) ?_
    obtain ⟨_, _, ⟨T35, L35, k35, n35⟩, -, X35, ⟨Lc35, hQ35, l35, y35, z35⟩, st35⟩ := Jvm.LawKit.callS X34 hx (y := (⟨"com/example/junctura/junctura/model/ReadPart", "complement", "(C)C"⟩ : MethodName)) hown (mvT hZ ww1) (mvT hZ ww2) (mvT hZ ww3) (mvT hZ ww4) (by decide) (backOf (W := 0) (rm1 l Z a0 hw [] (84 : Int32) h12 n0 (Nat.le_trans Z0 K12.1) ) hZ ww4 ww3 (by decide) (by decide)) (g := (mkF m 105 #[.val (.int p0_0), .val (.int p0_1), .val (.ref b5), .val (.int 1), .val (.int 1), .val (.int (t0_54 p0_1)), .val (.int 1), .val (.int 84), .unset] [(.int 84)])) rfl (by rw [hml]; rfl) (argsL := [(.int 84)]) (rest := []) (lenOf pd__C_C rfl) rfl (by show 2 * 0 + _ ≤ _; exact Nat.le_of_eq rfl) (hb hby at_105) (fun _ _ => ⟨rfl, eh34, (by decide : 1 + 0 ≤ _), (by decide : 4 + 0 ≤ _)⟩)
    dsimp only [Pt.U, Pt.locs, Pt.cells, Pt.slots] at X35 l35 y35 z35 st35 hQ35
    subst l35 y35 z35
    obtain ⟨rfl, N35q, eh35⟩ := hQ35
    have N35 := Fr.app N34 N35q
    refine own_s (g' := (mkF m 108 #[.val (.int p0_0), .val (.int p0_1), .val (.ref b5), .val (.int 1), .val (.int 1), .val (.int (t0_54 p0_1)), .val (.int 1), .val (.int 84), .unset] [(.int (r1 (84 : Int32)))])) st35 ?_
    rw [show (r1 (84 : Int32)) = (65 : Int32) from ((if_neg ((by decide) : ¬ (84 : Int32) = (65 : Int32))).trans ((if_neg ((by decide) : ¬ (84 : Int32) = (67 : Int32))).trans ((if_neg ((by decide) : ¬ (84 : Int32) = (71 : Int32))).trans (if_pos ((by decide) : (84 : Int32) = (84 : Int32))))))]
    refine own_s (g' := (mkF m 110 #[.val (.int p0_0), .val (.int p0_1), .val (.ref b5), .val (.int 1), .val (.int 1), .val (.int (t0_54 p0_1)), .val (.int 1), .val (.int 84), .unset] [(.int (t0_54 p0_1)), (.int 65)])) (fun _ k => XS.iload X35.here hx rfl (hb hby at_108) rfl k) ?_
    refine own_s (g' := (mkF m 113 #[.val (.int p0_0), .val (.int p0_1), .val (.ref b5), .val (.int 1), .val (.int 1), .val (.int (t0_54 p0_1)), .val (.int 1), .val (.int 84), .unset] [])) (fun _ k => XS.icmpNo X35.here hx rfl (hb hby at_110) rfl (teq ((by rw [c33] <;> decide) : (65 : Int32) = (t0_54 p0_1))).2 k) ?_
    refine own_s (g' := (mkF m 115 #[.val (.int p0_0), .val (.int p0_1), .val (.ref b5), .val (.int 1), .val (.int 1), .val (.int (t0_54 p0_1)), .val (.int 1), .val (.int 84), .unset] [(.int 84)])) (fun _ k => XS.iload X35.here hx rfl (hb hby at_113) rfl k) ?_
    refine own_s (g' := (mkF m 117 #[.val (.int p0_0), .val (.int p0_1), .val (.ref b5), .val (.int 1), .val (.int 1), .val (.int (t0_54 p0_1)), .val (.int 1), .val (.int 84), .unset] [(.int (t0_54 p0_1)), (.int 84)])) (fun _ k => XS.iload X35.here hx rfl (hb hby at_115) rfl k) ?_
    refine own_s (g' := (mkF m 120 #[.val (.int p0_0), .val (.int p0_1), .val (.ref b5), .val (.int 1), .val (.int 1), .val (.int (t0_54 p0_1)), .val (.int 1), .val (.int 84), .unset] [])) (fun _ k => XS.icmpNo X35.here hx rfl (hb hby at_117) rfl (feq ((by rw [c33] <;> decide) : ¬ (84 : Int32) = (t0_54 p0_1))).1 k) ?_
    refine own_s (g' := (mkF m 121 #[.val (.int p0_0), .val (.int p0_1), .val (.ref b5), .val (.int 1), .val (.int 1), .val (.int (t0_54 p0_1)), .val (.int 1), .val (.int 84), .unset] [(.int 1)])) (fun _ k => XS.iconst X35.here hx rfl (hb hby at_120) k) ?_
    refine own_s (g' := (mkF m 125 #[.val (.int p0_0), .val (.int p0_1), .val (.ref b5), .val (.int 1), .val (.int 1), .val (.int (t0_54 p0_1)), .val (.int 1), .val (.int 84), .unset] [(.int 1)])) (fun _ k => XS.goto X35.here hx rfl (pc0 := 121) (pc' := 125) rfl (hb hby at_121) (by decide) (by decide) k) ?_
    refine own_s (g' := (mkF m 127 #[.val (.int p0_0), .val (.int p0_1), .val (.ref b5), .val (.int 1), .val (.int 1), .val (.int (t0_54 p0_1)), .val (.int 1), .val (.int 84), .val (.int 1)] [])) (fun _ k => XS.istore X35.here hx rfl (hb hby at_125) rfl (l' := #[.val (.int p0_0), .val (.int p0_1), .val (.ref b5), .val (.int 1), .val (.int 1), .val (.int (t0_54 p0_1)), .val (.int 1), .val (.int 84), .val (.int 1)]) rfl k) ?_
    refine own_s (g' := (mkF m 144 #[.val (.int p0_0), .val (.int p0_1), .val (.ref b5), .val (.int 1), .val (.int 1), .val (.int (t0_54 p0_1)), .val (.int 1), .val (.int 84), .val (.int 1)] [])) (fun _ k => XS.goto X35.here hx rfl (pc0 := 127) (pc' := 144) rfl (hb hby at_127) (by decide) (by decide) k) ?_
    refine own_s (g' := (mkF m 146 #[.val (.int p0_0), .val (.int p0_1), .val (.ref b5), .val (.int 1), .val (.int 1), .val (.int (t0_54 p0_1)), .val (.int 1), .val (.int 84), .val (.int 1)] [(.int 1)])) (fun _ k => XS.iload X35.here hx rfl (hb hby at_144) rfl k) ?_
    refine own_s (g' := (mkF m 149 #[.val (.int p0_0), .val (.int p0_1), .val (.ref b5), .val (.int 1), .val (.int 1), .val (.int (t0_54 p0_1)), .val (.int 1), .val (.int 84), .val (.int 1)] [])) (fun _ k => XS.ifNo X35.here hx rfl (hb hby at_146) rfl ((if0 _ _).trans (feq ((by decide) : ¬ (1 : Int32) = (0 : Int32))).1) k) ?_
    refine own_s (g' := (mkF m 151 #[.val (.int p0_0), .val (.int p0_1), .val (.ref b5), .val (.int 1), .val (.int 1), .val (.int (t0_54 p0_1)), .val (.int 1), .val (.int 84), .val (.int 1)] [(.int 1)])) (fun _ k => XS.iload X35.here hx rfl (hb hby at_149) rfl k) ?_
    refine own_s (g' := (mkF m 154 #[.val (.int p0_0), .val (.int p0_1), .val (.ref b5), .val (.int 1), .val (.int 1), .val (.int (t0_54 p0_1)), .val (.int 1), .val (.int 84), .val (.int 1)] [])) (fun _ k => XS.ifNo X35.here hx rfl (hb hby at_151) rfl ((if0 _ _).trans (feq ((by decide) : ¬ (1 : Int32) = (0 : Int32))).1) k) ?_
    refine own_s (g' := (mkF m 155 #[.val (.int p0_0), .val (.int p0_1), .val (.ref b5), .val (.int 1), .val (.int 1), .val (.int (t0_54 p0_1)), .val (.int 1), .val (.int 84), .val (.int 1)] [(.int 1)])) (fun _ k => XS.iconst X35.here hx rfl (hb hby at_154) k) ?_
    refine own_s (g' := (mkF m 159 #[.val (.int p0_0), .val (.int p0_1), .val (.ref b5), .val (.int 1), .val (.int 1), .val (.int (t0_54 p0_1)), .val (.int 1), .val (.int 84), .val (.int 1)] [(.int 1)])) (fun _ k => XS.goto X35.here hx rfl (pc0 := 155) (pc' := 159) rfl (hb hby at_155) (by decide) (by decide) k) ?_
    refine own_retN X35 hx hlk (t := .boolean) hret (by simp) (hb hby at_159) (z' := (1 : Int32)) (by decide) (by decide) (by decide) ?_
    show Q0 Z p0_0 p0_1 h0 n0 _ T35.heap _
    rw [eh35]
    exact ⟨rfl, N35⟩
   ·skip
    refine own_s (g' := (mkF m 63 #[.val (.int p0_0), .val (.int p0_1), .val (.ref b5), .val (.int 1), .val (.int 1), .val (.int (t0_54 p0_1)), .unset, .unset, .unset] [])) (fun _ k => XS.icmpNo X31.here hx rfl (hb hby at_60) rfl (feq c33).1 k) ?_
    refine own_s (g' := (mkF m 65 #[.val (.int p0_0), .val (.int p0_1), .val (.ref b5), .val (.int 1), .val (.int 1), .val (.int (t0_54 p0_1)), .unset, .unset, .unset] [(.int (t0_54 p0_1))])) (fun _ k => XS.iload X31.here hx rfl (hb hby at_63) rfl k) ?_
    refine own_s (g' := (mkF m 67 #[.val (.int p0_0), .val (.int p0_1), .val (.ref b5), .val (.int 1), .val (.int 1), .val (.int (t0_54 p0_1)), .unset, .unset, .unset] [(.int 67), (.int (t0_54 p0_1))])) (fun _ k => XS.bipush X31.here hx rfl (hb hby at_65) k) ?_
    by_cases c36 : (t0_54 p0_1) = (67 : Int32)
    ·skip
     refine own_s (g' := (mkF m 84 #[.val (.int p0_0), .val (.int p0_1), .val (.ref b5), .val (.int 1), .val (.int 1), .val (.int (t0_54 p0_1)), .unset, .unset, .unset] [])) (fun _ k => XS.icmpYes X31.here hx rfl (pc0 := 67) (pc' := 84) rfl (hb hby at_67) rfl (teq c36).1 (by decide) (by decide) k) ?_
     refine own_s (g' := (mkF m 85 #[.val (.int p0_0), .val (.int p0_1), .val (.ref b5), .val (.int 1), .val (.int 1), .val (.int (t0_54 p0_1)), .unset, .unset, .unset] [(.int 1)])) (fun _ k => XS.iconst X31.here hx rfl (hb hby at_84) k) ?_
     refine own_s (g' := (mkF m 89 #[.val (.int p0_0), .val (.int p0_1), .val (.ref b5), .val (.int 1), .val (.int 1), .val (.int (t0_54 p0_1)), .unset, .unset, .unset] [(.int 1)])) (fun _ k => XS.goto X31.here hx rfl (pc0 := 85) (pc' := 89) rfl (hb hby at_85) (by decide) (by decide) k) ?_
     refine own_s (g' := (mkF m 91 #[.val (.int p0_0), .val (.int p0_1), .val (.ref b5), .val (.int 1), .val (.int 1), .val (.int (t0_54 p0_1)), .val (.int 1), .unset, .unset] [])) (fun _ k => XS.istore X31.here hx rfl (hb hby at_89) rfl (l' := #[.val (.int p0_0), .val (.int p0_1), .val (.ref b5), .val (.int 1), .val (.int 1), .val (.int (t0_54 p0_1)), .val (.int 1), .unset, .unset]) rfl k) ?_
     refine own_s (g' := (mkF m 93 #[.val (.int p0_0), .val (.int p0_1), .val (.ref b5), .val (.int 1), .val (.int 1), .val (.int (t0_54 p0_1)), .val (.int 1), .unset, .unset] [(.int (t0_54 p0_1))])) (fun _ k => XS.iload X31.here hx rfl (hb hby at_91) rfl k) ?_
     obtain ⟨_, _, ⟨T37, L37, k37, n37⟩, -, X37, ⟨Lc37, hQ37, l37, y37, z37⟩, st37⟩ := Jvm.LawKit.callS X31 hx (y := (⟨"com/example/junctura/junctura/model/ReadPart", "complement", "(C)C"⟩ : MethodName)) hown (mvT hZ ww1) (mvT hZ ww2) (mvT hZ ww3) (mvT hZ ww4) (by decide) (backOf (W := 0) (rm1 l Z a0 hw [] (t0_54 p0_1) h12 n0 (Nat.le_trans Z0 K12.1) ) hZ ww4 ww3 (by decide) (by decide)) (g := (mkF m 93 #[.val (.int p0_0), .val (.int p0_1), .val (.ref b5), .val (.int 1), .val (.int 1), .val (.int (t0_54 p0_1)), .val (.int 1), .unset, .unset] [(.int (t0_54 p0_1))])) rfl (by rw [hml]; rfl) (argsL := [(.int (t0_54 p0_1))]) (rest := []) (lenOf pd__C_C rfl) rfl (by show 2 * 0 + _ ≤ _; exact Nat.le_of_eq rfl) (hb hby at_93) (fun _ _ => ⟨rfl, eh31, (by decide : 1 + 0 ≤ _), (by decide : 4 + 0 ≤ _)⟩)
     dsimp only [Pt.U, Pt.locs, Pt.cells, Pt.slots] at X37 l37 y37 z37 st37 hQ37
     subst l37 y37 z37
     obtain ⟨rfl, N37q, eh37⟩ := hQ37
     have N37 := Fr.app N31 N37q
     refine own_s (g' := (mkF m 96 #[.val (.int p0_0), .val (.int p0_1), .val (.ref b5), .val (.int 1), .val (.int 1), .val (.int (t0_54 p0_1)), .val (.int 1), .unset, .unset] [(.int (r1 (t0_54 p0_1)))])) st37 ?_
     rw [show (r1 (t0_54 p0_1)) = (71 : Int32) from ((if_neg c33).trans (if_pos c36))]
     refine own_s (g' := (mkF m 98 #[.val (.int p0_0), .val (.int p0_1), .val (.ref b5), .val (.int 1), .val (.int 1), .val (.int (t0_54 p0_1)), .val (.int 1), .val (.int 71), .unset] [])) (fun _ k => XS.istore X37.here hx rfl (hb hby at_96) rfl (l' := #[.val (.int p0_0), .val (.int p0_1), .val (.ref b5), .val (.int 1), .val (.int 1), .val (.int (t0_54 p0_1)), .val (.int 1), .val (.int 71), .unset]) rfl k) ?_
     refine own_s (g' := (mkF m 100 #[.val (.int p0_0), .val (.int p0_1), .val (.ref b5), .val (.int 1), .val (.int 1), .val (.int (t0_54 p0_1)), .val (.int 1), .val (.int 71), .unset] [(.int 1)])) (fun _ k => XS.iload X37.here hx rfl (hb hby at_98) rfl k) ?_
     refine own_s (g' := (mkF m 103 #[.val (.int p0_0), .val (.int p0_1), .val (.ref b5), .val (.int 1), .val (.int 1), .val (.int (t0_54 p0_1)), .val (.int 1), .val (.int 71), .unset] [])) (fun _ k => XS.ifNo X37.here hx rfl (hb hby at_100) rfl ((if0 _ _).trans (feq ((by decide) : ¬ (1 : Int32) = (0 : Int32))).1) k) ?_
     refine own_s (g' := (mkF m 105 #[.val (.int p0_0), .val (.int p0_1), .val (.ref b5), .val (.int 1), .val (.int 1), .val (.int (t0_54 p0_1)), .val (.int 1), .val (.int 71), .unset] [(.int 71)])) (fun _ k => XS.iload X37.here hx rfl (hb hby at_103) rfl k) ?_
     obtain ⟨_, _, ⟨T38, L38, k38, n38⟩, -, X38, ⟨Lc38, hQ38, l38, y38, z38⟩, st38⟩ := Jvm.LawKit.callS X37 hx (y := (⟨"com/example/junctura/junctura/model/ReadPart", "complement", "(C)C"⟩ : MethodName)) hown (mvT hZ ww1) (mvT hZ ww2) (mvT hZ ww3) (mvT hZ ww4) (by decide) (backOf (W := 0) (rm1 l Z a0 hw [] (71 : Int32) h12 n0 (Nat.le_trans Z0 K12.1) ) hZ ww4 ww3 (by decide) (by decide)) (g := (mkF m 105 #[.val (.int p0_0), .val (.int p0_1), .val (.ref b5), .val (.int 1), .val (.int 1), .val (.int (t0_54 p0_1)), .val (.int 1), .val (.int 71), .unset] [(.int 71)])) rfl (by rw [hml]; rfl) (argsL := [(.int 71)]) (rest := []) (lenOf pd__C_C rfl) rfl (by show 2 * 0 + _ ≤ _; exact Nat.le_of_eq rfl) (hb hby at_105) (fun _ _ => ⟨rfl, eh37, (by decide : 1 + 0 ≤ _), (by decide : 4 + 0 ≤ _)⟩)
     dsimp only [Pt.U, Pt.locs, Pt.cells, Pt.slots] at X38 l38 y38 z38 st38 hQ38
     subst l38 y38 z38
     obtain ⟨rfl, N38q, eh38⟩ := hQ38
     have N38 := Fr.app N37 N38q
     refine own_s (g' := (mkF m 108 #[.val (.int p0_0), .val (.int p0_1), .val (.ref b5), .val (.int 1), .val (.int 1), .val (.int (t0_54 p0_1)), .val (.int 1), .val (.int 71), .unset] [(.int (r1 (71 : Int32)))])) st38 ?_
     rw [show (r1 (71 : Int32)) = (67 : Int32) from ((if_neg ((by decide) : ¬ (71 : Int32) = (65 : Int32))).trans ((if_neg ((by decide) : ¬ (71 : Int32) = (67 : Int32))).trans (if_pos ((by decide) : (71 : Int32) = (71 : Int32)))))]
     refine own_s (g' := (mkF m 110 #[.val (.int p0_0), .val (.int p0_1), .val (.ref b5), .val (.int 1), .val (.int 1), .val (.int (t0_54 p0_1)), .val (.int 1), .val (.int 71), .unset] [(.int (t0_54 p0_1)), (.int 67)])) (fun _ k => XS.iload X38.here hx rfl (hb hby at_108) rfl k) ?_
     refine own_s (g' := (mkF m 113 #[.val (.int p0_0), .val (.int p0_1), .val (.ref b5), .val (.int 1), .val (.int 1), .val (.int (t0_54 p0_1)), .val (.int 1), .val (.int 71), .unset] [])) (fun _ k => XS.icmpNo X38.here hx rfl (hb hby at_110) rfl (teq ((by rw [c36] <;> decide) : (67 : Int32) = (t0_54 p0_1))).2 k) ?_
     refine own_s (g' := (mkF m 115 #[.val (.int p0_0), .val (.int p0_1), .val (.ref b5), .val (.int 1), .val (.int 1), .val (.int (t0_54 p0_1)), .val (.int 1), .val (.int 71), .unset] [(.int 71)])) (fun _ k => XS.iload X38.here hx rfl (hb hby at_113) rfl k) ?_
     refine own_s (g' := (mkF m 117 #[.val (.int p0_0), .val (.int p0_1), .val (.ref b5), .val (.int 1), .val (.int 1), .val (.int (t0_54 p0_1)), .val (.int 1), .val (.int 71), .unset] [(.int (t0_54 p0_1)), (.int 71)])) (fun _ k => XS.iload X38.here hx rfl (hb hby at_115) rfl k) ?_
     refine own_s (g' := (mkF m 120 #[.val (.int p0_0), .val (.int p0_1), .val (.ref b5), .val (.int 1), .val (.int 1), .val (.int (t0_54 p0_1)), .val (.int 1), .val (.int 71), .unset] [])) (fun _ k => XS.icmpNo X38.here hx rfl (hb hby at_117) rfl (feq ((by rw [c36] <;> decide) : ¬ (71 : Int32) = (t0_54 p0_1))).1 k) ?_
     refine own_s (g' := (mkF m 121 #[.val (.int p0_0), .val (.int p0_1), .val (.ref b5), .val (.int 1), .val (.int 1), .val (.int (t0_54 p0_1)), .val (.int 1), .val (.int 71), .unset] [(.int 1)])) (fun _ k => XS.iconst X38.here hx rfl (hb hby at_120) k) ?_
     refine own_s (g' := (mkF m 125 #[.val (.int p0_0), .val (.int p0_1), .val (.ref b5), .val (.int 1), .val (.int 1), .val (.int (t0_54 p0_1)), .val (.int 1), .val (.int 71), .unset] [(.int 1)])) (fun _ k => XS.goto X38.here hx rfl (pc0 := 121) (pc' := 125) rfl (hb hby at_121) (by decide) (by decide) k) ?_
     refine own_s (g' := (mkF m 127 #[.val (.int p0_0), .val (.int p0_1), .val (.ref b5), .val (.int 1), .val (.int 1), .val (.int (t0_54 p0_1)), .val (.int 1), .val (.int 71), .val (.int 1)] [])) (fun _ k => XS.istore X38.here hx rfl (hb hby at_125) rfl (l' := #[.val (.int p0_0), .val (.int p0_1), .val (.ref b5), .val (.int 1), .val (.int 1), .val (.int (t0_54 p0_1)), .val (.int 1), .val (.int 71), .val (.int 1)]) rfl k) ?_
     refine own_s (g' := (mkF m 144 #[.val (.int p0_0), .val (.int p0_1), .val (.ref b5), .val (.int 1), .val (.int 1), .val (.int (t0_54 p0_1)), .val (.int 1), .val (.int 71), .val (.int 1)] [])) (fun _ k => XS.goto X38.here hx rfl (pc0 := 127) (pc' := 144) rfl (hb hby at_127) (by decide) (by decide) k) ?_
     refine own_s (g' := (mkF m 146 #[.val (.int p0_0), .val (.int p0_1), .val (.ref b5), .val (.int 1), .val (.int 1), .val (.int (t0_54 p0_1)), .val (.int 1), .val (.int 71), .val (.int 1)] [(.int 1)])) (fun _ k => XS.iload X38.here hx rfl (hb hby at_144) rfl k) ?_
     refine own_s (g' := (mkF m 149 #[.val (.int p0_0), .val (.int p0_1), .val (.ref b5), .val (.int 1), .val (.int 1), .val (.int (t0_54 p0_1)), .val (.int 1), .val (.int 71), .val (.int 1)] [])) (fun _ k => XS.ifNo X38.here hx rfl (hb hby at_146) rfl ((if0 _ _).trans (feq ((by decide) : ¬ (1 : Int32) = (0 : Int32))).1) k) ?_
     refine own_s (g' := (mkF m 151 #[.val (.int p0_0), .val (.int p0_1), .val (.ref b5), .val (.int 1), .val (.int 1), .val (.int (t0_54 p0_1)), .val (.int 1), .val (.int 71), .val (.int 1)] [(.int 1)])) (fun _ k => XS.iload X38.here hx rfl (hb hby at_149) rfl k) ?_
     refine own_s (g' := (mkF m 154 #[.val (.int p0_0), .val (.int p0_1), .val (.ref b5), .val (.int 1), .val (.int 1), .val (.int (t0_54 p0_1)), .val (.int 1), .val (.int 71), .val (.int 1)] [])) (fun _ k => XS.ifNo X38.here hx rfl (hb hby at_151) rfl ((if0 _ _).trans (feq ((by decide) : ¬ (1 : Int32) = (0 : Int32))).1) k) ?_
     refine own_s (g' := (mkF m 155 #[.val (.int p0_0), .val (.int p0_1), .val (.ref b5), .val (.int 1), .val (.int 1), .val (.int (t0_54 p0_1)), .val (.int 1), .val (.int 71), .val (.int 1)] [(.int 1)])) (fun _ k => XS.iconst X38.here hx rfl (hb hby at_154) k) ?_
     refine own_s (g' := (mkF m 159 #[.val (.int p0_0), .val (.int p0_1), .val (.ref b5), .val (.int 1), .val (.int 1), .val (.int (t0_54 p0_1)), .val (.int 1), .val (.int 71), .val (.int 1)] [(.int 1)])) (fun _ k => XS.goto X38.here hx rfl (pc0 := 155) (pc' := 159) rfl (hb hby at_155) (by decide) (by decide) k) ?_
     refine own_retN X38 hx hlk (t := .boolean) hret (by simp) (hb hby at_159) (z' := (1 : Int32)) (by decide) (by decide) (by decide) ?_
     show Q0 Z p0_0 p0_1 h0 n0 _ T38.heap _
     rw [eh38]
     exact ⟨rfl, N38⟩
    ·skip
     refine own_s (g' := (mkF m 70 #[.val (.int p0_0), .val (.int p0_1), .val (.ref b5), .val (.int 1), .val (.int 1), .val (.int (t0_54 p0_1)), .unset, .unset, .unset] [])) (fun _ k => XS.icmpNo X31.here hx rfl (hb hby at_67) rfl (feq c36).1 k) ?_
     refine own_s (g' := (mkF m 72 #[.val (.int p0_0), .val (.int p0_1), .val (.ref b5), .val (.int 1), .val (.int 1), .val (.int (t0_54 p0_1)), .unset, .unset, .unset] [(.int (t0_54 p0_1))])) (fun _ k => XS.iload X31.here hx rfl (hb hby at_70) rfl k) ?_
     refine own_s (g' := (mkF m 74 #[.val (.int p0_0), .val (.int p0_1), .val (.ref b5), .val (.int 1), .val (.int 1), .val (.int (t0_54 p0_1)), .unset, .unset, .unset] [(.int 71), (.int (t0_54 p0_1))])) (fun _ k => XS.bipush X31.here hx rfl (hb hby at_72) k) ?_
     by_cases c39 : (t0_54 p0_1) = (71 : Int32)
     ·skip
      refine own_s (g' := (mkF m 84 #[.val (.int p0_0), .val (.int p0_1), .val (.ref b5), .val (.int 1), .val (.int 1), .val (.int (t0_54 p0_1)), .unset, .unset, .unset] [])) (fun _ k => XS.icmpYes X31.here hx rfl (pc0 := 74) (pc' := 84) rfl (hb hby at_74) rfl (teq c39).1 (by decide) (by decide) k) ?_
      refine own_s (g' := (mkF m 85 #[.val (.int p0_0), .val (.int p0_1), .val (.ref b5), .val (.int 1), .val (.int 1), .val (.int (t0_54 p0_1)), .unset, .unset, .unset] [(.int 1)])) (fun _ k => XS.iconst X31.here hx rfl (hb hby at_84) k) ?_
      refine own_s (g' := (mkF m 89 #[.val (.int p0_0), .val (.int p0_1), .val (.ref b5), .val (.int 1), .val (.int 1), .val (.int (t0_54 p0_1)), .unset, .unset, .unset] [(.int 1)])) (fun _ k => XS.goto X31.here hx rfl (pc0 := 85) (pc' := 89) rfl (hb hby at_85) (by decide) (by decide) k) ?_
      refine own_s (g' := (mkF m 91 #[.val (.int p0_0), .val (.int p0_1), .val (.ref b5), .val (.int 1), .val (.int 1), .val (.int (t0_54 p0_1)), .val (.int 1), .unset, .unset] [])) (fun _ k => XS.istore X31.here hx rfl (hb hby at_89) rfl (l' := #[.val (.int p0_0), .val (.int p0_1), .val (.ref b5), .val (.int 1), .val (.int 1), .val (.int (t0_54 p0_1)), .val (.int 1), .unset, .unset]) rfl k) ?_
      refine own_s (g' := (mkF m 93 #[.val (.int p0_0), .val (.int p0_1), .val (.ref b5), .val (.int 1), .val (.int 1), .val (.int (t0_54 p0_1)), .val (.int 1), .unset, .unset] [(.int (t0_54 p0_1))])) (fun _ k => XS.iload X31.here hx rfl (hb hby at_91) rfl k) ?_
      obtain ⟨_, _, ⟨T40, L40, k40, n40⟩, -, X40, ⟨Lc40, hQ40, l40, y40, z40⟩, st40⟩ := Jvm.LawKit.callS X31 hx (y := (⟨"com/example/junctura/junctura/model/ReadPart", "complement", "(C)C"⟩ : MethodName)) hown (mvT hZ ww1) (mvT hZ ww2) (mvT hZ ww3) (mvT hZ ww4) (by decide) (backOf (W := 0) (rm1 l Z a0 hw [] (t0_54 p0_1) h12 n0 (Nat.le_trans Z0 K12.1) ) hZ ww4 ww3 (by decide) (by decide)) (g := (mkF m 93 #[.val (.int p0_0), .val (.int p0_1), .val (.ref b5), .val (.int 1), .val (.int 1), .val (.int (t0_54 p0_1)), .val (.int 1), .unset, .unset] [(.int (t0_54 p0_1))])) rfl (by rw [hml]; rfl) (argsL := [(.int (t0_54 p0_1))]) (rest := []) (lenOf pd__C_C rfl) rfl (by show 2 * 0 + _ ≤ _; exact Nat.le_of_eq rfl) (hb hby at_93) (fun _ _ => ⟨rfl, eh31, (by decide : 1 + 0 ≤ _), (by decide : 4 + 0 ≤ _)⟩)
      dsimp only [Pt.U, Pt.locs, Pt.cells, Pt.slots] at X40 l40 y40 z40 st40 hQ40
      subst l40 y40 z40
      obtain ⟨rfl, N40q, eh40⟩ := hQ40
      have N40 := Fr.app N31 N40q
      refine own_s (g' := (mkF m 96 #[.val (.int p0_0), .val (.int p0_1), .val (.ref b5), .val (.int 1), .val (.int 1), .val (.int (t0_54 p0_1)), .val (.int 1), .unset, .unset] [(.int (r1 (t0_54 p0_1)))])) st40 ?_
      rw [show (r1 (t0_54 p0_1)) = (67 : Int32) from ((if_neg c33).trans ((if_neg c36).trans (if_pos c39)))]
      refine own_s (g' := (mkF m 98 #[.val (.int p0_0), .val (.int p0_1), .val (.ref b5), .val (.int 1), .val (.int 1), .val (.int (t0_54 p0_1)), .val (.int 1), .val (.int 67), .unset] [])) (fun _ k => XS.istore X40.here hx rfl (hb hby at_96) rfl (l' := #[.val (.int p0_0), .val (.int p0_1), .val (.ref b5), .val (.int 1), .val (.int 1), .val (.int (t0_54 p0_1)), .val (.int 1), .val (.int 67), .unset]) rfl k) ?_
      refine own_s (g' := (mkF m 100 #[.val (.int p0_0), .val (.int p0_1), .val (.ref b5), .val (.int 1), .val (.int 1), .val (.int (t0_54 p0_1)), .val (.int 1), .val (.int 67), .unset] [(.int 1)])) (fun _ k => XS.iload X40.here hx rfl (hb hby at_98) rfl k) ?_
      refine own_s (g' := (mkF m 103 #[.val (.int p0_0), .val (.int p0_1), .val (.ref b5), .val (.int 1), .val (.int 1), .val (.int (t0_54 p0_1)), .val (.int 1), .val (.int 67), .unset] [])) (fun _ k => XS.ifNo X40.here hx rfl (hb hby at_100) rfl ((if0 _ _).trans (feq ((by decide) : ¬ (1 : Int32) = (0 : Int32))).1) k) ?_
      refine own_s (g' := (mkF m 105 #[.val (.int p0_0), .val (.int p0_1), .val (.ref b5), .val (.int 1), .val (.int 1), .val (.int (t0_54 p0_1)), .val (.int 1), .val (.int 67), .unset] [(.int 67)])) (fun _ k => XS.iload X40.here hx rfl (hb hby at_103) rfl k) ?_
      obtain ⟨_, _, ⟨T41, L41, k41, n41⟩, -, X41, ⟨Lc41, hQ41, l41, y41, z41⟩, st41⟩ := Jvm.LawKit.callS X40 hx (y := (⟨"com/example/junctura/junctura/model/ReadPart", "complement", "(C)C"⟩ : MethodName)) hown (mvT hZ ww1) (mvT hZ ww2) (mvT hZ ww3) (mvT hZ ww4) (by decide) (backOf (W := 0) (rm1 l Z a0 hw [] (67 : Int32) h12 n0 (Nat.le_trans Z0 K12.1) ) hZ ww4 ww3 (by decide) (by decide)) (g := (mkF m 105 #[.val (.int p0_0), .val (.int p0_1), .val (.ref b5), .val (.int 1), .val (.int 1), .val (.int (t0_54 p0_1)), .val (.int 1), .val (.int 67), .unset] [(.int 67)])) rfl (by rw [hml]; rfl) (argsL := [(.int 67)]) (rest := []) (lenOf pd__C_C rfl) rfl (by show 2 * 0 + _ ≤ _; exact Nat.le_of_eq rfl) (hb hby at_105) (fun _ _ => ⟨rfl, eh40, (by decide : 1 + 0 ≤ _), (by decide : 4 + 0 ≤ _)⟩)
      dsimp only [Pt.U, Pt.locs, Pt.cells, Pt.slots] at X41 l41 y41 z41 st41 hQ41
      subst l41 y41 z41
      obtain ⟨rfl, N41q, eh41⟩ := hQ41
      have N41 := Fr.app N40 N41q
      refine own_s (g' := (mkF m 108 #[.val (.int p0_0), .val (.int p0_1), .val (.ref b5), .val (.int 1), .val (.int 1), .val (.int (t0_54 p0_1)), .val (.int 1), .val (.int 67), .unset] [(.int (r1 (67 : Int32)))])) st41 ?_
      rw [show (r1 (67 : Int32)) = (71 : Int32) from ((if_neg ((by decide) : ¬ (67 : Int32) = (65 : Int32))).trans (if_pos ((by decide) : (67 : Int32) = (67 : Int32))))]
      refine own_s (g' := (mkF m 110 #[.val (.int p0_0), .val (.int p0_1), .val (.ref b5), .val (.int 1), .val (.int 1), .val (.int (t0_54 p0_1)), .val (.int 1), .val (.int 67), .unset] [(.int (t0_54 p0_1)), (.int 71)])) (fun _ k => XS.iload X41.here hx rfl (hb hby at_108) rfl k) ?_
      refine own_s (g' := (mkF m 113 #[.val (.int p0_0), .val (.int p0_1), .val (.ref b5), .val (.int 1), .val (.int 1), .val (.int (t0_54 p0_1)), .val (.int 1), .val (.int 67), .unset] [])) (fun _ k => XS.icmpNo X41.here hx rfl (hb hby at_110) rfl (teq ((by rw [c39] <;> decide) : (71 : Int32) = (t0_54 p0_1))).2 k) ?_
      refine own_s (g' := (mkF m 115 #[.val (.int p0_0), .val (.int p0_1), .val (.ref b5), .val (.int 1), .val (.int 1), .val (.int (t0_54 p0_1)), .val (.int 1), .val (.int 67), .unset] [(.int 67)])) (fun _ k => XS.iload X41.here hx rfl (hb hby at_113) rfl k) ?_
      refine own_s (g' := (mkF m 117 #[.val (.int p0_0), .val (.int p0_1), .val (.ref b5), .val (.int 1), .val (.int 1), .val (.int (t0_54 p0_1)), .val (.int 1), .val (.int 67), .unset] [(.int (t0_54 p0_1)), (.int 67)])) (fun _ k => XS.iload X41.here hx rfl (hb hby at_115) rfl k) ?_
      refine own_s (g' := (mkF m 120 #[.val (.int p0_0), .val (.int p0_1), .val (.ref b5), .val (.int 1), .val (.int 1), .val (.int (t0_54 p0_1)), .val (.int 1), .val (.int 67), .unset] [])) (fun _ k => XS.icmpNo X41.here hx rfl (hb hby at_117) rfl (feq ((by rw [c39] <;> decide) : ¬ (67 : Int32) = (t0_54 p0_1))).1 k) ?_
      refine own_s (g' := (mkF m 121 #[.val (.int p0_0), .val (.int p0_1), .val (.ref b5), .val (.int 1), .val (.int 1), .val (.int (t0_54 p0_1)), .val (.int 1), .val (.int 67), .unset] [(.int 1)])) (fun _ k => XS.iconst X41.here hx rfl (hb hby at_120) k) ?_
      refine own_s (g' := (mkF m 125 #[.val (.int p0_0), .val (.int p0_1), .val (.ref b5), .val (.int 1), .val (.int 1), .val (.int (t0_54 p0_1)), .val (.int 1), .val (.int 67), .unset] [(.int 1)])) (fun _ k => XS.goto X41.here hx rfl (pc0 := 121) (pc' := 125) rfl (hb hby at_121) (by decide) (by decide) k) ?_
      refine own_s (g' := (mkF m 127 #[.val (.int p0_0), .val (.int p0_1), .val (.ref b5), .val (.int 1), .val (.int 1), .val (.int (t0_54 p0_1)), .val (.int 1), .val (.int 67), .val (.int 1)] [])) (fun _ k => XS.istore X41.here hx rfl (hb hby at_125) rfl (l' := #[.val (.int p0_0), .val (.int p0_1), .val (.ref b5), .val (.int 1), .val (.int 1), .val (.int (t0_54 p0_1)), .val (.int 1), .val (.int 67), .val (.int 1)]) rfl k) ?_
      refine own_s (g' := (mkF m 144 #[.val (.int p0_0), .val (.int p0_1), .val (.ref b5), .val (.int 1), .val (.int 1), .val (.int (t0_54 p0_1)), .val (.int 1), .val (.int 67), .val (.int 1)] [])) (fun _ k => XS.goto X41.here hx rfl (pc0 := 127) (pc' := 144) rfl (hb hby at_127) (by decide) (by decide) k) ?_
      refine own_s (g' := (mkF m 146 #[.val (.int p0_0), .val (.int p0_1), .val (.ref b5), .val (.int 1), .val (.int 1), .val (.int (t0_54 p0_1)), .val (.int 1), .val (.int 67), .val (.int 1)] [(.int 1)])) (fun _ k => XS.iload X41.here hx rfl (hb hby at_144) rfl k) ?_
      refine own_s (g' := (mkF m 149 #[.val (.int p0_0), .val (.int p0_1), .val (.ref b5), .val (.int 1), .val (.int 1), .val (.int (t0_54 p0_1)), .val (.int 1), .val (.int 67), .val (.int 1)] [])) (fun _ k => XS.ifNo X41.here hx rfl (hb hby at_146) rfl ((if0 _ _).trans (feq ((by decide) : ¬ (1 : Int32) = (0 : Int32))).1) k) ?_
      refine own_s (g' := (mkF m 151 #[.val (.int p0_0), .val (.int p0_1), .val (.ref b5), .val (.int 1), .val (.int 1), .val (.int (t0_54 p0_1)), .val (.int 1), .val (.int 67), .val (.int 1)] [(.int 1)])) (fun _ k => XS.iload X41.here hx rfl (hb hby at_149) rfl k) ?_
      refine own_s (g' := (mkF m 154 #[.val (.int p0_0), .val (.int p0_1), .val (.ref b5), .val (.int 1), .val (.int 1), .val (.int (t0_54 p0_1)), .val (.int 1), .val (.int 67), .val (.int 1)] [])) (fun _ k => XS.ifNo X41.here hx rfl (hb hby at_151) rfl ((if0 _ _).trans (feq ((by decide) : ¬ (1 : Int32) = (0 : Int32))).1) k) ?_
      refine own_s (g' := (mkF m 155 #[.val (.int p0_0), .val (.int p0_1), .val (.ref b5), .val (.int 1), .val (.int 1), .val (.int (t0_54 p0_1)), .val (.int 1), .val (.int 67), .val (.int 1)] [(.int 1)])) (fun _ k => XS.iconst X41.here hx rfl (hb hby at_154) k) ?_
      refine own_s (g' := (mkF m 159 #[.val (.int p0_0), .val (.int p0_1), .val (.ref b5), .val (.int 1), .val (.int 1), .val (.int (t0_54 p0_1)), .val (.int 1), .val (.int 67), .val (.int 1)] [(.int 1)])) (fun _ k => XS.goto X41.here hx rfl (pc0 := 155) (pc' := 159) rfl (hb hby at_155) (by decide) (by decide) k) ?_
      refine own_retN X41 hx hlk (t := .boolean) hret (by simp) (hb hby at_159) (z' := (1 : Int32)) (by decide) (by decide) (by decide) ?_
      show Q0 Z p0_0 p0_1 h0 n0 _ T41.heap _
      rw [eh41]
      exact ⟨rfl, N41⟩
     ·skip
      refine own_s (g' := (mkF m 77 #[.val (.int p0_0), .val (.int p0_1), .val (.ref b5), .val (.int 1), .val (.int 1), .val (.int (t0_54 p0_1)), .unset, .unset, .unset] [])) (fun _ k => XS.icmpNo X31.here hx rfl (hb hby at_74) rfl (feq c39).1 k) ?_
      refine own_s (g' := (mkF m 79 #[.val (.int p0_0), .val (.int p0_1), .val (.ref b5), .val (.int 1), .val (.int 1), .val (.int (t0_54 p0_1)), .unset, .unset, .unset] [(.int (t0_54 p0_1))])) (fun _ k => XS.iload X31.here hx rfl (hb hby at_77) rfl k) ?_
      refine own_s (g' := (mkF m 81 #[.val (.int p0_0), .val (.int p0_1), .val (.ref b5), .val (.int 1), .val (.int 1), .val (.int (t0_54 p0_1)), .unset, .unset, .unset] [(.int 84), (.int (t0_54 p0_1))])) (fun _ k => XS.bipush X31.here hx rfl (hb hby at_79) k) ?_
      by_cases c42 : (t0_54 p0_1) = (84 : Int32)
      ·skip
       refine own_s (g' := (mkF m 84 #[.val (.int p0_0), .val (.int p0_1), .val (.ref b5), .val (.int 1), .val (.int 1), .val (.int (t0_54 p0_1)), .unset, .unset, .unset] [])) (fun _ k => XS.icmpNo X31.here hx rfl (hb hby at_81) rfl (teq c42).2 k) ?_
       refine own_s (g' := (mkF m 85 #[.val (.int p0_0), .val (.int p0_1), .val (.ref b5), .val (.int 1), .val (.int 1), .val (.int (t0_54 p0_1)), .unset, .unset, .unset] [(.int 1)])) (fun _ k => XS.iconst X31.here hx rfl (hb hby at_84) k) ?_
       refine own_s (g' := (mkF m 89 #[.val (.int p0_0), .val (.int p0_1), .val (.ref b5), .val (.int 1), .val (.int 1), .val (.int (t0_54 p0_1)), .unset, .unset, .unset] [(.int 1)])) (fun _ k => XS.goto X31.here hx rfl (pc0 := 85) (pc' := 89) rfl (hb hby at_85) (by decide) (by decide) k) ?_
       refine own_s (g' := (mkF m 91 #[.val (.int p0_0), .val (.int p0_1), .val (.ref b5), .val (.int 1), .val (.int 1), .val (.int (t0_54 p0_1)), .val (.int 1), .unset, .unset] [])) (fun _ k => XS.istore X31.here hx rfl (hb hby at_89) rfl (l' := #[.val (.int p0_0), .val (.int p0_1), .val (.ref b5), .val (.int 1), .val (.int 1), .val (.int (t0_54 p0_1)), .val (.int 1), .unset, .unset]) rfl k) ?_
       refine own_s (g' := (mkF m 93 #[.val (.int p0_0), .val (.int p0_1), .val (.ref b5), .val (.int 1), .val (.int 1), .val (.int (t0_54 p0_1)), .val (.int 1), .unset, .unset] [(.int (t0_54 p0_1))])) (fun _ k => XS.iload X31.here hx rfl (hb hby at_91) rfl k) ?_
       obtain ⟨_, _, ⟨T43, L43, k43, n43⟩, -, X43, ⟨Lc43, hQ43, l43, y43, z43⟩, st43⟩ := Jvm.LawKit.callS X31 hx (y := (⟨"com/example/junctura/junctura/model/ReadPart", "complement", "(C)C"⟩ : MethodName)) hown (mvT hZ ww1) (mvT hZ ww2) (mvT hZ ww3) (mvT hZ ww4) (by decide) (backOf (W := 0) (rm1 l Z a0 hw [] (t0_54 p0_1) h12 n0 (Nat.le_trans Z0 K12.1) ) hZ ww4 ww3 (by decide) (by decide)) (g := (mkF m 93 #[.val (.int p0_0), .val (.int p0_1), .val (.ref b5), .val (.int 1), .val (.int 1), .val (.int (t0_54 p0_1)), .val (.int 1), .unset, .unset] [(.int (t0_54 p0_1))])) rfl (by rw [hml]; rfl) (argsL := [(.int (t0_54 p0_1))]) (rest := []) (lenOf pd__C_C rfl) rfl (by show 2 * 0 + _ ≤ _; exact Nat.le_of_eq rfl) (hb hby at_93) (fun _ _ => ⟨rfl, eh31, (by decide : 1 + 0 ≤ _), (by decide : 4 + 0 ≤ _)⟩)
       dsimp only [Pt.U, Pt.locs, Pt.cells, Pt.slots] at X43 l43 y43 z43 st43 hQ43
       subst l43 y43 z43
       obtain ⟨rfl, N43q, eh43⟩ := hQ43
       have N43 := Fr.app N31 N43q
       refine own_s (g' := (mkF m 96 #[.val (.int p0_0), .val (.int p0_1), .val (.ref b5), .val (.int 1), .val (.int 1), .val (.int (t0_54 p0_1)), .val (.int 1), .unset, .unset] [(.int (r1 (t0_54 p0_1)))])) st43 ?_
       rw [show (r1 (t0_54 p0_1)) = (65 : Int32) from ((if_neg c33).trans ((if_neg c36).trans ((if_neg c39).trans (if_pos c42))))]
       refine own_s (g' := (mkF m 98 #[.val (.int p0_0), .val (.int p0_1), .val (.ref b5), .val (.int 1), .val (.int 1), .val (.int (t0_54 p0_1)), .val (.int 1), .val (.int 65), .unset] [])) (fun _ k => XS.istore X43.here hx rfl (hb hby at_96) rfl (l' := #[.val (.int p0_0), .val (.int p0_1), .val (.ref b5), .val (.int 1), .val (.int 1), .val (.int (t0_54 p0_1)), .val (.int 1), .val (.int 65), .unset]) rfl k) ?_
       refine own_s (g' := (mkF m 100 #[.val (.int p0_0), .val (.int p0_1), .val (.ref b5), .val (.int 1), .val (.int 1), .val (.int (t0_54 p0_1)), .val (.int 1), .val (.int 65), .unset] [(.int 1)])) (fun _ k => XS.iload X43.here hx rfl (hb hby at_98) rfl k) ?_
       refine own_s (g' := (mkF m 103 #[.val (.int p0_0), .val (.int p0_1), .val (.ref b5), .val (.int 1), .val (.int 1), .val (.int (t0_54 p0_1)), .val (.int 1), .val (.int 65), .unset] [])) (fun _ k => XS.ifNo X43.here hx rfl (hb hby at_100) rfl ((if0 _ _).trans (feq ((by decide) : ¬ (1 : Int32) = (0 : Int32))).1) k) ?_
       refine own_s (g' := (mkF m 105 #[.val (.int p0_0), .val (.int p0_1), .val (.ref b5), .val (.int 1), .val (.int 1), .val (.int (t0_54 p0_1)), .val (.int 1), .val (.int 65), .unset] [(.int 65)])) (fun _ k => XS.iload X43.here hx rfl (hb hby at_103) rfl k) ?_
       obtain ⟨_, _, ⟨T44, L44, k44, n44⟩, -, X44, ⟨Lc44, hQ44, l44, y44, z44⟩, st44⟩ := Jvm.LawKit.callS X43 hx (y := (⟨"com/example/junctura/junctura/model/ReadPart", "complement", "(C)C"⟩ : MethodName)) hown (mvT hZ ww1) (mvT hZ ww2) (mvT hZ ww3) (mvT hZ ww4) (by decide) (backOf (W := 0) (rm1 l Z a0 hw [] (65 : Int32) h12 n0 (Nat.le_trans Z0 K12.1) ) hZ ww4 ww3 (by decide) (by decide)) (g := (mkF m 105 #[.val (.int p0_0), .val (.int p0_1), .val (.ref b5), .val (.int 1), .val (.int 1), .val (.int (t0_54 p0_1)), .val (.int 1), .val (.int 65), .unset] [(.int 65)])) rfl (by rw [hml]; rfl) (argsL := [(.int 65)]) (rest := []) (lenOf pd__C_C rfl) rfl (by show 2 * 0 + _ ≤ _; exact Nat.le_of_eq rfl) (hb hby at_105) (fun _ _ => ⟨rfl, eh43, (by decide : 1 + 0 ≤ _), (by decide : 4 + 0 ≤ _)⟩)
       dsimp only [Pt.U, Pt.locs, Pt.cells, Pt.slots] at X44 l44 y44 z44 st44 hQ44
       subst l44 y44 z44
       obtain ⟨rfl, N44q, eh44⟩ := hQ44
       have N44 := Fr.app N43 N44q
       refine own_s (g' := (mkF m 108 #[.val (.int p0_0), .val (.int p0_1), .val (.ref b5), .val (.int 1), .val (.int 1), .val (.int (t0_54 p0_1)), .val (.int 1), .val (.int 65), .unset] [(.int (r1 (65 : Int32)))])) st44 ?_
       rw [show (r1 (65 : Int32)) = (84 : Int32) from (if_pos ((by decide) : (65 : Int32) = (65 : Int32)))]
       refine own_s (g' := (mkF m 110 #[.val (.int p0_0), .val (.int p0_1), .val (.ref b5), .val (.int 1), .val (.int 1), .val (.int (t0_54 p0_1)), .val (.int 1), .val (.int 65), .unset] [(.int (t0_54 p0_1)), (.int 84)])) (fun _ k => XS.iload X44.here hx rfl (hb hby at_108) rfl k) ?_
       refine own_s (g' := (mkF m 113 #[.val (.int p0_0), .val (.int p0_1), .val (.ref b5), .val (.int 1), .val (.int 1), .val (.int (t0_54 p0_1)), .val (.int 1), .val (.int 65), .unset] [])) (fun _ k => XS.icmpNo X44.here hx rfl (hb hby at_110) rfl (teq ((by rw [c42] <;> decide) : (84 : Int32) = (t0_54 p0_1))).2 k) ?_
       refine own_s (g' := (mkF m 115 #[.val (.int p0_0), .val (.int p0_1), .val (.ref b5), .val (.int 1), .val (.int 1), .val (.int (t0_54 p0_1)), .val (.int 1), .val (.int 65), .unset] [(.int 65)])) (fun _ k => XS.iload X44.here hx rfl (hb hby at_113) rfl k) ?_
       refine own_s (g' := (mkF m 117 #[.val (.int p0_0), .val (.int p0_1), .val (.ref b5), .val (.int 1), .val (.int 1), .val (.int (t0_54 p0_1)), .val (.int 1), .val (.int 65), .unset] [(.int (t0_54 p0_1)), (.int 65)])) (fun _ k => XS.iload X44.here hx rfl (hb hby at_115) rfl k) ?_
       refine own_s (g' := (mkF m 120 #[.val (.int p0_0), .val (.int p0_1), .val (.ref b5), .val (.int 1), .val (.int 1), .val (.int (t0_54 p0_1)), .val (.int 1), .val (.int 65), .unset] [])) (fun _ k => XS.icmpNo X44.here hx rfl (hb hby at_117) rfl (feq ((by rw [c42] <;> decide) : ¬ (65 : Int32) = (t0_54 p0_1))).1 k) ?_
       refine own_s (g' := (mkF m 121 #[.val (.int p0_0), .val (.int p0_1), .val (.ref b5), .val (.int 1), .val (.int 1), .val (.int (t0_54 p0_1)), .val (.int 1), .val (.int 65), .unset] [(.int 1)])) (fun _ k => XS.iconst X44.here hx rfl (hb hby at_120) k) ?_
       refine own_s (g' := (mkF m 125 #[.val (.int p0_0), .val (.int p0_1), .val (.ref b5), .val (.int 1), .val (.int 1), .val (.int (t0_54 p0_1)), .val (.int 1), .val (.int 65), .unset] [(.int 1)])) (fun _ k => XS.goto X44.here hx rfl (pc0 := 121) (pc' := 125) rfl (hb hby at_121) (by decide) (by decide) k) ?_
       refine own_s (g' := (mkF m 127 #[.val (.int p0_0), .val (.int p0_1), .val (.ref b5), .val (.int 1), .val (.int 1), .val (.int (t0_54 p0_1)), .val (.int 1), .val (.int 65), .val (.int 1)] [])) (fun _ k => XS.istore X44.here hx rfl (hb hby at_125) rfl (l' := #[.val (.int p0_0), .val (.int p0_1), .val (.ref b5), .val (.int 1), .val (.int 1), .val (.int (t0_54 p0_1)), .val (.int 1), .val (.int 65), .val (.int 1)]) rfl k) ?_
       refine own_s (g' := (mkF m 144 #[.val (.int p0_0), .val (.int p0_1), .val (.ref b5), .val (.int 1), .val (.int 1), .val (.int (t0_54 p0_1)), .val (.int 1), .val (.int 65), .val (.int 1)] [])) (fun _ k => XS.goto X44.here hx rfl (pc0 := 127) (pc' := 144) rfl (hb hby at_127) (by decide) (by decide) k) ?_
       refine own_s (g' := (mkF m 146 #[.val (.int p0_0), .val (.int p0_1), .val (.ref b5), .val (.int 1), .val (.int 1), .val (.int (t0_54 p0_1)), .val (.int 1), .val (.int 65), .val (.int 1)] [(.int 1)])) (fun _ k => XS.iload X44.here hx rfl (hb hby at_144) rfl k) ?_
       refine own_s (g' := (mkF m 149 #[.val (.int p0_0), .val (.int p0_1), .val (.ref b5), .val (.int 1), .val (.int 1), .val (.int (t0_54 p0_1)), .val (.int 1), .val (.int 65), .val (.int 1)] [])) (fun _ k => XS.ifNo X44.here hx rfl (hb hby at_146) rfl ((if0 _ _).trans (feq ((by decide) : ¬ (1 : Int32) = (0 : Int32))).1) k) ?_
       refine own_s (g' := (mkF m 151 #[.val (.int p0_0), .val (.int p0_1), .val (.ref b5), .val (.int 1), .val (.int 1), .val (.int (t0_54 p0_1)), .val (.int 1), .val (.int 65), .val (.int 1)] [(.int 1)])) (fun _ k => XS.iload X44.here hx rfl (hb hby at_149) rfl k) ?_
       refine own_s (g' := (mkF m 154 #[.val (.int p0_0), .val (.int p0_1), .val (.ref b5), .val (.int 1), .val (.int 1), .val (.int (t0_54 p0_1)), .val (.int 1), .val (.int 65), .val (.int 1)] [])) (fun _ k => XS.ifNo X44.here hx rfl (hb hby at_151) rfl ((if0 _ _).trans (feq ((by decide) : ¬ (1 : Int32) = (0 : Int32))).1) k) ?_
       refine own_s (g' := (mkF m 155 #[.val (.int p0_0), .val (.int p0_1), .val (.ref b5), .val (.int 1), .val (.int 1), .val (.int (t0_54 p0_1)), .val (.int 1), .val (.int 65), .val (.int 1)] [(.int 1)])) (fun _ k => XS.iconst X44.here hx rfl (hb hby at_154) k) ?_
       refine own_s (g' := (mkF m 159 #[.val (.int p0_0), .val (.int p0_1), .val (.ref b5), .val (.int 1), .val (.int 1), .val (.int (t0_54 p0_1)), .val (.int 1), .val (.int 65), .val (.int 1)] [(.int 1)])) (fun _ k => XS.goto X44.here hx rfl (pc0 := 155) (pc' := 159) rfl (hb hby at_155) (by decide) (by decide) k) ?_
       refine own_retN X44 hx hlk (t := .boolean) hret (by simp) (hb hby at_159) (z' := (1 : Int32)) (by decide) (by decide) (by decide) ?_
       show Q0 Z p0_0 p0_1 h0 n0 _ T44.heap _
       rw [eh44]
       exact ⟨rfl, N44⟩
      ·skip
       refine own_s (g' := (mkF m 88 #[.val (.int p0_0), .val (.int p0_1), .val (.ref b5), .val (.int 1), .val (.int 1), .val (.int (t0_54 p0_1)), .unset, .unset, .unset] [])) (fun _ k => XS.icmpYes X31.here hx rfl (pc0 := 81) (pc' := 88) rfl (hb hby at_81) rfl (feq c42).2 (by decide) (by decide) k) ?_
       refine own_s (g' := (mkF m 89 #[.val (.int p0_0), .val (.int p0_1), .val (.ref b5), .val (.int 1), .val (.int 1), .val (.int (t0_54 p0_1)), .unset, .unset, .unset] [(.int 0)])) (fun _ k => XS.iconst X31.here hx rfl (hb hby at_88) k) ?_
       refine own_s (g' := (mkF m 91 #[.val (.int p0_0), .val (.int p0_1), .val (.ref b5), .val (.int 1), .val (.int 1), .val (.int (t0_54 p0_1)), .val (.int 0), .unset, .unset] [])) (fun _ k => XS.istore X31.here hx rfl (hb hby at_89) rfl (l' := #[.val (.int p0_0), .val (.int p0_1), .val (.ref b5), .val (.int 1), .val (.int 1), .val (.int (t0_54 p0_1)), .val (.int 0), .unset, .unset]) rfl k) ?_
       refine own_s (g' := (mkF m 93 #[.val (.int p0_0), .val (.int p0_1), .val (.ref b5), .val (.int 1), .val (.int 1), .val (.int (t0_54 p0_1)), .val (.int 0), .unset, .unset] [(.int (t0_54 p0_1))])) (fun _ k => XS.iload X31.here hx rfl (hb hby at_91) rfl k) ?_
       obtain ⟨_, _, ⟨T45, L45, k45, n45⟩, -, X45, ⟨Lc45, hQ45, l45, y45, z45⟩, st45⟩ := Jvm.LawKit.callS X31 hx (y := (⟨"com/example/junctura/junctura/model/ReadPart", "complement", "(C)C"⟩ : MethodName)) hown (mvT hZ ww1) (mvT hZ ww2) (mvT hZ ww3) (mvT hZ ww4) (by decide) (backOf (W := 0) (rm1 l Z a0 hw [] (t0_54 p0_1) h12 n0 (Nat.le_trans Z0 K12.1) ) hZ ww4 ww3 (by decide) (by decide)) (g := (mkF m 93 #[.val (.int p0_0), .val (.int p0_1), .val (.ref b5), .val (.int 1), .val (.int 1), .val (.int (t0_54 p0_1)), .val (.int 0), .unset, .unset] [(.int (t0_54 p0_1))])) rfl (by rw [hml]; rfl) (argsL := [(.int (t0_54 p0_1))]) (rest := []) (lenOf pd__C_C rfl) rfl (by show 2 * 0 + _ ≤ _; exact Nat.le_of_eq rfl) (hb hby at_93) (fun _ _ => ⟨rfl, eh31, (by decide : 1 + 0 ≤ _), (by decide : 4 + 0 ≤ _)⟩)
       dsimp only [Pt.U, Pt.locs, Pt.cells, Pt.slots] at X45 l45 y45 z45 st45 hQ45
       subst l45 y45 z45
       obtain ⟨rfl, N45q, eh45⟩ := hQ45
       have N45 := Fr.app N31 N45q
       refine own_s (g' := (mkF m 96 #[.val (.int p0_0), .val (.int p0_1), .val (.ref b5), .val (.int 1), .val (.int 1), .val (.int (t0_54 p0_1)), .val (.int 0), .unset, .unset] [(.int (r1 (t0_54 p0_1)))])) st45 ?_
       rw [show (r1 (t0_54 p0_1)) = (78 : Int32) from ((if_neg c33).trans ((if_neg c36).trans ((if_neg c39).trans (if_neg c42))))]
       refine own_s (g' := (mkF m 98 #[.val (.int p0_0), .val (.int p0_1), .val (.ref b5), .val (.int 1), .val (.int 1), .val (.int (t0_54 p0_1)), .val (.int 0), .val (.int 78), .unset] [])) (fun _ k => XS.istore X45.here hx rfl (hb hby at_96) rfl (l' := #[.val (.int p0_0), .val (.int p0_1), .val (.ref b5), .val (.int 1), .val (.int 1), .val (.int (t0_54 p0_1)), .val (.int 0), .val (.int 78), .unset]) rfl k) ?_
       refine own_s (g' := (mkF m 100 #[.val (.int p0_0), .val (.int p0_1), .val (.ref b5), .val (.int 1), .val (.int 1), .val (.int (t0_54 p0_1)), .val (.int 0), .val (.int 78), .unset] [(.int 0)])) (fun _ k => XS.iload X45.here hx rfl (hb hby at_98) rfl k) ?_
       refine own_s (g' := (mkF m 130 #[.val (.int p0_0), .val (.int p0_1), .val (.ref b5), .val (.int 1), .val (.int 1), .val (.int (t0_54 p0_1)), .val (.int 0), .val (.int 78), .unset] [])) (fun _ k => XS.ifYes X45.here hx rfl (pc0 := 100) (pc' := 130) rfl (hb hby at_100) rfl ((if0 _ _).trans (teq ((by decide) : (0 : Int32) = (0 : Int32))).1) (by decide) (by decide) k) ?_
       refine own_s (g' := (mkF m 132 #[.val (.int p0_0), .val (.int p0_1), .val (.ref b5), .val (.int 1), .val (.int 1), .val (.int (t0_54 p0_1)), .val (.int 0), .val (.int 78), .unset] [(.int 78)])) (fun _ k => XS.iload X45.here hx rfl (hb hby at_130) rfl k) ?_
       refine own_s (g' := (mkF m 134 #[.val (.int p0_0), .val (.int p0_1), .val (.ref b5), .val (.int 1), .val (.int 1), .val (.int (t0_54 p0_1)), .val (.int 0), .val (.int 78), .unset] [(.int 78), (.int 78)])) (fun _ k => XS.bipush X45.here hx rfl (hb hby at_132) k) ?_
       refine own_s (g' := (mkF m 137 #[.val (.int p0_0), .val (.int p0_1), .val (.ref b5), .val (.int 1), .val (.int 1), .val (.int (t0_54 p0_1)), .val (.int 0), .val (.int 78), .unset] [])) (fun _ k => XS.icmpNo X45.here hx rfl (hb hby at_134) rfl (teq ((by simp only [r1, if_neg c33, if_neg c36, if_neg c39, if_neg c42]) : (78 : Int32) = (78 : Int32))).2 k) ?_
       refine own_s (g' := (mkF m 138 #[.val (.int p0_0), .val (.int p0_1), .val (.ref b5), .val (.int 1), .val (.int 1), .val (.int (t0_54 p0_1)), .val (.int 0), .val (.int 78), .unset] [(.int 1)])) (fun _ k => XS.iconst X45.here hx rfl (hb hby at_137) k) ?_
       refine own_s (g' := (mkF m 142 #[.val (.int p0_0), .val (.int p0_1), .val (.ref b5), .val (.int 1), .val (.int 1), .val (.int (t0_54 p0_1)), .val (.int 0), .val (.int 78), .unset] [(.int 1)])) (fun _ k => XS.goto X45.here hx rfl (pc0 := 138) (pc' := 142) rfl (hb hby at_138) (by decide) (by decide) k) ?_
       refine own_s (g' := (mkF m 144 #[.val (.int p0_0), .val (.int p0_1), .val (.ref b5), .val (.int 1), .val (.int 1), .val (.int (t0_54 p0_1)), .val (.int 0), .val (.int 78), .val (.int 1)] [])) (fun _ k => XS.istore X45.here hx rfl (hb hby at_142) rfl (l' := #[.val (.int p0_0), .val (.int p0_1), .val (.ref b5), .val (.int 1), .val (.int 1), .val (.int (t0_54 p0_1)), .val (.int 0), .val (.int 78), .val (.int 1)]) rfl k) ?_
       refine own_s (g' := (mkF m 146 #[.val (.int p0_0), .val (.int p0_1), .val (.ref b5), .val (.int 1), .val (.int 1), .val (.int (t0_54 p0_1)), .val (.int 0), .val (.int 78), .val (.int 1)] [(.int 1)])) (fun _ k => XS.iload X45.here hx rfl (hb hby at_144) rfl k) ?_
       refine own_s (g' := (mkF m 149 #[.val (.int p0_0), .val (.int p0_1), .val (.ref b5), .val (.int 1), .val (.int 1), .val (.int (t0_54 p0_1)), .val (.int 0), .val (.int 78), .val (.int 1)] [])) (fun _ k => XS.ifNo X45.here hx rfl (hb hby at_146) rfl ((if0 _ _).trans (feq ((by decide) : ¬ (1 : Int32) = (0 : Int32))).1) k) ?_
       refine own_s (g' := (mkF m 151 #[.val (.int p0_0), .val (.int p0_1), .val (.ref b5), .val (.int 1), .val (.int 1), .val (.int (t0_54 p0_1)), .val (.int 0), .val (.int 78), .val (.int 1)] [(.int 1)])) (fun _ k => XS.iload X45.here hx rfl (hb hby at_149) rfl k) ?_
       refine own_s (g' := (mkF m 154 #[.val (.int p0_0), .val (.int p0_1), .val (.ref b5), .val (.int 1), .val (.int 1), .val (.int (t0_54 p0_1)), .val (.int 0), .val (.int 78), .val (.int 1)] [])) (fun _ k => XS.ifNo X45.here hx rfl (hb hby at_151) rfl ((if0 _ _).trans (feq ((by decide) : ¬ (1 : Int32) = (0 : Int32))).1) k) ?_
       refine own_s (g' := (mkF m 155 #[.val (.int p0_0), .val (.int p0_1), .val (.ref b5), .val (.int 1), .val (.int 1), .val (.int (t0_54 p0_1)), .val (.int 0), .val (.int 78), .val (.int 1)] [(.int 1)])) (fun _ k => XS.iconst X45.here hx rfl (hb hby at_154) k) ?_
       refine own_s (g' := (mkF m 159 #[.val (.int p0_0), .val (.int p0_1), .val (.ref b5), .val (.int 1), .val (.int 1), .val (.int (t0_54 p0_1)), .val (.int 0), .val (.int 78), .val (.int 1)] [(.int 1)])) (fun _ k => XS.goto X45.here hx rfl (pc0 := 155) (pc' := 159) rfl (hb hby at_155) (by decide) (by decide) k) ?_
       refine own_retN X45 hx hlk (t := .boolean) hret (by simp) (hb hby at_159) (z' := (1 : Int32)) (by decide) (by decide) (by decide) ?_
       show Q0 Z p0_0 p0_1 h0 n0 _ T45.heap _
       rw [eh45]
       exact ⟨rfl, N45⟩
  ·skip
   rw [show (p0_0 &&& (3 : Int32)) = (2 : Int32) from hi]
   refine own_s (g' := (mkF m 28 #[.val (.int p0_0), .val (.int p0_1), .val (.ref b5), .val (.int 2), .unset, .unset, .unset, .unset, .unset] [])) (fun _ k => XS.istoreN X12.here hx rfl (hb hby at_27) rfl (l' := #[.val (.int p0_0), .val (.int p0_1), .val (.ref b5), .val (.int 2), .unset, .unset, .unset, .unset, .unset]) rfl k) ?_
   refine own_s (g' := (mkF m 29 #[.val (.int p0_0), .val (.int p0_1), .val (.ref b5), .val (.int 2), .unset, .unset, .unset, .unset, .unset] [(.ref b5)])) (fun _ k => XS.aloadN X12.here hx rfl (hb hby at_28) rfl rfl k) ?_
   refine own_s (g' := (mkF m 30 #[.val (.int p0_0), .val (.int p0_1), .val (.ref b5), .val (.int 2), .unset, .unset, .unset, .unset, .unset] [(.int 2), (.ref b5)])) (fun _ k => XS.iloadN X12.here hx rfl (hb hby at_29) rfl k) ?_
   obtain ⟨cl46, Ar46, -, S46, -, H46, -⟩ := id f13
   have in46 := inb_of S46 (j := (2 : Int32)) ⟨by decide, by decide⟩
   refine own_s (g' := (mkF m 31 #[.val (.int p0_0), .val (.int p0_1), .val (.ref b5), .val (.int 2), .unset, .unset, .unset, .unset, .unset] [(.int 71)])) (X12.caload hx (j := (2 : Int32)) (v := (.int 71)) (by rw [e12]; exact Ar46.1) (State.isArrayOf_alike hZ.alike Ar46.2.1) Ar46.2.2 in46 (Has.at H46 in46 rfl) (g := (mkF m 30 #[.val (.int p0_0), .val (.int p0_1), .val (.ref b5), .val (.int 2), .unset, .unset, .unset, .unset, .unset] [(.int 2), (.ref b5)])) rfl rfl (hb hby at_30)) ?_
   obtain ⟨_, _, ⟨T47, L47, k47, n47⟩, -, X47, ⟨Lc47, hQ47, l47, y47, z47⟩, st47⟩ := Jvm.LawKit.callS X12 hx (y := (⟨"com/example/junctura/junctura/model/ReadPart", "complement", "(C)C"⟩ : MethodName)) hown (mvT hZ ww1) (mvT hZ ww2) (mvT hZ ww3) (mvT hZ ww4) (by decide) (backOf (W := 0) (rm1 l Z a0 hw [] (71 : Int32) h12 n0 (Nat.le_trans Z0 K12.1) ) hZ ww4 ww3 (by decide) (by decide)) (g := (mkF m 31 #[.val (.int p0_0), .val (.int p0_1), .val (.ref b5), .val (.int 2), .unset, .unset, .unset, .unset, .unset] [(.int 71)])) rfl (by rw [hml]; rfl) (argsL := [(.int 71)]) (rest := []) (lenOf pd__C_C rfl) rfl (by show 2 * 0 + _ ≤ _; exact Nat.le_of_eq rfl) (hb hby at_31) (fun _ _ => ⟨rfl, e12, (by decide : 1 + 0 ≤ _), (by decide : 4 + 0 ≤ _)⟩)
   dsimp only [Pt.U, Pt.locs, Pt.cells, Pt.slots] at X47 l47 y47 z47 st47 hQ47
   subst l47 y47 z47
   obtain ⟨rfl, N47q, eh47⟩ := hQ47
   have N47 := Fr.app N12 N47q
   refine own_s (g' := (mkF m 34 #[.val (.int p0_0), .val (.int p0_1), .val (.ref b5), .val (.int 2), .unset, .unset, .unset, .unset, .unset] [(.int (r1 (71 : Int32)))])) st47 ?_
   rw [show (r1 (71 : Int32)) = (67 : Int32) from ((if_neg ((by decide) : ¬ (71 : Int32) = (65 : Int32))).trans ((if_neg ((by decide) : ¬ (71 : Int32) = (67 : Int32))).trans (if_pos ((by decide) : (71 : Int32) = (71 : Int32)))))]
   refine own_s (g' := (mkF m 35 #[.val (.int p0_0), .val (.int p0_1), .val (.ref b5), .val (.int 2), .unset, .unset, .unset, .unset, .unset] [(.ref b5), (.int 67)])) (fun _ k => XS.aloadN X47.here hx rfl (hb hby at_34) rfl rfl k) ?_
   refine own_s (g' := (mkF m 36 #[.val (.int p0_0), .val (.int p0_1), .val (.ref b5), .val (.int 2), .unset, .unset, .unset, .unset, .unset] [(.int 3), (.ref b5), (.int 67)])) (fun _ k => XS.iconst X47.here hx rfl (hb hby at_35) k) ?_
   refine own_s (g' := (mkF m 37 #[.val (.int p0_0), .val (.int p0_1), .val (.ref b5), .val (.int 2), .unset, .unset, .unset, .unset, .unset] [(.int 2), (.int 3), (.ref b5), (.int 67)])) (fun _ k => XS.iloadN X47.here hx rfl (hb hby at_36) rfl k) ?_
   refine own_s (g' := (mkF m 38 #[.val (.int p0_0), .val (.int p0_1), .val (.ref b5), .val (.int 2), .unset, .unset, .unset, .unset, .unset] [(.int ((3 : Int32) - (2 : Int32))), (.ref b5), (.int 67)])) (fun _ k => XS.isub X47.here hx rfl (hb hby at_37) rfl k) ?_
   rw [show ((3 : Int32) - (2 : Int32)) = (1 : Int32) from by decide]
   obtain ⟨cl48, Ar48, -, S48, -, H48, -⟩ := id f13
   have in48 := inb_of S48 (j := (1 : Int32)) ⟨by decide, by decide⟩
   refine own_s (g' := (mkF m 39 #[.val (.int p0_0), .val (.int p0_1), .val (.ref b5), .val (.int 2), .unset, .unset, .unset, .unset, .unset] [(.int 67), (.int 67)])) (X47.caload hx (j := (1 : Int32)) (v := (.int 67)) (by rw [eh47]; exact Ar48.1) (State.isArrayOf_alike hZ.alike Ar48.2.1) Ar48.2.2 in48 (Has.at H48 in48 rfl) (g := (mkF m 38 #[.val (.int p0_0), .val (.int p0_1), .val (.ref b5), .val (.int 2), .unset, .unset, .unset, .unset, .unset] [(.int 1), (.ref b5), (.int 67)])) rfl rfl (hb hby at_38)) ?_
   refine own_s (g' := (mkF m 42 #[.val (.int p0_0), .val (.int p0_1), .val (.ref b5), .val (.int 2), .unset, .unset, .unset, .unset, .unset] [])) (fun _ k => XS.icmpNo X47.here hx rfl (hb hby at_39) rfl (teq ((by decide) : (67 : Int32) = (67 : Int32))).2 k) ?_
   refine own_s (g' := (mkF m 43 #[.val (.int p0_0), .val (.int p0_1), .val (.ref b5), .val (.int 2), .unset, .unset, .unset, .unset, .unset] [(.int 1)])) (fun _ k => XS.iconst X47.here hx rfl (hb hby at_42) k) ?_
   refine own_s (g' := (mkF m 47 #[.val (.int p0_0), .val (.int p0_1), .val (.ref b5), .val (.int 2), .unset, .unset, .unset, .unset, .unset] [(.int 1)])) (fun _ k => XS.goto X47.here hx rfl (pc0 := 43) (pc' := 47) rfl (hb hby at_43) (by decide) (by decide) k) ?_
   refine own_s (g' := (mkF m 49 #[.val (.int p0_0), .val (.int p0_1), .val (.ref b5), .val (.int 2), .val (.int 1), .unset, .unset, .unset, .unset] [])) (fun _ k => XS.istore X47.here hx rfl (hb hby at_47) rfl (l' := #[.val (.int p0_0), .val (.int p0_1), .val (.ref b5), .val (.int 2), .val (.int 1), .unset, .unset, .unset, .unset]) rfl k) ?_
   refine own_s (g' := (mkF m 50 #[.val (.int p0_0), .val (.int p0_1), .val (.ref b5), .val (.int 2), .val (.int 1), .unset, .unset, .unset, .unset] [(.int p0_1)])) (fun _ k => XS.iloadN X47.here hx rfl (hb hby at_49) rfl k) ?_
   refine own_s (g' := (mkF m 52 #[.val (.int p0_0), .val (.int p0_1), .val (.ref b5), .val (.int 2), .val (.int 1), .unset, .unset, .unset, .unset] [(.int 65535), (.int p0_1)])) (X47.ldcInt hx hown (mvT hZ ww5) (g := (mkF m 50 #[.val (.int p0_0), .val (.int p0_1), .val (.ref b5), .val (.int 2), .val (.int 1), .unset, .unset, .unset, .unset] [(.int p0_1)])) rfl (hb hby at_50)) ?_
   refine own_s (g' := (mkF m 53 #[.val (.int p0_0), .val (.int p0_1), .val (.ref b5), .val (.int 2), .val (.int 1), .unset, .unset, .unset, .unset] [(.int (p0_1 &&& (65535 : Int32)))])) (fun _ k => XS.iand X47.here hx rfl (hb hby at_52) rfl k) ?_
   refine own_s (g' := (mkF m 54 #[.val (.int p0_0), .val (.int p0_1), .val (.ref b5), .val (.int 2), .val (.int 1), .unset, .unset, .unset, .unset] [(.int (p0_1 &&& (65535 : Int32)).toUInt32.toUInt16.toUInt32.toInt32)])) (fun _ k => XS.i2c X47.here hx rfl (hb hby at_53) rfl k) ?_
   refine own_s (g' := (mkF m 56 #[.val (.int p0_0), .val (.int p0_1), .val (.ref b5), .val (.int 2), .val (.int 1), .val (.int (t0_54 p0_1)), .unset, .unset, .unset] [])) (fun _ k => XS.istore X47.here hx rfl (hb hby at_54) rfl (l' := #[.val (.int p0_0), .val (.int p0_1), .val (.ref b5), .val (.int 2), .val (.int 1), .val (.int (t0_54 p0_1)), .unset, .unset, .unset]) rfl k) ?_
   refine own_s (g' := (mkF m 58 #[.val (.int p0_0), .val (.int p0_1), .val (.ref b5), .val (.int 2), .val (.int 1), .val (.int (t0_54 p0_1)), .unset, .unset, .unset] [(.int (t0_54 p0_1))])) (fun _ k => XS.iload X47.here hx rfl (hb hby at_56) rfl k) ?_
   refine own_s (g' := (mkF m 60 #[.val (.int p0_0), .val (.int p0_1), .val (.ref b5), .val (.int 2), .val (.int 1), .val (.int (t0_54 p0_1)), .unset, .unset, .unset] [(.int 65), (.int (t0_54 p0_1))])) (fun _ k => XS.bipush X47.here hx rfl (hb hby at_58) k) ?_
   by_cases c49 : (t0_54 p0_1) = (65 : Int32)
   ·skip
    refine own_s (g' := (mkF m 84 #[.val (.int p0_0), .val (.int p0_1), .val (.ref b5), .val (.int 2), .val (.int 1), .val (.int (t0_54 p0_1)), .unset, .unset, .unset] [])) (fun _ k => XS.icmpYes X47.here hx rfl (pc0 := 60) (pc' := 84) rfl (hb hby at_60) rfl (teq c49).1 (by decide) (by decide) k) ?_
    refine own_s (g' := (mkF m 85 #[.val (.int p0_0), .val (.int p0_1), .val (.ref b5), .val (.int 2), .val (.int 1), .val (.int (t0_54 p0_1)), .unset, .unset, .unset] [(.int 1)])) (fun _ k => XS.iconst X47.here hx rfl (hb hby at_84) k) ?_
    refine own_s (g' := (mkF m 89 #[.val (.int p0_0), .val (.int p0_1), .val (.ref b5), .val (.int 2), .val (.int 1), .val (.int (t0_54 p0_1)), .unset, .unset, .unset] [(.int 1)])) (fun _ k => XS.goto X47.here hx rfl (pc0 := 85) (pc' := 89) rfl (hb hby at_85) (by decide) (by decide) k) ?_
    refine own_s (g' := (mkF m 91 #[.val (.int p0_0), .val (.int p0_1), .val (.ref b5), .val (.int 2), .val (.int 1), .val (.int (t0_54 p0_1)), .val (.int 1), .unset, .unset] [])) (fun _ k => XS.istore X47.here hx rfl (hb hby at_89) rfl (l' := #[.val (.int p0_0), .val (.int p0_1), .val (.ref b5), .val (.int 2), .val (.int 1), .val (.int (t0_54 p0_1)), .val (.int 1), .unset, .unset]) rfl k) ?_
    refine own_s (g' := (mkF m 93 #[.val (.int p0_0), .val (.int p0_1), .val (.ref b5), .val (.int 2), .val (.int 1), .val (.int (t0_54 p0_1)), .val (.int 1), .unset, .unset] [(.int (t0_54 p0_1))])) (fun _ k => XS.iload X47.here hx rfl (hb hby at_91) rfl k) ?_
    obtain ⟨_, _, ⟨T50, L50, k50, n50⟩, -, X50, ⟨Lc50, hQ50, l50, y50, z50⟩, st50⟩ := Jvm.LawKit.callS X47 hx (y := (⟨"com/example/junctura/junctura/model/ReadPart", "complement", "(C)C"⟩ : MethodName)) hown (mvT hZ ww1) (mvT hZ ww2) (mvT hZ ww3) (mvT hZ ww4) (by decide) (backOf (W := 0) (rm1 l Z a0 hw [] (t0_54 p0_1) h12 n0 (Nat.le_trans Z0 K12.1) ) hZ ww4 ww3 (by decide) (by decide)) (g := (mkF m 93 #[.val (.int p0_0), .val (.int p0_1), .val (.ref b5), .val (.int 2), .val (.int 1), .val (.int (t0_54 p0_1)), .val (.int 1), .unset, .unset] [(.int (t0_54 p0_1))])) rfl (by rw [hml]; rfl) (argsL := [(.int (t0_54 p0_1))]) (rest := []) (lenOf pd__C_C rfl) rfl (by show 2 * 0 + _ ≤ _; exact Nat.le_of_eq rfl) (hb hby at_93) (fun _ _ => ⟨rfl, eh47, (by decide : 1 + 0 ≤ _), (by decide : 4 + 0 ≤ _)⟩)
    dsimp only [Pt.U, Pt.locs, Pt.cells, Pt.slots] at X50 l50 y50 z50 st50 hQ50
    subst l50 y50 z50
    obtain ⟨rfl, N50q, eh50⟩ := hQ50
    have N50 := Fr.app N47 N50q
    refine own_s (g' := (mkF m 96 #[.val (.int p0_0), .val (.int p0_1), .val (.ref b5), .val (.int 2), .val (.int 1), .val (.int (t0_54 p0_1)), .val (.int 1), .unset, .unset] [(.int (r1 (t0_54 p0_1)))])) st50 ?_
    rw [show (r1 (t0_54 p0_1)) = (84 : Int32) from (if_pos c49)]
    refine own_s (g' := (mkF m 98 #[.val (.int p0_0), .val (.int p0_1), .val (.ref b5), .val (.int 2), .val (.int 1), .val (.int (t0_54 p0_1)), .val (.int 1), .val (.int 84), .unset] [])) (fun _ k => XS.istore X50.here hx rfl (hb hby at_96) rfl (l' := #[.val (.int p0_0), .val (.int p0_1), .val (.ref b5), .val (.int 2), .val (.int 1), .val (.int (t0_54 p0_1)), .val (.int 1), .val (.int 84), .unset]) rfl k) ?_
    refine own_s (g' := (mkF m 100 #[.val (.int p0_0), .val (.int p0_1), .val (.ref b5), .val (.int 2), .val (.int 1), .val (.int (t0_54 p0_1)), .val (.int 1), .val (.int 84), .unset] [(.int 1)])) (fun _ k => XS.iload X50.here hx rfl (hb hby at_98) rfl k) ?_
    refine own_s (g' := (mkF m 103 #[.val (.int p0_0), .val (.int p0_1), .val (.ref b5), .val (.int 2), .val (.int 1), .val (.int (t0_54 p0_1)), .val (.int 1), .val (.int 84), .unset] [])) (fun _ k => XS.ifNo X50.here hx rfl (hb hby at_100) rfl ((if0 _ _).trans (feq ((by decide) : ¬ (1 : Int32) = (0 : Int32))).1) k) ?_
    refine own_s (g' := (mkF m 105 #[.val (.int p0_0), .val (.int p0_1), .val (.ref b5), .val (.int 2), .val (.int 1), .val (.int (t0_54 p0_1)), .val (.int 1), .val (.int 84), .unset] [(.int 84)])) (fun _ k => XS.iload X50.here hx rfl (hb hby at_103) rfl k) ?_
    obtain ⟨_, _, ⟨T51, L51, k51, n51⟩, -, X51, ⟨Lc51, hQ51, l51, y51, z51⟩, st51⟩ := Jvm.LawKit.callS X50 hx (y := (⟨"com/example/junctura/junctura/model/ReadPart", "complement", "(C)C"⟩ : MethodName)) hown (mvT hZ ww1) (mvT hZ ww2) (mvT hZ ww3) (mvT hZ ww4) (by decide) (backOf (W := 0) (rm1 l Z a0 hw [] (84 : Int32) h12 n0 (Nat.le_trans Z0 K12.1) ) hZ ww4 ww3 (by decide) (by decide)) (g := (mkF m 105 #[.val (.int p0_0), .val (.int p0_1), .val (.ref b5), .val (.int 2), .val (.int 1), .val (.int (t0_54 p0_1)), .val (.int 1), .val (.int 84), .unset] [(.int 84)])) rfl (by rw [hml]; rfl) (argsL := [(.int 84)]) (rest := []) (lenOf pd__C_C rfl) rfl (by show 2 * 0 + _ ≤ _; exact Nat.le_of_eq rfl) (hb hby at_105) (fun _ _ => ⟨rfl, eh50, (by decide : 1 + 0 ≤ _), (by decide : 4 + 0 ≤ _)⟩)
    dsimp only [Pt.U, Pt.locs, Pt.cells, Pt.slots] at X51 l51 y51 z51 st51 hQ51
    subst l51 y51 z51
    obtain ⟨rfl, N51q, eh51⟩ := hQ51
    have N51 := Fr.app N50 N51q
    refine own_s (g' := (mkF m 108 #[.val (.int p0_0), .val (.int p0_1), .val (.ref b5), .val (.int 2), .val (.int 1), .val (.int (t0_54 p0_1)), .val (.int 1), .val (.int 84), .unset] [(.int (r1 (84 : Int32)))])) st51 ?_
    rw [show (r1 (84 : Int32)) = (65 : Int32) from ((if_neg ((by decide) : ¬ (84 : Int32) = (65 : Int32))).trans ((if_neg ((by decide) : ¬ (84 : Int32) = (67 : Int32))).trans ((if_neg ((by decide) : ¬ (84 : Int32) = (71 : Int32))).trans (if_pos ((by decide) : (84 : Int32) = (84 : Int32))))))]
    refine own_s (g' := (mkF m 110 #[.val (.int p0_0), .val (.int p0_1), .val (.ref b5), .val (.int 2), .val (.int 1), .val (.int (t0_54 p0_1)), .val (.int 1), .val (.int 84), .unset] [(.int (t0_54 p0_1)), (.int 65)])) (fun _ k => XS.iload X51.here hx rfl (hb hby at_108) rfl k) ?_
    refine own_s (g' := (mkF m 113 #[.val (.int p0_0), .val (.int p0_1), .val (.ref b5), .val (.int 2), .val (.int 1), .val (.int (t0_54 p0_1)), .val (.int 1), .val (.int 84), .unset] [])) (fun _ k => XS.icmpNo X51.here hx rfl (hb hby at_110) rfl (teq ((by rw [c49] <;> decide) : (65 : Int32) = (t0_54 p0_1))).2 k) ?_
    refine own_s (g' := (mkF m 115 #[.val (.int p0_0), .val (.int p0_1), .val (.ref b5), .val (.int 2), .val (.int 1), .val (.int (t0_54 p0_1)), .val (.int 1), .val (.int 84), .unset] [(.int 84)])) (fun _ k => XS.iload X51.here hx rfl (hb hby at_113) rfl k) ?_
    refine own_s (g' := (mkF m 117 #[.val (.int p0_0), .val (.int p0_1), .val (.ref b5), .val (.int 2), .val (.int 1), .val (.int (t0_54 p0_1)), .val (.int 1), .val (.int 84), .unset] [(.int (t0_54 p0_1)), (.int 84)])) (fun _ k => XS.iload X51.here hx rfl (hb hby at_115) rfl k) ?_
    refine own_s (g' := (mkF m 120 #[.val (.int p0_0), .val (.int p0_1), .val (.ref b5), .val (.int 2), .val (.int 1), .val (.int (t0_54 p0_1)), .val (.int 1), .val (.int 84), .unset] [])) (fun _ k => XS.icmpNo X51.here hx rfl (hb hby at_117) rfl (feq ((by rw [c49] <;> decide) : ¬ (84 : Int32) = (t0_54 p0_1))).1 k) ?_
    refine own_s (g' := (mkF m 121 #[.val (.int p0_0), .val (.int p0_1), .val (.ref b5), .val (.int 2), .val (.int 1), .val (.int (t0_54 p0_1)), .val (.int 1), .val (.int 84), .unset] [(.int 1)])) (fun _ k => XS.iconst X51.here hx rfl (hb hby at_120) k) ?_
    refine own_s (g' := (mkF m 125 #[.val (.int p0_0), .val (.int p0_1), .val (.ref b5), .val (.int 2), .val (.int 1), .val (.int (t0_54 p0_1)), .val (.int 1), .val (.int 84), .unset] [(.int 1)])) (fun _ k => XS.goto X51.here hx rfl (pc0 := 121) (pc' := 125) rfl (hb hby at_121) (by decide) (by decide) k) ?_
    refine own_s (g' := (mkF m 127 #[.val (.int p0_0), .val (.int p0_1), .val (.ref b5), .val (.int 2), .val (.int 1), .val (.int (t0_54 p0_1)), .val (.int 1), .val (.int 84), .val (.int 1)] [])) (fun _ k => XS.istore X51.here hx rfl (hb hby at_125) rfl (l' := #[.val (.int p0_0), .val (.int p0_1), .val (.ref b5), .val (.int 2), .val (.int 1), .val (.int (t0_54 p0_1)), .val (.int 1), .val (.int 84), .val (.int 1)]) rfl k) ?_
    refine own_s (g' := (mkF m 144 #[.val (.int p0_0), .val (.int p0_1), .val (.ref b5), .val (.int 2), .val (.int 1), .val (.int (t0_54 p0_1)), .val (.int 1), .val (.int 84), .val (.int 1)] [])) (fun _ k => XS.goto X51.here hx rfl (pc0 := 127) (pc' := 144) rfl (hb hby at_127) (by decide) (by decide) k) ?_
    refine own_s (g' := (mkF m 146 #[.val (.int p0_0), .val (.int p0_1), .val (.ref b5), .val (.int 2), .val (.int 1), .val (.int (t0_54 p0_1)), .val (.int 1), .val (.int 84), .val (.int 1)] [(.int 1)])) (fun _ k => XS.iload X51.here hx rfl (hb hby at_144) rfl k) ?_
    refine own_s (g' := (mkF m 149 #[.val (.int p0_0), .val (.int p0_1), .val (.ref b5), .val (.int 2), .val (.int 1), .val (.int (t0_54 p0_1)), .val (.int 1), .val (.int 84), .val (.int 1)] [])) (fun _ k => XS.ifNo X51.here hx rfl (hb hby at_146) rfl ((if0 _ _).trans (feq ((by decide) : ¬ (1 : Int32) = (0 : Int32))).1) k) ?_
    refine own_s (g' := (mkF m 151 #[.val (.int p0_0), .val (.int p0_1), .val (.ref b5), .val (.int 2), .val (.int 1), .val (.int (t0_54 p0_1)), .val (.int 1), .val (.int 84), .val (.int 1)] [(.int 1)])) (fun _ k => XS.iload X51.here hx rfl (hb hby at_149) rfl k) ?_
    refine own_s (g' := (mkF m 154 #[.val (.int p0_0), .val (.int p0_1), .val (.ref b5), .val (.int 2), .val (.int 1), .val (.int (t0_54 p0_1)), .val (.int 1), .val (.int 84), .val (.int 1)] [])) (fun _ k => XS.ifNo X51.here hx rfl (hb hby at_151) rfl ((if0 _ _).trans (feq ((by decide) : ¬ (1 : Int32) = (0 : Int32))).1) k) ?_
    refine own_s (g' := (mkF m 155 #[.val (.int p0_0), .val (.int p0_1), .val (.ref b5), .val (.int 2), .val (.int 1), .val (.int (t0_54 p0_1)), .val (.int 1), .val (.int 84), .val (.int 1)] [(.int 1)])) (fun _ k => XS.iconst X51.here hx rfl (hb hby at_154) k) ?_
    refine own_s (g' := (mkF m 159 #[.val (.int p0_0), .val (.int p0_1), .val (.ref b5), .val (.int 2), .val (.int 1), .val (.int (t0_54 p0_1)), .val (.int 1), .val (.int 84), .val (.int 1)] [(.int 1)])) (fun _ k => XS.goto X51.here hx rfl (pc0 := 155) (pc' := 159) rfl (hb hby at_155) (by decide) (by decide) k) ?_
    refine own_retN X51 hx hlk (t := .boolean) hret (by simp) (hb hby at_159) (z' := (1 : Int32)) (by decide) (by decide) (by decide) ?_
    show Q0 Z p0_0 p0_1 h0 n0 _ T51.heap _
    rw [eh51]
    exact ⟨rfl, N51⟩
   ·skip
    refine own_s (g' := (mkF m 63 #[.val (.int p0_0), .val (.int p0_1), .val (.ref b5), .val (.int 2), .val (.int 1), .val (.int (t0_54 p0_1)), .unset, .unset, .unset] [])) (fun _ k => XS.icmpNo X47.here hx rfl (hb hby at_60) rfl (feq c49).1 k) ?_
    refine own_s (g' := (mkF m 65 #[.val (.int p0_0), .val (.int p0_1), .val (.ref b5), .val (.int 2), .val (.int 1), .val (.int (t0_54 p0_1)), .unset, .unset, .unset] [(.int (t0_54 p0_1))])) (fun _ k => XS.iload X47.here hx rfl (hb hby at_63) rfl k) ?_
    refine own_s (g' := (mkF m 67 #[.val (.int p0_0), .val (.int p0_1), .val (.ref b5), .val (.int 2), .val (.int 1), .val (.int (t0_54 p0_1)), .unset, .unset, .unset] [(.int 67), (.int (t0_54 p0_1))])) (fun _ k => XS.bipush X47.here hx rfl (hb hby at_65) k) ?_
    by_cases c52 : (t0_54 p0_1) = (67 : Int32)
    ·skip
     refine own_s (g' := (mkF m 84 #[.val (.int p0_0), .val (.int p0_1), .val (.ref b5), .val (.int 2), .val (.int 1), .val (.int (t0_54 p0_1)), .unset, .unset, .unset] [])) (fun _ k => XS.icmpYes X47.here hx rfl (pc0 := 67) (pc' := 84) rfl (hb hby at_67) rfl (teq c52).1 (by decide) (by decide) k) ?_
     refine own_s (g' := (mkF m 85 #[.val (.int p0_0), .val (.int p0_1), .val (.ref b5), .val (.int 2), .val (.int 1), .val (.int (t0_54 p0_1)), .unset, .unset, .unset] [(.int 1)])) (fun _ k => XS.iconst X47.here hx rfl (hb hby at_84) k) ?_
     refine own_s (g' := (mkF m 89 #[.val (.int p0_0), .val (.int p0_1), .val (.ref b5), .val (.int 2), .val (.int 1), .val (.int (t0_54 p0_1)), .unset, .unset, .unset] [(.int 1)])) (fun _ k => XS.goto X47.here hx rfl (pc0 := 85) (pc' := 89) rfl (hb hby at_85) (by decide) (by decide) k) ?_
     refine own_s (g' := (mkF m 91 #[.val (.int p0_0), .val (.int p0_1), .val (.ref b5), .val (.int 2), .val (.int 1), .val (.int (t0_54 p0_1)), .val (.int 1), .unset, .unset] [])) (fun _ k => XS.istore X47.here hx rfl (hb hby at_89) rfl (l' := #[.val (.int p0_0), .val (.int p0_1), .val (.ref b5), .val (.int 2), .val (.int 1), .val (.int (t0_54 p0_1)), .val (.int 1), .unset, .unset]) rfl k) ?_
     refine own_s (g' := (mkF m 93 #[.val (.int p0_0), .val (.int p0_1), .val (.ref b5), .val (.int 2), .val (.int 1), .val (.int (t0_54 p0_1)), .val (.int 1), .unset, .unset] [(.int (t0_54 p0_1))])) (fun _ k => XS.iload X47.here hx rfl (hb hby at_91) rfl k) ?_
     obtain ⟨_, _, ⟨T53, L53, k53, n53⟩, -, X53, ⟨Lc53, hQ53, l53, y53, z53⟩, st53⟩ := Jvm.LawKit.callS X47 hx (y := (⟨"com/example/junctura/junctura/model/ReadPart", "complement", "(C)C"⟩ : MethodName)) hown (mvT hZ ww1) (mvT hZ ww2) (mvT hZ ww3) (mvT hZ ww4) (by decide) (backOf (W := 0) (rm1 l Z a0 hw [] (t0_54 p0_1) h12 n0 (Nat.le_trans Z0 K12.1) ) hZ ww4 ww3 (by decide) (by decide)) (g := (mkF m 93 #[.val (.int p0_0), .val (.int p0_1), .val (.ref b5), .val (.int 2), .val (.int 1), .val (.int (t0_54 p0_1)), .val (.int 1), .unset, .unset] [(.int (t0_54 p0_1))])) rfl (by rw [hml]; rfl) (argsL := [(.int (t0_54 p0_1))]) (rest := []) (lenOf pd__C_C rfl) rfl (by show 2 * 0 + _ ≤ _; exact Nat.le_of_eq rfl) (hb hby at_93) (fun _ _ => ⟨rfl, eh47, (by decide : 1 + 0 ≤ _), (by decide : 4 + 0 ≤ _)⟩)
     dsimp only [Pt.U, Pt.locs, Pt.cells, Pt.slots] at X53 l53 y53 z53 st53 hQ53
     subst l53 y53 z53
     obtain ⟨rfl, N53q, eh53⟩ := hQ53
     have N53 := Fr.app N47 N53q
     refine own_s (g' := (mkF m 96 #[.val (.int p0_0), .val (.int p0_1), .val (.ref b5), .val (.int 2), .val (.int 1), .val (.int (t0_54 p0_1)), .val (.int 1), .unset, .unset] [(.int (r1 (t0_54 p0_1)))])) st53 ?_
     rw [show (r1 (t0_54 p0_1)) = (71 : Int32) from ((if_neg c49).trans (if_pos c52))]
     refine own_s (g' := (mkF m 98 #[.val (.int p0_0), .val (.int p0_1), .val (.ref b5), .val (.int 2), .val (.int 1), .val (.int (t0_54 p0_1)), .val (.int 1), .val (.int 71), .unset] [])) (fun _ k => XS.istore X53.here hx rfl (hb hby at_96) rfl (l' := #[.val (.int p0_0), .val (.int p0_1), .val (.ref b5), .val (.int 2), .val (.int 1), .val (.int (t0_54 p0_1)), .val (.int 1), .val (.int 71), .unset]) rfl k) ?_
     refine own_s (g' := (mkF m 100 #[.val (.int p0_0), .val (.int p0_1), .val (.ref b5), .val (.int 2), .val (.int 1), .val (.int (t0_54 p0_1)), .val (.int 1), .val (.int 71), .unset] [(.int 1)])) (fun _ k => XS.iload X53.here hx rfl (hb hby at_98) rfl k) ?_
     refine own_s (g' := (mkF m 103 #[.val (.int p0_0), .val (.int p0_1), .val (.ref b5), .val (.int 2), .val (.int 1), .val (.int (t0_54 p0_1)), .val (.int 1), .val (.int 71), .unset] [])) (fun _ k => XS.ifNo X53.here hx rfl (hb hby at_100) rfl ((if0 _ _).trans (feq ((by decide) : ¬ (1 : Int32) = (0 : Int32))).1) k) ?_
     refine own_s (g' := (mkF m 105 #[.val (.int p0_0), .val (.int p0_1), .val (.ref b5), .val (.int 2), .val (.int 1), .val (.int (t0_54 p0_1)), .val (.int 1), .val (.int 71), .unset] [(.int 71)])) (fun _ k => XS.iload X53.here hx rfl (hb hby at_103) rfl k) ?_
     obtain ⟨_, _, ⟨T54, L54, k54, n54⟩, -, X54, ⟨Lc54, hQ54, l54, y54, z54⟩, st54⟩ := Jvm.LawKit.callS X53 hx (y := (⟨"com/example/junctura/junctura/model/ReadPart", "complement", "(C)C"⟩ : MethodName)) hown (mvT hZ ww1) (mvT hZ ww2) (mvT hZ ww3) (mvT hZ ww4) (by decide) (backOf (W := 0) (rm1 l Z a0 hw [] (71 : Int32) h12 n0 (Nat.le_trans Z0 K12.1) ) hZ ww4 ww3 (by decide) (by decide)) (g := (mkF m 105 #[.val (.int p0_0), .val (.int p0_1), .val (.ref b5), .val (.int 2), .val (.int 1), .val (.int (t0_54 p0_1)), .val (.int 1), .val (.int 71), .unset] [(.int 71)])) rfl (by rw [hml]; rfl) (argsL := [(.int 71)]) (rest := []) (lenOf pd__C_C rfl) rfl (by show 2 * 0 + _ ≤ _; exact Nat.le_of_eq rfl) (hb hby at_105) (fun _ _ => ⟨rfl, eh53, (by decide : 1 + 0 ≤ _), (by decide : 4 + 0 ≤ _)⟩)
     dsimp only [Pt.U, Pt.locs, Pt.cells, Pt.slots] at X54 l54 y54 z54 st54 hQ54
     subst l54 y54 z54
     obtain ⟨rfl, N54q, eh54⟩ := hQ54
     have N54 := Fr.app N53 N54q
     refine own_s (g' := (mkF m 108 #[.val (.int p0_0), .val (.int p0_1), .val (.ref b5), .val (.int 2), .val (.int 1), .val (.int (t0_54 p0_1)), .val (.int 1), .val (.int 71), .unset] [(.int (r1 (71 : Int32)))])) st54 ?_
     rw [show (r1 (71 : Int32)) = (67 : Int32) from ((if_neg ((by decide) : ¬ (71 : Int32) = (65 : Int32))).trans ((if_neg ((by decide) : ¬ (71 : Int32) = (67 : Int32))).trans (if_pos ((by decide) : (71 : Int32) = (71 : Int32)))))]
     refine own_s (g' := (mkF m 110 #[.val (.int p0_0), .val (.int p0_1), .val (.ref b5), .val (.int 2), .val (.int 1), .val (.int (t0_54 p0_1)), .val (.int 1), .val (.int 71), .unset] [(.int (t0_54 p0_1)), (.int 67)])) (fun _ k => XS.iload X54.here hx rfl (hb hby at_108) rfl k) ?_
     refine own_s (g' := (mkF m 113 #[.val (.int p0_0), .val (.int p0_1), .val (.ref b5), .val (.int 2), .val (.int 1), .val (.int (t0_54 p0_1)), .val (.int 1), .val (.int 71), .unset] [])) (fun _ k => XS.icmpNo X54.here hx rfl (hb hby at_110) rfl (teq ((by rw [c52] <;> decide) : (67 : Int32) = (t0_54 p0_1))).2 k) ?_
     refine own_s (g' := (mkF m 115 #[.val (.int p0_0), .val (.int p0_1), .val (.ref b5), .val (.int 2), .val (.int 1), .val (.int (t0_54 p0_1)), .val (.int 1), .val (.int 71), .unset] [(.int 71)])) (fun _ k => XS.iload X54.here hx rfl (hb hby at_113) rfl k) ?_
     refine own_s (g' := (mkF m 117 #[.val (.int p0_0), .val (.int p0_1), .val (.ref b5), .val (.int 2), .val (.int 1), .val (.int (t0_54 p0_1)), .val (.int 1), .val (.int 71), .unset] [(.int (t0_54 p0_1)), (.int 71)])) (fun _ k => XS.iload X54.here hx rfl (hb hby at_115) rfl k) ?_
     refine own_s (g' := (mkF m 120 #[.val (.int p0_0), .val (.int p0_1), .val (.ref b5), .val (.int 2), .val (.int 1), .val (.int (t0_54 p0_1)), .val (.int 1), .val (.int 71), .unset] [])) (fun _ k => XS.icmpNo X54.here hx rfl (hb hby at_117) rfl (feq ((by rw [c52] <;> decide) : ¬ (71 : Int32) = (t0_54 p0_1))).1 k) ?_
     refine own_s (g' := (mkF m 121 #[.val (.int p0_0), .val (.int p0_1), .val (.ref b5), .val (.int 2), .val (.int 1), .val (.int (t0_54 p0_1)), .val (.int 1), .val (.int 71), .unset] [(.int 1)])) (fun _ k => XS.iconst X54.here hx rfl (hb hby at_120) k) ?_
     refine own_s (g' := (mkF m 125 #[.val (.int p0_0), .val (.int p0_1), .val (.ref b5), .val (.int 2), .val (.int 1), .val (.int (t0_54 p0_1)), .val (.int 1), .val (.int 71), .unset] [(.int 1)])) (fun _ k => XS.goto X54.here hx rfl (pc0 := 121) (pc' := 125) rfl (hb hby at_121) (by decide) (by decide) k) ?_
     refine own_s (g' := (mkF m 127 #[.val (.int p0_0), .val (.int p0_1), .val (.ref b5), .val (.int 2), .val (.int 1), .val (.int (t0_54 p0_1)), .val (.int 1), .val (.int 71), .val (.int 1)] [])) (fun _ k => XS.istore X54.here hx rfl (hb hby at_125) rfl (l' := #[.val (.int p0_0), .val (.int p0_1), .val (.ref b5), .val (.int 2), .val (.int 1), .val (.int (t0_54 p0_1)), .val (.int 1), .val (.int 71), .val (.int 1)]) rfl k) ?_
     refine own_s (g' := (mkF m 144 #[.val (.int p0_0), .val (.int p0_1), .val (.ref b5), .val (.int 2), .val (.int 1), .val (.int (t0_54 p0_1)), .val (.int 1), .val (.int 71), .val (.int 1)] [])) (fun _ k => XS.goto X54.here hx rfl (pc0 := 127) (pc' := 144) rfl (hb hby at_127) (by decide) (by decide) k) ?_
     refine own_s (g' := (mkF m 146 #[.val (.int p0_0), .val (.int p0_1), .val (.ref b5), .val (.int 2), .val (.int 1), .val (.int (t0_54 p0_1)), .val (.int 1), .val (.int 71), .val (.int 1)] [(.int 1)])) (fun _ k => XS.iload X54.here hx rfl (hb hby at_144) rfl k) ?_
     refine own_s (g' := (mkF m 149 #[.val (.int p0_0), .val (.int p0_1), .val (.ref b5), .val (.int 2), .val (.int 1), .val (.int (t0_54 p0_1)), .val (.int 1), .val (.int 71), .val (.int 1)] [])) (fun _ k => XS.ifNo X54.here hx rfl (hb hby at_146) rfl ((if0 _ _).trans (feq ((by decide) : ¬ (1 : Int32) = (0 : Int32))).1) k) ?_
     refine own_s (g' := (mkF m 151 #[.val (.int p0_0), .val (.int p0_1), .val (.ref b5), .val (.int 2), .val (.int 1), .val (.int (t0_54 p0_1)), .val (.int 1), .val (.int 71), .val (.int 1)] [(.int 1)])) (fun _ k => XS.iload X54.here hx rfl (hb hby at_149) rfl k) ?_
     refine own_s (g' := (mkF m 154 #[.val (.int p0_0), .val (.int p0_1), .val (.ref b5), .val (.int 2), .val (.int 1), .val (.int (t0_54 p0_1)), .val (.int 1), .val (.int 71), .val (.int 1)] [])) (fun _ k => XS.ifNo X54.here hx rfl (hb hby at_151) rfl ((if0 _ _).trans (feq ((by decide) : ¬ (1 : Int32) = (0 : Int32))).1) k) ?_
     refine own_s (g' := (mkF m 155 #[.val (.int p0_0), .val (.int p0_1), .val (.ref b5), .val (.int 2), .val (.int 1), .val (.int (t0_54 p0_1)), .val (.int 1), .val (.int 71), .val (.int 1)] [(.int 1)])) (fun _ k => XS.iconst X54.here hx rfl (hb hby at_154) k) ?_
     refine own_s (g' := (mkF m 159 #[.val (.int p0_0), .val (.int p0_1), .val (.ref b5), .val (.int 2), .val (.int 1), .val (.int (t0_54 p0_1)), .val (.int 1), .val (.int 71), .val (.int 1)] [(.int 1)])) (fun _ k => XS.goto X54.here hx rfl (pc0 := 155) (pc' := 159) rfl (hb hby at_155) (by decide) (by decide) k) ?_
     refine own_retN X54 hx hlk (t := .boolean) hret (by simp) (hb hby at_159) (z' := (1 : Int32)) (by decide) (by decide) (by decide) ?_
     show Q0 Z p0_0 p0_1 h0 n0 _ T54.heap _
     rw [eh54]
     exact ⟨rfl, N54⟩
    ·skip
     refine own_s (g' := (mkF m 70 #[.val (.int p0_0), .val (.int p0_1), .val (.ref b5), .val (.int 2), .val (.int 1), .val (.int (t0_54 p0_1)), .unset, .unset, .unset] [])) (fun _ k => XS.icmpNo X47.here hx rfl (hb hby at_67) rfl (feq c52).1 k) ?_
     refine own_s (g' := (mkF m 72 #[.val (.int p0_0), .val (.int p0_1), .val (.ref b5), .val (.int 2), .val (.int 1), .val (.int (t0_54 p0_1)), .unset, .unset, .unset] [(.int (t0_54 p0_1))])) (fun _ k => XS.iload X47.here hx rfl (hb hby at_70) rfl k) ?_
     refine own_s (g' := (mkF m 74 #[.val (.int p0_0), .val (.int p0_1), .val (.ref b5), .val (.int 2), .val (.int 1), .val (.int (t0_54 p0_1)), .unset, .unset, .unset] [(.int 71), (.int (t0_54 p0_1))])) (fun _ k => XS.bipush X47.here hx rfl (hb hby at_72) k) ?_
     by_cases c55 : (t0_54 p0_1) = (71 : Int32)
     ·skip
      refine own_s (g' := (mkF m 84 #[.val (.int p0_0), .val (.int p0_1), .val (.ref b5), .val (.int 2), .val (.int 1), .val (.int (t0_54 p0_1)), .unset, .unset, .unset] [])) (fun _ k => XS.icmpYes X47.here hx rfl (pc0 := 74) (pc' := 84) rfl (hb hby at_74) rfl (teq c55).1 (by decide) (by decide) k) ?_
      refine own_s (g' := (mkF m 85 #[.val (.int p0_0), .val (.int p0_1), .val (.ref b5), .val (.int 2), .val (.int 1), .val (.int (t0_54 p0_1)), .unset, .unset, .unset] [(.int 1)])) (fun _ k => XS.iconst X47.here hx rfl (hb hby at_84) k) ?_
      refine own_s (g' := (mkF m 89 #[.val (.int p0_0), .val (.int p0_1), .val (.ref b5), .val (.int 2), .val (.int 1), .val (.int (t0_54 p0_1)), .unset, .unset, .unset] [(.int 1)])) (fun _ k => XS.goto X47.here hx rfl (pc0 := 85) (pc' := 89) rfl (hb hby at_85) (by decide) (by decide) k) ?_
      refine own_s (g' := (mkF m 91 #[.val (.int p0_0), .val (.int p0_1), .val (.ref b5), .val (.int 2), .val (.int 1), .val (.int (t0_54 p0_1)), .val (.int 1), .unset, .unset] [])) (fun _ k => XS.istore X47.here hx rfl (hb hby at_89) rfl (l' := #[.val (.int p0_0), .val (.int p0_1), .val (.ref b5), .val (.int 2), .val (.int 1), .val (.int (t0_54 p0_1)), .val (.int 1), .unset, .unset]) rfl k) ?_
      refine own_s (g' := (mkF m 93 #[.val (.int p0_0), .val (.int p0_1), .val (.ref b5), .val (.int 2), .val (.int 1), .val (.int (t0_54 p0_1)), .val (.int 1), .unset, .unset] [(.int (t0_54 p0_1))])) (fun _ k => XS.iload X47.here hx rfl (hb hby at_91) rfl k) ?_
      obtain ⟨_, _, ⟨T56, L56, k56, n56⟩, -, X56, ⟨Lc56, hQ56, l56, y56, z56⟩, st56⟩ := Jvm.LawKit.callS X47 hx (y := (⟨"com/example/junctura/junctura/model/ReadPart", "complement", "(C)C"⟩ : MethodName)) hown (mvT hZ ww1) (mvT hZ ww2) (mvT hZ ww3) (mvT hZ ww4) (by decide) (backOf (W := 0) (rm1 l Z a0 hw [] (t0_54 p0_1) h12 n0 (Nat.le_trans Z0 K12.1) ) hZ ww4 ww3 (by decide) (by decide)) (g := (mkF m 93 #[.val (.int p0_0), .val (.int p0_1), .val (.ref b5), .val (.int 2), .val (.int 1), .val (.int (t0_54 p0_1)), .val (.int 1), .unset, .unset] [(.int (t0_54 p0_1))])) rfl (by rw [hml]; rfl) (argsL := [(.int (t0_54 p0_1))]) (rest := []) (lenOf pd__C_C rfl) rfl (by show 2 * 0 + _ ≤ _; exact Nat.le_of_eq rfl) (hb hby at_93) (fun _ _ => ⟨rfl, eh47, (by decide : 1 + 0 ≤ _), (by decide : 4 + 0 ≤ _)⟩)
      dsimp only [Pt.U, Pt.locs, Pt.cells, Pt.slots] at X56 l56 y56 z56 st56 hQ56
      subst l56 y56 z56
      obtain ⟨rfl, N56q, eh56⟩ := hQ56
      have N56 := Fr.app N47 N56q
      refine own_s (g' := (mkF m 96 #[.val (.int p0_0), .val (.int p0_1), .val (.ref b5), .val (.int 2), .val (.int 1), .val (.int (t0_54 p0_1)), .val (.int 1), .unset, .unset] [(.int (r1 (t0_54 p0_1)))])) st56 ?_
      rw [show (r1 (t0_54 p0_1)) = (67 : Int32) from ((if_neg c49).trans ((if_neg c52).trans (if_pos c55)))]
      refine own_s (g' := (mkF m 98 #[.val (.int p0_0), .val (.int p0_1), .val (.ref b5), .val (.int 2), .val (.int 1), .val (.int (t0_54 p0_1)), .val (.int 1), .val (.int 67), .unset] [])) (fun _ k => XS.istore X56.here hx rfl (hb hby at_96) rfl (l' := #[.val (.int p0_0), .val (.int p0_1), .val (.ref b5), .val (.int 2), .val (.int 1), .val (.int (t0_54 p0_1)), .val (.int 1), .val (.int 67), .unset]) rfl k) ?_
      refine own_s (g' := (mkF m 100 #[.val (.int p0_0), .val (.int p0_1), .val (.ref b5), .val (.int 2), .val (.int 1), .val (.int (t0_54 p0_1)), .val (.int 1), .val (.int 67), .unset] [(.int 1)])) (fun _ k => XS.iload X56.here hx rfl (hb hby at_98) rfl k) ?_
      refine own_s (g' := (mkF m 103 #[.val (.int p0_0), .val (.int p0_1), .val (.ref b5), .val (.int 2), .val (.int 1), .val (.int (t0_54 p0_1)), .val (.int 1), .val (.int 67), .unset] [])) (fun _ k => XS.ifNo X56.here hx rfl (hb hby at_100) rfl ((if0 _ _).trans (feq ((by decide) : ¬ (1 : Int32) = (0 : Int32))).1) k) ?_
      refine own_s (g' := (mkF m 105 #[.val (.int p0_0), .val (.int p0_1), .val (.ref b5), .val (.int 2), .val (.int 1), .val (.int (t0_54 p0_1)), .val (.int 1), .val (.int 67), .unset] [(.int 67)])) (fun _ k => XS.iload X56.here hx rfl (hb hby at_103) rfl k) ?_
      obtain ⟨_, _, ⟨T57, L57, k57, n57⟩, -, X57, ⟨Lc57, hQ57, l57, y57, z57⟩, st57⟩ := Jvm.LawKit.callS X56 hx (y := (⟨"com/example/junctura/junctura/model/ReadPart", "complement", "(C)C"⟩ : MethodName)) hown (mvT hZ ww1) (mvT hZ ww2) (mvT hZ ww3) (mvT hZ ww4) (by decide) (backOf (W := 0) (rm1 l Z a0 hw [] (67 : Int32) h12 n0 (Nat.le_trans Z0 K12.1) ) hZ ww4 ww3 (by decide) (by decide)) (g := (mkF m 105 #[.val (.int p0_0), .val (.int p0_1), .val (.ref b5), .val (.int 2), .val (.int 1), .val (.int (t0_54 p0_1)), .val (.int 1), .val (.int 67), .unset] [(.int 67)])) rfl (by rw [hml]; rfl) (argsL := [(.int 67)]) (rest := []) (lenOf pd__C_C rfl) rfl (by show 2 * 0 + _ ≤ _; exact Nat.le_of_eq rfl) (hb hby at_105) (fun _ _ => ⟨rfl, eh56, (by decide : 1 + 0 ≤ _), (by decide : 4 + 0 ≤ _)⟩)
      dsimp only [Pt.U, Pt.locs, Pt.cells, Pt.slots] at X57 l57 y57 z57 st57 hQ57
      subst l57 y57 z57
      obtain ⟨rfl, N57q, eh57⟩ := hQ57
      have N57 := Fr.app N56 N57q
      refine own_s (g' := (mkF m 108 #[.val (.int p0_0), .val (.int p0_1), .val (.ref b5), .val (.int 2), .val (.int 1), .val (.int (t0_54 p0_1)), .val (.int 1), .val (.int 67), .unset] [(.int (r1 (67 : Int32)))])) st57 ?_
      rw [show (r1 (67 : Int32)) = (71 : Int32) from ((if_neg ((by decide) : ¬ (67 : Int32) = (65 : Int32))).trans (if_pos ((by decide) : (67 : Int32) = (67 : Int32))))]
      refine own_s (g' := (mkF m 110 #[.val (.int p0_0), .val (.int p0_1), .val (.ref b5), .val (.int 2), .val (.int 1), .val (.int (t0_54 p0_1)), .val (.int 1), .val (.int 67), .unset] [(.int (t0_54 p0_1)), (.int 71)])) (fun _ k => XS.iload X57.here hx rfl (hb hby at_108) rfl k) ?_
      refine own_s (g' := (mkF m 113 #[.val (.int p0_0), .val (.int p0_1), .val (.ref b5), .val (.int 2), .val (.int 1), .val (.int (t0_54 p0_1)), .val (.int 1), .val (.int 67), .unset] [])) (fun _ k => XS.icmpNo X57.here hx rfl (hb hby at_110) rfl (teq ((by rw [c55] <;> decide) : (71 : Int32) = (t0_54 p0_1))).2 k) ?_
      refine own_s (g' := (mkF m 115 #[.val (.int p0_0), .val (.int p0_1), .val (.ref b5), .val (.int 2), .val (.int 1), .val (.int (t0_54 p0_1)), .val (.int 1), .val (.int 67), .unset] [(.int 67)])) (fun _ k => XS.iload X57.here hx rfl (hb hby at_113) rfl k) ?_
      refine own_s (g' := (mkF m 117 #[.val (.int p0_0), .val (.int p0_1), .val (.ref b5), .val (.int 2), .val (.int 1), .val (.int (t0_54 p0_1)), .val (.int 1), .val (.int 67), .unset] [(.int (t0_54 p0_1)), (.int 67)])) (fun _ k => XS.iload X57.here hx rfl (hb hby at_115) rfl k) ?_
      refine own_s (g' := (mkF m 120 #[.val (.int p0_0), .val (.int p0_1), .val (.ref b5), .val (.int 2), .val (.int 1), .val (.int (t0_54 p0_1)), .val (.int 1), .val (.int 67), .unset] [])) (fun _ k => XS.icmpNo X57.here hx rfl (hb hby at_117) rfl (feq ((by rw [c55] <;> decide) : ¬ (67 : Int32) = (t0_54 p0_1))).1 k) ?_
      refine own_s (g' := (mkF m 121 #[.val (.int p0_0), .val (.int p0_1), .val (.ref b5), .val (.int 2), .val (.int 1), .val (.int (t0_54 p0_1)), .val (.int 1), .val (.int 67), .unset] [(.int 1)])) (fun _ k => XS.iconst X57.here hx rfl (hb hby at_120) k) ?_
      refine own_s (g' := (mkF m 125 #[.val (.int p0_0), .val (.int p0_1), .val (.ref b5), .val (.int 2), .val (.int 1), .val (.int (t0_54 p0_1)), .val (.int 1), .val (.int 67), .unset] [(.int 1)])) (fun _ k => XS.goto X57.here hx rfl (pc0 := 121) (pc' := 125) rfl (hb hby at_121) (by decide) (by decide) k) ?_
      refine own_s (g' := (mkF m 127 #[.val (.int p0_0), .val (.int p0_1), .val (.ref b5), .val (.int 2), .val (.int 1), .val (.int (t0_54 p0_1)), .val (.int 1), .val (.int 67), .val (.int 1)] [])) (fun _ k => XS.istore X57.here hx rfl (hb hby at_125) rfl (l' := #[.val (.int p0_0), .val (.int p0_1), .val (.ref b5), .val (.int 2), .val (.int 1), .val (.int (t0_54 p0_1)), .val (.int 1), .val (.int 67), .val (.int 1)]) rfl k) ?_
      refine own_s (g' := (mkF m 144 #[.val (.int p0_0), .val (.int p0_1), .val (.ref b5), .val (.int 2), .val (.int 1), .val (.int (t0_54 p0_1)), .val (.int 1), .val (.int 67), .val (.int 1)] [])) (fun _ k => XS.goto X57.here hx rfl (pc0 := 127) (pc' := 144) rfl (hb hby at_127) (by decide) (by decide) k) ?_
      refine own_s (g' := (mkF m 146 #[.val (.int p0_0), .val (.int p0_1), .val (.ref b5), .val (.int 2), .val (.int 1), .val (.int (t0_54 p0_1)), .val (.int 1), .val (.int 67), .val (.int 1)] [(.int 1)])) (fun _ k => XS.iload X57.here hx rfl (hb hby at_144) rfl k) ?_
      refine own_s (g' := (mkF m 149 #[.val (.int p0_0), .val (.int p0_1), .val (.ref b5), .val (.int 2), .val (.int 1), .val (.int (t0_54 p0_1)), .val (.int 1), .val (.int 67), .val (.int 1)] [])) (fun _ k => XS.ifNo X57.here hx rfl (hb hby at_146) rfl ((if0 _ _).trans (feq ((by decide) : ¬ (1 : Int32) = (0 : Int32))).1) k) ?_
      refine own_s (g' := (mkF m 151 #[.val (.int p0_0), .val (.int p0_1), .val (.ref b5), .val (.int 2), .val (.int 1), .val (.int (t0_54 p0_1)), .val (.int 1), .val (.int 67), .val (.int 1)] [(.int 1)])) (fun _ k => XS.iload X57.here hx rfl (hb hby at_149) rfl k) ?_
      refine own_s (g' := (mkF m 154 #[.val (.int p0_0), .val (.int p0_1), .val (.ref b5), .val (.int 2), .val (.int 1), .val (.int (t0_54 p0_1)), .val (.int 1), .val (.int 67), .val (.int 1)] [])) (fun _ k => XS.ifNo X57.here hx rfl (hb hby at_151) rfl ((if0 _ _).trans (feq ((by decide) : ¬ (1 : Int32) = (0 : Int32))).1) k) ?_
      refine own_s (g' := (mkF m 155 #[.val (.int p0_0), .val (.int p0_1), .val (.ref b5), .val (.int 2), .val (.int 1), .val (.int (t0_54 p0_1)), .val (.int 1), .val (.int 67), .val (.int 1)] [(.int 1)])) (fun _ k => XS.iconst X57.here hx rfl (hb hby at_154) k) ?_
      refine own_s (g' := (mkF m 159 #[.val (.int p0_0), .val (.int p0_1), .val (.ref b5), .val (.int 2), .val (.int 1), .val (.int (t0_54 p0_1)), .val (.int 1), .val (.int 67), .val (.int 1)] [(.int 1)])) (fun _ k => XS.goto X57.here hx rfl (pc0 := 155) (pc' := 159) rfl (hb hby at_155) (by decide) (by decide) k) ?_
      refine own_retN X57 hx hlk (t := .boolean) hret (by simp) (hb hby at_159) (z' := (1 : Int32)) (by decide) (by decide) (by decide) ?_
      show Q0 Z p0_0 p0_1 h0 n0 _ T57.heap _
      rw [eh57]
      exact ⟨rfl, N57⟩
     ·skip
      refine own_s (g' := (mkF m 77 #[.val (.int p0_0), .val (.int p0_1), .val (.ref b5), .val (.int 2), .val (.int 1), .val (.int (t0_54 p0_1)), .unset, .unset, .unset] [])) (fun _ k => XS.icmpNo X47.here hx rfl (hb hby at_74) rfl (feq c55).1 k) ?_
      refine own_s (g' := (mkF m 79 #[.val (.int p0_0), .val (.int p0_1), .val (.ref b5), .val (.int 2), .val (.int 1), .val (.int (t0_54 p0_1)), .unset, .unset, .unset] [(.int (t0_54 p0_1))])) (fun _ k => XS.iload X47.here hx rfl (hb hby at_77) rfl k) ?_
      refine own_s (g' := (mkF m 81 #[.val (.int p0_0), .val (.int p0_1), .val (.ref b5), .val (.int 2), .val (.int 1), .val (.int (t0_54 p0_1)), .unset, .unset, .unset] [(.int 84), (.int (t0_54 p0_1))])) (fun _ k => XS.bipush X47.here hx rfl (hb hby at_79) k) ?_
      by_cases c58 : (t0_54 p0_1) = (84 : Int32)
      ·skip
       refine own_s (g' := (mkF m 84 #[.val (.int p0_0), .val (.int p0_1), .val (.ref b5), .val (.int 2), .val (.int 1), .val (.int (t0_54 p0_1)), .unset, .unset, .unset] [])) (fun _ k => XS.icmpNo X47.here hx rfl (hb hby at_81) rfl (teq c58).2 k) ?_
       refine own_s (g' := (mkF m 85 #[.val (.int p0_0), .val (.int p0_1), .val (.ref b5), .val (.int 2), .val (.int 1), .val (.int (t0_54 p0_1)), .unset, .unset, .unset] [(.int 1)])) (fun _ k => XS.iconst X47.here hx rfl (hb hby at_84) k) ?_
       refine own_s (g' := (mkF m 89 #[.val (.int p0_0), .val (.int p0_1), .val (.ref b5), .val (.int 2), .val (.int 1), .val (.int (t0_54 p0_1)), .unset, .unset, .unset] [(.int 1)])) (fun _ k => XS.goto X47.here hx rfl (pc0 := 85) (pc' := 89) rfl (hb hby at_85) (by decide) (by decide) k) ?_
       refine own_s (g' := (mkF m 91 #[.val (.int p0_0), .val (.int p0_1), .val (.ref b5), .val (.int 2), .val (.int 1), .val (.int (t0_54 p0_1)), .val (.int 1), .unset, .unset] [])) (fun _ k => XS.istore X47.here hx rfl (hb hby at_89) rfl (l' := #[.val (.int p0_0), .val (.int p0_1), .val (.ref b5), .val (.int 2), .val (.int 1), .val (.int (t0_54 p0_1)), .val (.int 1), .unset, .unset]) rfl k) ?_
       refine own_s (g' := (mkF m 93 #[.val (.int p0_0), .val (.int p0_1), .val (.ref b5), .val (.int 2), .val (.int 1), .val (.int (t0_54 p0_1)), .val (.int 1), .unset, .unset] [(.int (t0_54 p0_1))])) (fun _ k => XS.iload X47.here hx rfl (hb hby at_91) rfl k) ?_
       obtain ⟨_, _, ⟨T59, L59, k59, n59⟩, -, X59, ⟨Lc59, hQ59, l59, y59, z59⟩, st59⟩ := Jvm.LawKit.callS X47 hx (y := (⟨"com/example/junctura/junctura/model/ReadPart", "complement", "(C)C"⟩ : MethodName)) hown (mvT hZ ww1) (mvT hZ ww2) (mvT hZ ww3) (mvT hZ ww4) (by decide) (backOf (W := 0) (rm1 l Z a0 hw [] (t0_54 p0_1) h12 n0 (Nat.le_trans Z0 K12.1) ) hZ ww4 ww3 (by decide) (by decide)) (g := (mkF m 93 #[.val (.int p0_0), .val (.int p0_1), .val (.ref b5), .val (.int 2), .val (.int 1), .val (.int (t0_54 p0_1)), .val (.int 1), .unset, .unset] [(.int (t0_54 p0_1))])) rfl (by rw [hml]; rfl) (argsL := [(.int (t0_54 p0_1))]) (rest := []) (lenOf pd__C_C rfl) rfl (by show 2 * 0 + _ ≤ _; exact Nat.le_of_eq rfl) (hb hby at_93) (fun _ _ => ⟨rfl, eh47, (by decide : 1 + 0 ≤ _), (by decide : 4 + 0 ≤ _)⟩)
       dsimp only [Pt.U, Pt.locs, Pt.cells, Pt.slots] at X59 l59 y59 z59 st59 hQ59
       subst l59 y59 z59
       obtain ⟨rfl, N59q, eh59⟩ := hQ59
       have N59 := Fr.app N47 N59q
       refine own_s (g' := (mkF m 96 #[.val (.int p0_0), .val (.int p0_1), .val (.ref b5), .val (.int 2), .val (.int 1), .val (.int (t0_54 p0_1)), .val (.int 1), .unset, .unset] [(.int (r1 (t0_54 p0_1)))])) st59 ?_
       rw [show (r1 (t0_54 p0_1)) = (65 : Int32) from ((if_neg c49).trans ((if_neg c52).trans ((if_neg c55).trans (if_pos c58))))]
       refine own_s (g' := (mkF m 98 #[.val (.int p0_0), .val (.int p0_1), .val (.ref b5), .val (.int 2), .val (.int 1), .val (.int (t0_54 p0_1)), .val (.int 1), .val (.int 65), .unset] [])) (fun _ k => XS.istore X59.here hx rfl (hb hby at_96) rfl (l' := #[.val (.int p0_0), .val (.int p0_1), .val (.ref b5), .val (.int 2), .val (.int 1), .val (.int (t0_54 p0_1)), .val (.int 1), .val (.int 65), .unset]) rfl k) ?_
       refine own_s (g' := (mkF m 100 #[.val (.int p0_0), .val (.int p0_1), .val (.ref b5), .val (.int 2), .val (.int 1), .val (.int (t0_54 p0_1)), .val (.int 1), .val (.int 65), .unset] [(.int 1)])) (fun _ k => XS.iload X59.here hx rfl (hb hby at_98) rfl k) ?_
       refine own_s (g' := (mkF m 103 #[.val (.int p0_0), .val (.int p0_1), .val (.ref b5), .val (.int 2), .val (.int 1), .val (.int (t0_54 p0_1)), .val (.int 1), .val (.int 65), .unset] [])) (fun _ k => XS.ifNo X59.here hx rfl (hb hby at_100) rfl ((if0 _ _).trans (feq ((by decide) : ¬ (1 : Int32) = (0 : Int32))).1) k) ?_
       refine own_s (g' := (mkF m 105 #[.val (.int p0_0), .val (.int p0_1), .val (.ref b5), .val (.int 2), .val (.int 1), .val (.int (t0_54 p0_1)), .val (.int 1), .val (.int 65), .unset] [(.int 65)])) (fun _ k => XS.iload X59.here hx rfl (hb hby at_103) rfl k) ?_
       obtain ⟨_, _, ⟨T60, L60, k60, n60⟩, -, X60, ⟨Lc60, hQ60, l60, y60, z60⟩, st60⟩ := Jvm.LawKit.callS X59 hx (y := (⟨"com/example/junctura/junctura/model/ReadPart", "complement", "(C)C"⟩ : MethodName)) hown (mvT hZ ww1) (mvT hZ ww2) (mvT hZ ww3) (mvT hZ ww4) (by decide) (backOf (W := 0) (rm1 l Z a0 hw [] (65 : Int32) h12 n0 (Nat.le_trans Z0 K12.1) ) hZ ww4 ww3 (by decide) (by decide)) (g := (mkF m 105 #[.val (.int p0_0), .val (.int p0_1), .val (.ref b5), .val (.int 2), .val (.int 1), .val (.int (t0_54 p0_1)), .val (.int 1), .val (.int 65), .unset] [(.int 65)])) rfl (by rw [hml]; rfl) (argsL := [(.int 65)]) (rest := []) (lenOf pd__C_C rfl) rfl (by show 2 * 0 + _ ≤ _; exact Nat.le_of_eq rfl) (hb hby at_105) (fun _ _ => ⟨rfl, eh59, (by decide : 1 + 0 ≤ _), (by decide : 4 + 0 ≤ _)⟩)
       dsimp only [Pt.U, Pt.locs, Pt.cells, Pt.slots] at X60 l60 y60 z60 st60 hQ60
       subst l60 y60 z60
       obtain ⟨rfl, N60q, eh60⟩ := hQ60
       have N60 := Fr.app N59 N60q
       refine own_s (g' := (mkF m 108 #[.val (.int p0_0), .val (.int p0_1), .val (.ref b5), .val (.int 2), .val (.int 1), .val (.int (t0_54 p0_1)), .val (.int 1), .val (.int 65), .unset] [(.int (r1 (65 : Int32)))])) st60 ?_
       rw [show (r1 (65 : Int32)) = (84 : Int32) from (if_pos ((by decide) : (65 : Int32) = (65 : Int32)))]
       refine own_s (g' := (mkF m 110 #[.val (.int p0_0), .val (.int p0_1), .val (.ref b5), .val (.int 2), .val (.int 1), .val (.int (t0_54 p0_1)), .val (.int 1), .val (.int 65), .unset] [(.int (t0_54 p0_1)), (.int 84)])) (fun _ k => XS.iload X60.here hx rfl (hb hby at_108) rfl k) ?_
       refine own_s (g' := (mkF m 113 #[.val (.int p0_0), .val (.int p0_1), .val (.ref b5), .val (.int 2), .val (.int 1), .val (.int (t0_54 p0_1)), .val (.int 1), .val (.int 65), .unset] [])) (fun _ k => XS.icmpNo X60.here hx rfl (hb hby at_110) rfl (teq ((by rw [c58] <;> decide) : (84 : Int32) = (t0_54 p0_1))).2 k) ?_
       refine own_s (g' := (mkF m 115 #[.val (.int p0_0), .val (.int p0_1), .val (.ref b5), .val (.int 2), .val (.int 1), .val (.int (t0_54 p0_1)), .val (.int 1), .val (.int 65), .unset] [(.int 65)])) (fun _ k => XS.iload X60.here hx rfl (hb hby at_113) rfl k) ?_
       refine own_s (g' := (mkF m 117 #[.val (.int p0_0), .val (.int p0_1), .val (.ref b5), .val (.int 2), .val (.int 1), .val (.int (t0_54 p0_1)), .val (.int 1), .val (.int 65), .unset] [(.int (t0_54 p0_1)), (.int 65)])) (fun _ k => XS.iload X60.here hx rfl (hb hby at_115) rfl k) ?_
       refine own_s (g' := (mkF m 120 #[.val (.int p0_0), .val (.int p0_1), .val (.ref b5), .val (.int 2), .val (.int 1), .val (.int (t0_54 p0_1)), .val (.int 1), .val (.int 65), .unset] [])) (fun _ k => XS.icmpNo X60.here hx rfl (hb hby at_117) rfl (feq ((by rw [c58] <;> decide) : ¬ (65 : Int32) = (t0_54 p0_1))).1 k) ?_
       refine own_s (g' := (mkF m 121 #[.val (.int p0_0), .val (.int p0_1), .val (.ref b5), .val (.int 2), .val (.int 1), .val (.int (t0_54 p0_1)), .val (.int 1), .val (.int 65), .unset] [(.int 1)])) (fun _ k => XS.iconst X60.here hx rfl (hb hby at_120) k) ?_
       refine own_s (g' := (mkF m 125 #[.val (.int p0_0), .val (.int p0_1), .val (.ref b5), .val (.int 2), .val (.int 1), .val (.int (t0_54 p0_1)), .val (.int 1), .val (.int 65), .unset] [(.int 1)])) (fun _ k => XS.goto X60.here hx rfl (pc0 := 121) (pc' := 125) rfl (hb hby at_121) (by decide) (by decide) k) ?_
       refine own_s (g' := (mkF m 127 #[.val (.int p0_0), .val (.int p0_1), .val (.ref b5), .val (.int 2), .val (.int 1), .val (.int (t0_54 p0_1)), .val (.int 1), .val (.int 65), .val (.int 1)] [])) (fun _ k => XS.istore X60.here hx rfl (hb hby at_125) rfl (l' := #[.val (.int p0_0), .val (.int p0_1), .val (.ref b5), .val (.int 2), .val (.int 1), .val (.int (t0_54 p0_1)), .val (.int 1), .val (.int 65), .val (.int 1)]) rfl k) ?_
       refine own_s (g' := (mkF m 144 #[.val (.int p0_0), .val (.int p0_1), .val (.ref b5), .val (.int 2), .val (.int 1), .val (.int (t0_54 p0_1)), .val (.int 1), .val (.int 65), .val (.int 1)] [])) (fun _ k => XS.goto X60.here hx rfl (pc0 := 127) (pc' := 144) rfl (hb hby at_127) (by decide) (by decide) k) ?_
       refine own_s (g' := (mkF m 146 #[.val (.int p0_0), .val (.int p0_1), .val (.ref b5), .val (.int 2), .val (.int 1), .val (.int (t0_54 p0_1)), .val (.int 1), .val (.int 65), .val (.int 1)] [(.int 1)])) (fun _ k => XS.iload X60.here hx rfl (hb hby at_144) rfl k) ?_
       refine own_s (g' := (mkF m 149 #[.val (.int p0_0), .val (.int p0_1), .val (.ref b5), .val (.int 2), .val (.int 1), .val (.int (t0_54 p0_1)), .val (.int 1), .val (.int 65), .val (.int 1)] [])) (fun _ k => XS.ifNo X60.here hx rfl (hb hby at_146) rfl ((if0 _ _).trans (feq ((by decide) : ¬ (1 : Int32) = (0 : Int32))).1) k) ?_
       refine own_s (g' := (mkF m 151 #[.val (.int p0_0), .val (.int p0_1), .val (.ref b5), .val (.int 2), .val (.int 1), .val (.int (t0_54 p0_1)), .val (.int 1), .val (.int 65), .val (.int 1)] [(.int 1)])) (fun _ k => XS.iload X60.here hx rfl (hb hby at_149) rfl k) ?_
       refine own_s (g' := (mkF m 154 #[.val (.int p0_0), .val (.int p0_1), .val (.ref b5), .val (.int 2), .val (.int 1), .val (.int (t0_54 p0_1)), .val (.int 1), .val (.int 65), .val (.int 1)] [])) (fun _ k => XS.ifNo X60.here hx rfl (hb hby at_151) rfl ((if0 _ _).trans (feq ((by decide) : ¬ (1 : Int32) = (0 : Int32))).1) k) ?_
       refine own_s (g' := (mkF m 155 #[.val (.int p0_0), .val (.int p0_1), .val (.ref b5), .val (.int 2), .val (.int 1), .val (.int (t0_54 p0_1)), .val (.int 1), .val (.int 65), .val (.int 1)] [(.int 1)])) (fun _ k => XS.iconst X60.here hx rfl (hb hby at_154) k) ?_
       refine own_s (g' := (mkF m 159 #[.val (.int p0_0), .val (.int p0_1), .val (.ref b5), .val (.int 2), .val (.int 1), .val (.int (t0_54 p0_1)), .val (.int 1), .val (.int 65), .val (.int 1)] [(.int 1)])) (fun _ k => XS.goto X60.here hx rfl (pc0 := 155) (pc' := 159) rfl (hb hby at_155) (by decide) (by decide) k) ?_
       refine own_retN X60 hx hlk (t := .boolean) hret (by simp) (hb hby at_159) (z' := (1 : Int32)) (by decide) (by decide) (by decide) ?_
       show Q0 Z p0_0 p0_1 h0 n0 _ T60.heap _
       rw [eh60]
       exact ⟨rfl, N60⟩
      ·skip
       refine own_s (g' := (mkF m 88 #[.val (.int p0_0), .val (.int p0_1), .val (.ref b5), .val (.int 2), .val (.int 1), .val (.int (t0_54 p0_1)), .unset, .unset, .unset] [])) (fun _ k => XS.icmpYes X47.here hx rfl (pc0 := 81) (pc' := 88) rfl (hb hby at_81) rfl (feq c58).2 (by decide) (by decide) k) ?_
       refine own_s (g' := (mkF m 89 #[.val (.int p0_0), .val (.int p0_1), .val (.ref b5), .val (.int 2), .val (.int 1), .val (.int (t0_54 p0_1)), .unset, .unset, .unset] [(.int 0)])) (fun _ k => XS.iconst X47.here hx rfl (hb hby at_88) k) ?_
       refine own_s (g' := (mkF m 91 #[.val (.int p0_0), .val (.int p0_1), .val (.ref b5), .val (.int 2), .val (.int 1), .val (.int (t0_54 p0_1)), .val (.int 0), .unset, .unset] [])) (fun _ k => XS.istore X47.here hx rfl (hb hby at_89) rfl (l' := #[.val (.int p0_0), .val (.int p0_1), .val (.ref b5), .val (.int 2), .val (.int 1), .val (.int (t0_54 p0_1)), .val (.int 0), .unset, .unset]) rfl k) ?_
       refine own_s (g' := (mkF m 93 #[.val (.int p0_0), .val (.int p0_1), .val (.ref b5), .val (.int 2), .val (.int 1), .val (.int (t0_54 p0_1)), .val (.int 0), .unset, .unset] [(.int (t0_54 p0_1))])) (fun _ k => XS.iload X47.here hx rfl (hb hby at_91) rfl k) ?_
       obtain ⟨_, _, ⟨T61, L61, k61, n61⟩, -, X61, ⟨Lc61, hQ61, l61, y61, z61⟩, st61⟩ := Jvm.LawKit.callS X47 hx (y := (⟨"com/example/junctura/junctura/model/ReadPart", "complement", "(C)C"⟩ : MethodName)) hown (mvT hZ ww1) (mvT hZ ww2) (mvT hZ ww3) (mvT hZ ww4) (by decide) (backOf (W := 0) (rm1 l Z a0 hw [] (t0_54 p0_1) h12 n0 (Nat.le_trans Z0 K12.1) ) hZ ww4 ww3 (by decide) (by decide)) (g := (mkF m 93 #[.val (.int p0_0), .val (.int p0_1), .val (.ref b5), .val (.int 2), .val (.int 1), .val (.int (t0_54 p0_1)), .val (.int 0), .unset, .unset] [(.int (t0_54 p0_1))])) rfl (by rw [hml]; rfl) (argsL := [(.int (t0_54 p0_1))]) (rest := []) (lenOf pd__C_C rfl) rfl (by show 2 * 0 + _ ≤ _; exact Nat.le_of_eq rfl) (hb hby at_93) (fun _ _ => ⟨rfl, eh47, (by decide : 1 + 0 ≤ _), (by decide : 4 + 0 ≤ _)⟩)
       dsimp only [Pt.U, Pt.locs, Pt.cells, Pt.slots] at X61 l61 y61 z61 st61 hQ61
       subst l61 y61 z61
       obtain ⟨rfl, N61q, eh61⟩ := hQ61
       have N61 := Fr.app N47 N61q
       refine own_s (g' := (mkF m 96 #[.val (.int p0_0), .val (.int p0_1), .val (.ref b5), .val (.int 2), .val (.int 1), .val (.int (t0_54 p0_1)), .val (.int 0), .unset, .unset] [(.int (r1 (t0_54 p0_1)))])) st61 ?_
       rw [show (r1 (t0_54 p0_1)) = (78 : Int32) from ((if_neg c49).trans ((if_neg c52).trans ((if_neg c55).trans (if_neg c58))))]
       refine own_s (g' := (mkF m 98 #[.val (.int p0_0), .val (.int p0_1), .val (.ref b5), .val (.int 2), .val (.int 1), .val (.int (t0_54 p0_1)), .val (.int 0), .val (.int 78), .unset] [])) (fun _ k => XS.istore X61.here hx rfl (hb hby at_96) rfl (l' := #[.val (.int p0_0), .val (.int p0_1), .val (.ref b5), .val (.int 2), .val (.int 1), .val (.int (t0_54 p0_1)), .val (.int 0), .val (.int 78), .unset]) rfl k) ?_
       refine own_s (g' := (mkF m 100 #[.val (.int p0_0), .val (.int p0_1), .val (.ref b5), .val (.int 2), .val (.int 1), .val (.int (t0_54 p0_1)), .val (.int 0), .val (.int 78), .unset] [(.int 0)])) (fun _ k => XS.iload X61.here hx rfl (hb hby at_98) rfl k) ?_
       refine own_s (g' := (mkF m 130 #[.val (.int p0_0), .val (.int p0_1), .val (.ref b5), .val (.int 2), .val (.int 1), .val (.int (t0_54 p0_1)), .val (.int 0), .val (.int 78), .unset] [])) (fun _ k => XS.ifYes X61.here hx rfl (pc0 := 100) (pc' := 130) rfl (hb hby at_100) rfl ((if0 _ _).trans (teq ((by decide) : (0 : Int32) = (0 : Int32))).1) (by decide) (by decide) k) ?_
       refine own_s (g' := (mkF m 132 #[.val (.int p0_0), .val (.int p0_1), .val (.ref b5), .val (.int 2), .val (.int 1), .val (.int (t0_54 p0_1)), .val (.int 0), .val (.int 78), .unset] [(.int 78)])) (fun _ k => XS.iload X61.here hx rfl (hb hby at_130) rfl k) ?_
       refine own_s (g' := (mkF m 134 #[.val (.int p0_0), .val (.int p0_1), .val (.ref b5), .val (.int 2), .val (.int 1), .val (.int (t0_54 p0_1)), .val (.int 0), .val (.int 78), .unset] [(.int 78), (.int 78)])) (fun _ k => XS.bipush X61.here hx rfl (hb hby at_132) k) ?_
       refine own_s (g' := (mkF m 137 #[.val (.int p0_0), .val (.int p0_1), .val (.ref b5), .val (.int 2), .val (.int 1), .val (.int (t0_54 p0_1)), .val (.int 0), .val (.int 78), .unset] [])) (fun _ k => XS.icmpNo X61.here hx rfl (hb hby at_134) rfl (teq ((by simp only [r1, if_neg c49, if_neg c52, if_neg c55, if_neg c58]) : (78 : Int32) = (78 : Int32))).2 k) ?_
       refine own_s (g' := (mkF m 138 #[.val (.int p0_0), .val (.int p0_1), .val (.ref b5), .val (.int 2), .val (.int 1), .val (.int (t0_54 p0_1)), .val (.int 0), .val (.int 78), .unset] [(.int 1)])) (fun _ k => XS.iconst X61.here hx rfl (hb hby at_137) k) ?_
       refine own_s (g' := (mkF m 142 #[.val (.int p0_0), .val (.int p0_1), .val (.ref b5), .val (.int 2), .val (.int 1), .val (.int (t0_54 p0_1)), .val (.int 0), .val (.int 78), .unset] [(.int 1)])) (fun _ k => XS.goto X61.here hx rfl (pc0 := 138) (pc' := 142) rfl (hb hby at_138) (by decide) (by decide) k) ?_
       refine own_s (g' := (mkF m 144 #[.val (.int p0_0), .val (.int p0_1), .val (.ref b5), .val (.int 2), .val (.int 1), .val (.int (t0_54 p0_1)), .val (.int 0), .val (.int 78), .val (.int 1)] [])) (fun _ k => XS.istore X61.here hx rfl (hb hby at_142) rfl (l' := #[.val (.int p0_0), .val (.int p0_1), .val (.ref b5), .val (.int 2), .val (.int 1), .val (.int (t0_54 p0_1)), .val (.int 0), .val (.int 78), .val (.int 1)]) rfl k) ?_
       refine own_s (g' := (mkF m 146 #[.val (.int p0_0), .val (.int p0_1), .val (.ref b5), .val (.int 2), .val (.int 1), .val (.int (t0_54 p0_1)), .val (.int 0), .val (.int 78), .val (.int 1)] [(.int 1)])) (fun _ k => XS.iload X61.here hx rfl (hb hby at_144) rfl k) ?_
       refine own_s (g' := (mkF m 149 #[.val (.int p0_0), .val (.int p0_1), .val (.ref b5), .val (.int 2), .val (.int 1), .val (.int (t0_54 p0_1)), .val (.int 0), .val (.int 78), .val (.int 1)] [])) (fun _ k => XS.ifNo X61.here hx rfl (hb hby at_146) rfl ((if0 _ _).trans (feq ((by decide) : ¬ (1 : Int32) = (0 : Int32))).1) k) ?_
       refine own_s (g' := (mkF m 151 #[.val (.int p0_0), .val (.int p0_1), .val (.ref b5), .val (.int 2), .val (.int 1), .val (.int (t0_54 p0_1)), .val (.int 0), .val (.int 78), .val (.int 1)] [(.int 1)])) (fun _ k => XS.iload X61.here hx rfl (hb hby at_149) rfl k) ?_
       refine own_s (g' := (mkF m 154 #[.val (.int p0_0), .val (.int p0_1), .val (.ref b5), .val (.int 2), .val (.int 1), .val (.int (t0_54 p0_1)), .val (.int 0), .val (.int 78), .val (.int 1)] [])) (fun _ k => XS.ifNo X61.here hx rfl (hb hby at_151) rfl ((if0 _ _).trans (feq ((by decide) : ¬ (1 : Int32) = (0 : Int32))).1) k) ?_
       refine own_s (g' := (mkF m 155 #[.val (.int p0_0), .val (.int p0_1), .val (.ref b5), .val (.int 2), .val (.int 1), .val (.int (t0_54 p0_1)), .val (.int 0), .val (.int 78), .val (.int 1)] [(.int 1)])) (fun _ k => XS.iconst X61.here hx rfl (hb hby at_154) k) ?_
       refine own_s (g' := (mkF m 159 #[.val (.int p0_0), .val (.int p0_1), .val (.ref b5), .val (.int 2), .val (.int 1), .val (.int (t0_54 p0_1)), .val (.int 0), .val (.int 78), .val (.int 1)] [(.int 1)])) (fun _ k => XS.goto X61.here hx rfl (pc0 := 155) (pc' := 159) rfl (hb hby at_155) (by decide) (by decide) k) ?_
       refine own_retN X61 hx hlk (t := .boolean) hret (by simp) (hb hby at_159) (z' := (1 : Int32)) (by decide) (by decide) (by decide) ?_
       show Q0 Z p0_0 p0_1 h0 n0 _ T61.heap _
       rw [eh61]
       exact ⟨rfl, N61⟩
  ·skip
   rw [show (p0_0 &&& (3 : Int32)) = (3 : Int32) from hi]
   refine own_s (g' := (mkF m 28 #[.val (.int p0_0), .val (.int p0_1), .val (.ref b5), .val (.int 3), .unset, .unset, .unset, .unset, .unset] [])) (fun _ k => XS.istoreN X12.here hx rfl (hb hby at_27) rfl (l' := #[.val (.int p0_0), .val (.int p0_1), .val (.ref b5), .val (.int 3), .unset, .unset, .unset, .unset, .unset]) rfl k) ?_
   refine own_s (g' := (mkF m 29 #[.val (.int p0_0), .val (.int p0_1), .val (.ref b5), .val (.int 3), .unset, .unset, .unset, .unset, .unset] [(.ref b5)])) (fun _ k => XS.aloadN X12.here hx rfl (hb hby at_28) rfl rfl k) ?_
   refine own_s (g' := (mkF m 30 #[.val (.int p0_0), .val (.int p0_1), .val (.ref b5), .val (.int 3), .unset, .unset, .unset, .unset, .unset] [(.int 3), (.ref b5)])) (fun _ k => XS.iloadN X12.here hx rfl (hb hby at_29) rfl k) ?_
   obtain ⟨cl62, Ar62, -, S62, -, H62, -⟩ := id f13
   have in62 := inb_of S62 (j := (3 : Int32)) ⟨by decide, by decide⟩
   refine own_s (g' := (mkF m 31 #[.val (.int p0_0), .val (.int p0_1), .val (.ref b5), .val (.int 3), .unset, .unset, .unset, .unset, .unset] [(.int 84)])) (X12.caload hx (j := (3 : Int32)) (v := (.int 84)) (by rw [e12]; exact Ar62.1) (State.isArrayOf_alike hZ.alike Ar62.2.1) Ar62.2.2 in62 (Has.at H62 in62 rfl) (g := (mkF m 30 #[.val (.int p0_0), .val (.int p0_1), .val (.ref b5), .val (.int 3), .unset, .unset, .unset, .unset, .unset] [(.int 3), (.ref b5)])) rfl rfl (hb hby at_30)) ?_
   obtain ⟨_, _, ⟨T63, L63, k63, n63⟩, -, X63, ⟨Lc63, hQ63, l63, y63, z63⟩, st63⟩ := Jvm.LawKit.callS X12 hx (y := (⟨"com/example/junctura/junctura/model/ReadPart", "complement", "(C)C"⟩ : MethodName)) hown (mvT hZ ww1) (mvT hZ ww2) (mvT hZ ww3) (mvT hZ ww4) (by decide) (backOf (W := 0) (rm1 l Z a0 hw [] (84 : Int32) h12 n0 (Nat.le_trans Z0 K12.1) ) hZ ww4 ww3 (by decide) (by decide)) (g := (mkF m 31 #[.val (.int p0_0), .val (.int p0_1), .val (.ref b5), .val (.int 3), .unset, .unset, .unset, .unset, .unset] [(.int 84)])) rfl (by rw [hml]; rfl) (argsL := [(.int 84)]) (rest := []) (lenOf pd__C_C rfl) rfl (by show 2 * 0 + _ ≤ _; exact Nat.le_of_eq rfl) (hb hby at_31) (fun _ _ => ⟨rfl, e12, (by decide : 1 + 0 ≤ _), (by decide : 4 + 0 ≤ _)⟩)
   dsimp only [Pt.U, Pt.locs, Pt.cells, Pt.slots] at X63 l63 y63 z63 st63 hQ63
   subst l63 y63 z63
   obtain ⟨rfl, N63q, eh63⟩ := hQ63
   have N63 := Fr.app N12 N63q
   refine own_s (g' := (mkF m 34 #[.val (.int p0_0), .val (.int p0_1), .val (.ref b5), .val (.int 3), .unset, .unset, .unset, .unset, .unset] [(.int (r1 (84 : Int32)))])) st63 ?_
   rw [show (r1 (84 : Int32)) = (65 : Int32) from ((if_neg ((by decide) : ¬ (84 : Int32) = (65 : Int32))).trans ((if_neg ((by decide) : ¬ (84 : Int32) = (67 : Int32))).trans ((if_neg ((by decide) : ¬ (84 : Int32) = (71 : Int32))).trans (if_pos ((by decide) : (84 : Int32) = (84 : Int32))))))]
   refine own_s (g' := (mkF m 35 #[.val (.int p0_0), .val (.int p0_1), .val (.ref b5), .val (.int 3), .unset, .unset, .unset, .unset, .unset] [(.ref b5), (.int 65)])) (fun _ k => XS.aloadN X63.here hx rfl (hb hby at_34) rfl rfl k) ?_
   refine own_s (g' := (mkF m 36 #[.val (.int p0_0), .val (.int p0_1), .val (.ref b5), .val (.int 3), .unset, .unset, .unset, .unset, .unset] [(.int 3), (.ref b5), (.int 65)])) (fun _ k => XS.iconst X63.here hx rfl (hb hby at_35) k) ?_
   refine own_s (g' := (mkF m 37 #[.val (.int p0_0), .val (.int p0_1), .val (.ref b5), .val (.int 3), .unset, .unset, .unset, .unset, .unset] [(.int 3), (.int 3), (.ref b5), (.int 65)])) (fun _ k => XS.iloadN X63.here hx rfl (hb hby at_36) rfl k) ?_
   refine own_s (g' := (mkF m 38 #[.val (.int p0_0), .val (.int p0_1), .val (.ref b5), .val (.int 3), .unset, .unset, .unset, .unset, .unset] [(.int ((3 : Int32) - (3 : Int32))), (.ref b5), (.int 65)])) (fun _ k => XS.isub X63.here hx rfl (hb hby at_37) rfl k) ?_
   rw [show ((3 : Int32) - (3 : Int32)) = (0 : Int32) from by decide]
   obtain ⟨cl64, Ar64, -, S64, -, H64, -⟩ := id f13
   have in64 := inb_of S64 (j := (0 : Int32)) ⟨by decide, by decide⟩
   refine own_s (g' := (mkF m 39 #[.val (.int p0_0), .val (.int p0_1), .val (.ref b5), .val (.int 3), .unset, .unset, .unset, .unset, .unset] [(.int 65), (.int 65)])) (X63.caload hx (j := (0 : Int32)) (v := (.int 65)) (by rw [eh63]; exact Ar64.1) (State.isArrayOf_alike hZ.alike Ar64.2.1) Ar64.2.2 in64 (Has.at H64 in64 rfl) (g := (mkF m 38 #[.val (.int p0_0), .val (.int p0_1), .val (.ref b5), .val (.int 3), .unset, .unset, .unset, .unset, .unset] [(.int 0), (.ref b5), (.int 65)])) rfl rfl (hb hby at_38)) ?_
   refine own_s (g' := (mkF m 42 #[.val (.int p0_0), .val (.int p0_1), .val (.ref b5), .val (.int 3), .unset, .unset, .unset, .unset, .unset] [])) (fun _ k => XS.icmpNo X63.here hx rfl (hb hby at_39) rfl (teq ((by decide) : (65 : Int32) = (65 : Int32))).2 k) ?_
   refine own_s (g' := (mkF m 43 #[.val (.int p0_0), .val (.int p0_1), .val (.ref b5), .val (.int 3), .unset, .unset, .unset, .unset, .unset] [(.int 1)])) (fun _ k => XS.iconst X63.here hx rfl (hb hby at_42) k) ?_
   refine own_s (g' := (mkF m 47 #[.val (.int p0_0), .val (.int p0_1), .val (.ref b5), .val (.int 3), .unset, .unset, .unset, .unset, .unset] [(.int 1)])) (fun _ k => XS.goto X63.here hx rfl (pc0 := 43) (pc' := 47) rfl (hb hby at_43) (by decide) (by decide) k) ?_
   refine own_s (g' := (mkF m 49 #[.val (.int p0_0), .val (.int p0_1), .val (.ref b5), .val (.int 3), .val (.int 1), .unset, .unset, .unset, .unset] [])) (fun _ k => XS.istore X63.here hx rfl (hb hby at_47) rfl (l' := #[.val (.int p0_0), .val (.int p0_1), .val (.ref b5), .val (.int 3), .val (.int 1), .unset, .unset, .unset, .unset]) rfl k) ?_
   refine own_s (g' := (mkF m 50 #[.val (.int p0_0), .val (.int p0_1), .val (.ref b5), .val (.int 3), .val (.int 1), .unset, .unset, .unset, .unset] [(.int p0_1)])) (fun _ k => XS.iloadN X63.here hx rfl (hb hby at_49) rfl k) ?_
   refine own_s (g' := (mkF m 52 #[.val (.int p0_0), .val (.int p0_1), .val (.ref b5), .val (.int 3), .val (.int 1), .unset, .unset, .unset, .unset] [(.int 65535), (.int p0_1)])) (X63.ldcInt hx hown (mvT hZ ww5) (g := (mkF m 50 #[.val (.int p0_0), .val (.int p0_1), .val (.ref b5), .val (.int 3), .val (.int 1), .unset, .unset, .unset, .unset] [(.int p0_1)])) rfl (hb hby at_50)) ?_
   refine own_s (g' := (mkF m 53 #[.val (.int p0_0), .val (.int p0_1), .val (.ref b5), .val (.int 3), .val (.int 1), .unset, .unset, .unset, .unset] [(.int (p0_1 &&& (65535 : Int32)))])) (fun _ k => XS.iand X63.here hx rfl (hb hby at_52) rfl k) ?_
   refine own_s (g' := (mkF m 54 #[.val (.int p0_0), .val (.int p0_1), .val (.ref b5), .val (.int 3), .val (.int 1), .unset, .unset, .unset, .unset] [(.int (p0_1 &&& (65535 : Int32)).toUInt32.toUInt16.toUInt32.toInt32)])) (fun _ k => XS.i2c X63.here hx rfl (hb hby at_53) rfl k) ?_
   refine own_s (g' := (mkF m 56 #[.val (.int p0_0), .val (.int p0_1), .val (.ref b5), .val (.int 3), .val (.int 1), .val (.int (t0_54 p0_1)), .unset, .unset, .unset] [])) (fun _ k => XS.istore X63.here hx rfl (hb hby at_54) rfl (l' := #[.val (.int p0_0), .val (.int p0_1), .val (.ref b5), .val (.int 3), .val (.int 1), .val (.int (t0_54 p0_1)), .unset, .unset, .unset]) rfl k) ?_
   refine own_s (g' := (mkF m 58 #[.val (.int p0_0), .val (.int p0_1), .val (.ref b5), .val (.int 3), .val (.int 1), .val (.int (t0_54 p0_1)), .unset, .unset, .unset] [(.int (t0_54 p0_1))])) (fun _ k => XS.iload X63.here hx rfl (hb hby at_56) rfl k) ?_
   refine own_s (g' := (mkF m 60 #[.val (.int p0_0), .val (.int p0_1), .val (.ref b5), .val (.int 3), .val (.int 1), .val (.int (t0_54 p0_1)), .unset, .unset, .unset] [(.int 65), (.int (t0_54 p0_1))])) (fun _ k => XS.bipush X63.here hx rfl (hb hby at_58) k) ?_
   by_cases c65 : (t0_54 p0_1) = (65 : Int32)
   ·skip
    refine own_s (g' := (mkF m 84 #[.val (.int p0_0), .val (.int p0_1), .val (.ref b5), .val (.int 3), .val (.int 1), .val (.int (t0_54 p0_1)), .unset, .unset, .unset] [])) (fun _ k => XS.icmpYes X63.here hx rfl (pc0 := 60) (pc' := 84) rfl (hb hby at_60) rfl (teq c65).1 (by decide) (by decide) k) ?_
    refine own_s (g' := (mkF m 85 #[.val (.int p0_0), .val (.int p0_1), .val (.ref b5), .val (.int 3), .val (.int 1), .val (.int (t0_54 p0_1)), .unset, .unset, .unset] [(.int 1)])) (fun _ k => XS.iconst X63.here hx rfl (hb hby at_84) k) ?_
    refine own_s (g' := (mkF m 89 #[.val (.int p0_0), .val (.int p0_1), .val (.ref b5), .val (.int 3), .val (.int 1), .val (.int (t0_54 p0_1)), .unset, .unset, .unset] [(.int 1)])) (fun _ k => XS.goto X63.here hx rfl (pc0 := 85) (pc' := 89) rfl (hb hby at_85) (by decide) (by decide) k) ?_
    refine own_s (g' := (mkF m 91 #[.val (.int p0_0), .val (.int p0_1), .val (.ref b5), .val (.int 3), .val (.int 1), .val (.int (t0_54 p0_1)), .val (.int 1), .unset, .unset] [])) (fun _ k => XS.istore X63.here hx rfl (hb hby at_89) rfl (l' := #[.val (.int p0_0), .val (.int p0_1), .val (.ref b5), .val (.int 3), .val (.int 1), .val (.int (t0_54 p0_1)), .val (.int 1), .unset, .unset]) rfl k) ?_
    refine own_s (g' := (mkF m 93 #[.val (.int p0_0), .val (.int p0_1), .val (.ref b5), .val (.int 3), .val (.int 1), .val (.int (t0_54 p0_1)), .val (.int 1), .unset, .unset] [(.int (t0_54 p0_1))])) (fun _ k => XS.iload X63.here hx rfl (hb hby at_91) rfl k) ?_
    obtain ⟨_, _, ⟨T66, L66, k66, n66⟩, -, X66, ⟨Lc66, hQ66, l66, y66, z66⟩, st66⟩ := Jvm.LawKit.callS X63 hx (y := (⟨"com/example/junctura/junctura/model/ReadPart", "complement", "(C)C"⟩ : MethodName)) hown (mvT hZ ww1) (mvT hZ ww2) (mvT hZ ww3) (mvT hZ ww4) (by decide) (backOf (W := 0) (rm1 l Z a0 hw [] (t0_54 p0_1) h12 n0 (Nat.le_trans Z0 K12.1) ) hZ ww4 ww3 (by decide) (by decide)) (g := (mkF m 93 #[.val (.int p0_0), .val (.int p0_1), .val (.ref b5), .val (.int 3), .val (.int 1), .val (.int (t0_54 p0_1)), .val (.int 1), .unset, .unset] [(.int (t0_54 p0_1))])) rfl (by rw [hml]; rfl) (argsL := [(.int (t0_54 p0_1))]) (rest := []) (lenOf pd__C_C rfl) rfl (by show 2 * 0 + _ ≤ _; exact Nat.le_of_eq rfl) (hb hby at_93) (fun _ _ => ⟨rfl, eh63, (by decide : 1 + 0 ≤ _), (by decide : 4 + 0 ≤ _)⟩)
    dsimp only [Pt.U, Pt.locs, Pt.cells, Pt.slots] at X66 l66 y66 z66 st66 hQ66
    subst l66 y66 z66
    obtain ⟨rfl, N66q, eh66⟩ := hQ66
    have N66 := Fr.app N63 N66q
    refine own_s (g' := (mkF m 96 #[.val (.int p0_0), .val (.int p0_1), .val (.ref b5), .val (.int 3), .val (.int 1), .val (.int (t0_54 p0_1)), .val (.int 1), .unset, .unset] [(.int (r1 (t0_54 p0_1)))])) st66 ?_
    rw [show (r1 (t0_54 p0_1)) = (84 : Int32) from (if_pos c65)]
    refine own_s (g' := (mkF m 98 #[.val (.int p0_0), .val (.int p0_1), .val (.ref b5), .val (.int 3), .val (.int 1), .val (.int (t0_54 p0_1)), .val (.int 1), .val (.int 84), .unset] [])) (fun _ k => XS.istore X66.here hx rfl (hb hby at_96) rfl (l' := #[.val (.int p0_0), .val (.int p0_1), .val (.ref b5), .val (.int 3), .val (.int 1), .val (.int (t0_54 p0_1)), .val (.int 1), .val (.int 84), .unset]) rfl k) ?_
    refine own_s (g' := (mkF m 100 #[.val (.int p0_0), .val (.int p0_1), .val (.ref b5), .val (.int 3), .val (.int 1), .val (.int (t0_54 p0_1)), .val (.int 1), .val (.int 84), .unset] [(.int 1)])) (fun _ k => XS.iload X66.here hx rfl (hb hby at_98) rfl k) ?_
    refine own_s (g' := (mkF m 103 #[.val (.int p0_0), .val (.int p0_1), .val (.ref b5), .val (.int 3), .val (.int 1), .val (.int (t0_54 p0_1)), .val (.int 1), .val (.int 84), .unset] [])) (fun _ k => XS.ifNo X66.here hx rfl (hb hby at_100) rfl ((if0 _ _).trans (feq ((by decide) : ¬ (1 : Int32) = (0 : Int32))).1) k) ?_
    refine own_s (g' := (mkF m 105 #[.val (.int p0_0), .val (.int p0_1), .val (.ref b5), .val (.int 3), .val (.int 1), .val (.int (t0_54 p0_1)), .val (.int 1), .val (.int 84), .unset] [(.int 84)])) (fun _ k => XS.iload X66.here hx rfl (hb hby at_103) rfl k) ?_
    obtain ⟨_, _, ⟨T67, L67, k67, n67⟩, -, X67, ⟨Lc67, hQ67, l67, y67, z67⟩, st67⟩ := Jvm.LawKit.callS X66 hx (y := (⟨"com/example/junctura/junctura/model/ReadPart", "complement", "(C)C"⟩ : MethodName)) hown (mvT hZ ww1) (mvT hZ ww2) (mvT hZ ww3) (mvT hZ ww4) (by decide) (backOf (W := 0) (rm1 l Z a0 hw [] (84 : Int32) h12 n0 (Nat.le_trans Z0 K12.1) ) hZ ww4 ww3 (by decide) (by decide)) (g := (mkF m 105 #[.val (.int p0_0), .val (.int p0_1), .val (.ref b5), .val (.int 3), .val (.int 1), .val (.int (t0_54 p0_1)), .val (.int 1), .val (.int 84), .unset] [(.int 84)])) rfl (by rw [hml]; rfl) (argsL := [(.int 84)]) (rest := []) (lenOf pd__C_C rfl) rfl (by show 2 * 0 + _ ≤ _; exact Nat.le_of_eq rfl) (hb hby at_105) (fun _ _ => ⟨rfl, eh66, (by decide : 1 + 0 ≤ _), (by decide : 4 + 0 ≤ _)⟩)
    dsimp only [Pt.U, Pt.locs, Pt.cells, Pt.slots] at X67 l67 y67 z67 st67 hQ67
    subst l67 y67 z67
    obtain ⟨rfl, N67q, eh67⟩ := hQ67
    have N67 := Fr.app N66 N67q
    refine own_s (g' := (mkF m 108 #[.val (.int p0_0), .val (.int p0_1), .val (.ref b5), .val (.int 3), .val (.int 1), .val (.int (t0_54 p0_1)), .val (.int 1), .val (.int 84), .unset] [(.int (r1 (84 : Int32)))])) st67 ?_
    rw [show (r1 (84 : Int32)) = (65 : Int32) from ((if_neg ((by decide) : ¬ (84 : Int32) = (65 : Int32))).trans ((if_neg ((by decide) : ¬ (84 : Int32) = (67 : Int32))).trans ((if_neg ((by decide) : ¬ (84 : Int32) = (71 : Int32))).trans (if_pos ((by decide) : (84 : Int32) = (84 : Int32))))))]
    refine own_s (g' := (mkF m 110 #[.val (.int p0_0), .val (.int p0_1), .val (.ref b5), .val (.int 3), .val (.int 1), .val (.int (t0_54 p0_1)), .val (.int 1), .val (.int 84), .unset] [(.int (t0_54 p0_1)), (.int 65)])) (fun _ k => XS.iload X67.here hx rfl (hb hby at_108) rfl k) ?_
    refine own_s (g' := (mkF m 113 #[.val (.int p0_0), .val (.int p0_1), .val (.ref b5), .val (.int 3), .val (.int 1), .val (.int (t0_54 p0_1)), .val (.int 1), .val (.int 84), .unset] [])) (fun _ k => XS.icmpNo X67.here hx rfl (hb hby at_110) rfl (teq ((by rw [c65] <;> decide) : (65 : Int32) = (t0_54 p0_1))).2 k) ?_
    refine own_s (g' := (mkF m 115 #[.val (.int p0_0), .val (.int p0_1), .val (.ref b5), .val (.int 3), .val (.int 1), .val (.int (t0_54 p0_1)), .val (.int 1), .val (.int 84), .unset] [(.int 84)])) (fun _ k => XS.iload X67.here hx rfl (hb hby at_113) rfl k) ?_
    refine own_s (g' := (mkF m 117 #[.val (.int p0_0), .val (.int p0_1), .val (.ref b5), .val (.int 3), .val (.int 1), .val (.int (t0_54 p0_1)), .val (.int 1), .val (.int 84), .unset] [(.int (t0_54 p0_1)), (.int 84)])) (fun _ k => XS.iload X67.here hx rfl (hb hby at_115) rfl k) ?_
    refine own_s (g' := (mkF m 120 #[.val (.int p0_0), .val (.int p0_1), .val (.ref b5), .val (.int 3), .val (.int 1), .val (.int (t0_54 p0_1)), .val (.int 1), .val (.int 84), .unset] [])) (fun _ k => XS.icmpNo X67.here hx rfl (hb hby at_117) rfl (feq ((by rw [c65] <;> decide) : ¬ (84 : Int32) = (t0_54 p0_1))).1 k) ?_
    refine own_s (g' := (mkF m 121 #[.val (.int p0_0), .val (.int p0_1), .val (.ref b5), .val (.int 3), .val (.int 1), .val (.int (t0_54 p0_1)), .val (.int 1), .val (.int 84), .unset] [(.int 1)])) (fun _ k => XS.iconst X67.here hx rfl (hb hby at_120) k) ?_
    refine own_s (g' := (mkF m 125 #[.val (.int p0_0), .val (.int p0_1), .val (.ref b5), .val (.int 3), .val (.int 1), .val (.int (t0_54 p0_1)), .val (.int 1), .val (.int 84), .unset] [(.int 1)])) (fun _ k => XS.goto X67.here hx rfl (pc0 := 121) (pc' := 125) rfl (hb hby at_121) (by decide) (by decide) k) ?_
    refine own_s (g' := (mkF m 127 #[.val (.int p0_0), .val (.int p0_1), .val (.ref b5), .val (.int 3), .val (.int 1), .val (.int (t0_54 p0_1)), .val (.int 1), .val (.int 84), .val (.int 1)] [])) (fun _ k => XS.istore X67.here hx rfl (hb hby at_125) rfl (l' := #[.val (.int p0_0), .val (.int p0_1), .val (.ref b5), .val (.int 3), .val (.int 1), .val (.int (t0_54 p0_1)), .val (.int 1), .val (.int 84), .val (.int 1)]) rfl k) ?_
    refine own_s (g' := (mkF m 144 #[.val (.int p0_0), .val (.int p0_1), .val (.ref b5), .val (.int 3), .val (.int 1), .val (.int (t0_54 p0_1)), .val (.int 1), .val (.int 84), .val (.int 1)] [])) (fun _ k => XS.goto X67.here hx rfl (pc0 := 127) (pc' := 144) rfl (hb hby at_127) (by decide) (by decide) k) ?_
    refine own_s (g' := (mkF m 146 #[.val (.int p0_0), .val (.int p0_1), .val (.ref b5), .val (.int 3), .val (.int 1), .val (.int (t0_54 p0_1)), .val (.int 1), .val (.int 84), .val (.int 1)] [(.int 1)])) (fun _ k => XS.iload X67.here hx rfl (hb hby at_144) rfl k) ?_
    refine own_s (g' := (mkF m 149 #[.val (.int p0_0), .val (.int p0_1), .val (.ref b5), .val (.int 3), .val (.int 1), .val (.int (t0_54 p0_1)), .val (.int 1), .val (.int 84), .val (.int 1)] [])) (fun _ k => XS.ifNo X67.here hx rfl (hb hby at_146) rfl ((if0 _ _).trans (feq ((by decide) : ¬ (1 : Int32) = (0 : Int32))).1) k) ?_
    refine own_s (g' := (mkF m 151 #[.val (.int p0_0), .val (.int p0_1), .val (.ref b5), .val (.int 3), .val (.int 1), .val (.int (t0_54 p0_1)), .val (.int 1), .val (.int 84), .val (.int 1)] [(.int 1)])) (fun _ k => XS.iload X67.here hx rfl (hb hby at_149) rfl k) ?_
    refine own_s (g' := (mkF m 154 #[.val (.int p0_0), .val (.int p0_1), .val (.ref b5), .val (.int 3), .val (.int 1), .val (.int (t0_54 p0_1)), .val (.int 1), .val (.int 84), .val (.int 1)] [])) (fun _ k => XS.ifNo X67.here hx rfl (hb hby at_151) rfl ((if0 _ _).trans (feq ((by decide) : ¬ (1 : Int32) = (0 : Int32))).1) k) ?_
    refine own_s (g' := (mkF m 155 #[.val (.int p0_0), .val (.int p0_1), .val (.ref b5), .val (.int 3), .val (.int 1), .val (.int (t0_54 p0_1)), .val (.int 1), .val (.int 84), .val (.int 1)] [(.int 1)])) (fun _ k => XS.iconst X67.here hx rfl (hb hby at_154) k) ?_
    refine own_s (g' := (mkF m 159 #[.val (.int p0_0), .val (.int p0_1), .val (.ref b5), .val (.int 3), .val (.int 1), .val (.int (t0_54 p0_1)), .val (.int 1), .val (.int 84), .val (.int 1)] [(.int 1)])) (fun _ k => XS.goto X67.here hx rfl (pc0 := 155) (pc' := 159) rfl (hb hby at_155) (by decide) (by decide) k) ?_
    refine own_retN X67 hx hlk (t := .boolean) hret (by simp) (hb hby at_159) (z' := (1 : Int32)) (by decide) (by decide) (by decide) ?_
    show Q0 Z p0_0 p0_1 h0 n0 _ T67.heap _
    rw [eh67]
    exact ⟨rfl, N67⟩
   ·skip
    refine own_s (g' := (mkF m 63 #[.val (.int p0_0), .val (.int p0_1), .val (.ref b5), .val (.int 3), .val (.int 1), .val (.int (t0_54 p0_1)), .unset, .unset, .unset] [])) (fun _ k => XS.icmpNo X63.here hx rfl (hb hby at_60) rfl (feq c65).1 k) ?_
    refine own_s (g' := (mkF m 65 #[.val (.int p0_0), .val (.int p0_1), .val (.ref b5), .val (.int 3), .val (.int 1), .val (.int (t0_54 p0_1)), .unset, .unset, .unset] [(.int (t0_54 p0_1))])) (fun _ k => XS.iload X63.here hx rfl (hb hby at_63) rfl k) ?_
    refine own_s (g' := (mkF m 67 #[.val (.int p0_0), .val (.int p0_1), .val (.ref b5), .val (.int 3), .val (.int 1), .val (.int (t0_54 p0_1)), .unset, .unset, .unset] [(.int 67), (.int (t0_54 p0_1))])) (fun _ k => XS.bipush X63.here hx rfl (hb hby at_65) k) ?_
    by_cases c68 : (t0_54 p0_1) = (67 : Int32)
    ·skip
     refine own_s (g' := (mkF m 84 #[.val (.int p0_0), .val (.int p0_1), .val (.ref b5), .val (.int 3), .val (.int 1), .val (.int (t0_54 p0_1)), .unset, .unset, .unset] [])) (fun _ k => XS.icmpYes X63.here hx rfl (pc0 := 67) (pc' := 84) rfl (hb hby at_67) rfl (teq c68).1 (by decide) (by decide) k) ?_
     refine own_s (g' := (mkF m 85 #[.val (.int p0_0), .val (.int p0_1), .val (.ref b5), .val (.int 3), .val (.int 1), .val (.int (t0_54 p0_1)), .unset, .unset, .unset] [(.int 1)])) (fun _ k => XS.iconst X63.here hx rfl (hb hby at_84) k) ?_
     refine own_s (g' := (mkF m 89 #[.val (.int p0_0), .val (.int p0_1), .val (.ref b5), .val (.int 3), .val (.int 1), .val (.int (t0_54 p0_1)), .unset, .unset, .unset] [(.int 1)])) (fun _ k => XS.goto X63.here hx rfl (pc0 := 85) (pc' := 89) rfl (hb hby at_85) (by decide) (by decide) k) ?_
     refine own_s (g' := (mkF m 91 #[.val (.int p0_0), .val (.int p0_1), .val (.ref b5), .val (.int 3), .val (.int 1), .val (.int (t0_54 p0_1)), .val (.int 1), .unset, .unset] [])) (fun _ k => XS.istore X63.here hx rfl (hb hby at_89) rfl (l' := #[.val (.int p0_0), .val (.int p0_1), .val (.ref b5), .val (.int 3), .val (.int 1), .val (.int (t0_54 p0_1)), .val (.int 1), .unset, .unset]) rfl k) ?_
     refine own_s (g' := (mkF m 93 #[.val (.int p0_0), .val (.int p0_1), .val (.ref b5), .val (.int 3), .val (.int 1), .val (.int (t0_54 p0_1)), .val (.int 1), .unset, .unset] [(.int (t0_54 p0_1))])) (fun _ k => XS.iload X63.here hx rfl (hb hby at_91) rfl k) ?_
     obtain ⟨_, _, ⟨T69, L69, k69, n69⟩, -, X69, ⟨Lc69, hQ69, l69, y69, z69⟩, st69⟩ := Jvm.LawKit.callS X63 hx (y := (⟨"com/example/junctura/junctura/model/ReadPart", "complement", "(C)C"⟩ : MethodName)) hown (mvT hZ ww1) (mvT hZ ww2) (mvT hZ ww3) (mvT hZ ww4) (by decide) (backOf (W := 0) (rm1 l Z a0 hw [] (t0_54 p0_1) h12 n0 (Nat.le_trans Z0 K12.1) ) hZ ww4 ww3 (by decide) (by decide)) (g := (mkF m 93 #[.val (.int p0_0), .val (.int p0_1), .val (.ref b5), .val (.int 3), .val (.int 1), .val (.int (t0_54 p0_1)), .val (.int 1), .unset, .unset] [(.int (t0_54 p0_1))])) rfl (by rw [hml]; rfl) (argsL := [(.int (t0_54 p0_1))]) (rest := []) (lenOf pd__C_C rfl) rfl (by show 2 * 0 + _ ≤ _; exact Nat.le_of_eq rfl) (hb hby at_93) (fun _ _ => ⟨rfl, eh63, (by decide : 1 + 0 ≤ _), (by decide : 4 + 0 ≤ _)⟩)
     dsimp only [Pt.U, Pt.locs, Pt.cells, Pt.slots] at X69 l69 y69 z69 st69 hQ69
     subst l69 y69 z69
     obtain ⟨rfl, N69q, eh69⟩ := hQ69
     have N69 := Fr.app N63 N69q
     refine own_s (g' := (mkF m 96 #[.val (.int p0_0), .val (.int p0_1), .val (.ref b5), .val (.int 3), .val (.int 1), .val (.int (t0_54 p0_1)), .val (.int 1), .unset, .unset] [(.int (r1 (t0_54 p0_1)))])) st69 ?_
     rw [show (r1 (t0_54 p0_1)) = (71 : Int32) from ((if_neg c65).trans (if_pos c68))]
     refine own_s (g' := (mkF m 98 #[.val (.int p0_0), .val (.int p0_1), .val (.ref b5), .val (.int 3), .val (.int 1), .val (.int (t0_54 p0_1)), .val (.int 1), .val (.int 71), .unset] [])) (fun _ k => XS.istore X69.here hx rfl (hb hby at_96) rfl (l' := #[.val (.int p0_0), .val (.int p0_1), .val (.ref b5), .val (.int 3), .val (.int 1), .val (.int (t0_54 p0_1)), .val (.int 1), .val (.int 71), .unset]) rfl k) ?_
     refine own_s (g' := (mkF m 100 #[.val (.int p0_0), .val (.int p0_1), .val (.ref b5), .val (.int 3), .val (.int 1), .val (.int (t0_54 p0_1)), .val (.int 1), .val (.int 71), .unset] [(.int 1)])) (fun _ k => XS.iload X69.here hx rfl (hb hby at_98) rfl k) ?_
     refine own_s (g' := (mkF m 103 #[.val (.int p0_0), .val (.int p0_1), .val (.ref b5), .val (.int 3), .val (.int 1), .val (.int (t0_54 p0_1)), .val (.int 1), .val (.int 71), .unset] [])) (fun _ k => XS.ifNo X69.here hx rfl (hb hby at_100) rfl ((if0 _ _).trans (feq ((by decide) : ¬ (1 : Int32) = (0 : Int32))).1) k) ?_
     refine own_s (g' := (mkF m 105 #[.val (.int p0_0), .val (.int p0_1), .val (.ref b5), .val (.int 3), .val (.int 1), .val (.int (t0_54 p0_1)), .val (.int 1), .val (.int 71), .unset] [(.int 71)])) (fun _ k => XS.iload X69.here hx rfl (hb hby at_103) rfl k) ?_
     obtain ⟨_, _, ⟨T70, L70, k70, n70⟩, -, X70, ⟨Lc70, hQ70, l70, y70, z70⟩, st70⟩ := Jvm.LawKit.callS X69 hx (y := (⟨"com/example/junctura/junctura/model/ReadPart", "complement", "(C)C"⟩ : MethodName)) hown (mvT hZ ww1) (mvT hZ ww2) (mvT hZ ww3) (mvT hZ ww4) (by decide) (backOf (W := 0) (rm1 l Z a0 hw [] (71 : Int32) h12 n0 (Nat.le_trans Z0 K12.1) ) hZ ww4 ww3 (by decide) (by decide)) (g := (mkF m 105 #[.val (.int p0_0), .val (.int p0_1), .val (.ref b5), .val (.int 3), .val (.int 1), .val (.int (t0_54 p0_1)), .val (.int 1), .val (.int 71), .unset] [(.int 71)])) rfl (by rw [hml]; rfl) (argsL := [(.int 71)]) (rest := []) (lenOf pd__C_C rfl) rfl (by show 2 * 0 + _ ≤ _; exact Nat.le_of_eq rfl) (hb hby at_105) (fun _ _ => ⟨rfl, eh69, (by decide : 1 + 0 ≤ _), (by decide : 4 + 0 ≤ _)⟩)
     dsimp only [Pt.U, Pt.locs, Pt.cells, Pt.slots] at X70 l70 y70 z70 st70 hQ70
     subst l70 y70 z70
     obtain ⟨rfl, N70q, eh70⟩ := hQ70
     have N70 := Fr.app N69 N70q
     refine own_s (g' := (mkF m 108 #[.val (.int p0_0), .val (.int p0_1), .val (.ref b5), .val (.int 3), .val (.int 1), .val (.int (t0_54 p0_1)), .val (.int 1), .val (.int 71), .unset] [(.int (r1 (71 : Int32)))])) st70 ?_
     rw [show (r1 (71 : Int32)) = (67 : Int32) from ((if_neg ((by decide) : ¬ (71 : Int32) = (65 : Int32))).trans ((if_neg ((by decide) : ¬ (71 : Int32) = (67 : Int32))).trans (if_pos ((by decide) : (71 : Int32) = (71 : Int32)))))]
     refine own_s (g' := (mkF m 110 #[.val (.int p0_0), .val (.int p0_1), .val (.ref b5), .val (.int 3), .val (.int 1), .val (.int (t0_54 p0_1)), .val (.int 1), .val (.int 71), .unset] [(.int (t0_54 p0_1)), (.int 67)])) (fun _ k => XS.iload X70.here hx rfl (hb hby at_108) rfl k) ?_
     refine own_s (g' := (mkF m 113 #[.val (.int p0_0), .val (.int p0_1), .val (.ref b5), .val (.int 3), .val (.int 1), .val (.int (t0_54 p0_1)), .val (.int 1), .val (.int 71), .unset] [])) (fun _ k => XS.icmpNo X70.here hx rfl (hb hby at_110) rfl (teq ((by rw [c68] <;> decide) : (67 : Int32) = (t0_54 p0_1))).2 k) ?_
     refine own_s (g' := (mkF m 115 #[.val (.int p0_0), .val (.int p0_1), .val (.ref b5), .val (.int 3), .val (.int 1), .val (.int (t0_54 p0_1)), .val (.int 1), .val (.int 71), .unset] [(.int 71)])) (fun _ k => XS.iload X70.here hx rfl (hb hby at_113) rfl k) ?_
     refine own_s (g' := (mkF m 117 #[.val (.int p0_0), .val (.int p0_1), .val (.ref b5), .val (.int 3), .val (.int 1), .val (.int (t0_54 p0_1)), .val (.int 1), .val (.int 71), .unset] [(.int (t0_54 p0_1)), (.int 71)])) (fun _ k => XS.iload X70.here hx rfl (hb hby at_115) rfl k) ?_
     refine own_s (g' := (mkF m 120 #[.val (.int p0_0), .val (.int p0_1), .val (.ref b5), .val (.int 3), .val (.int 1), .val (.int (t0_54 p0_1)), .val (.int 1), .val (.int 71), .unset] [])) (fun _ k => XS.icmpNo X70.here hx rfl (hb hby at_117) rfl (feq ((by rw [c68] <;> decide) : ¬ (71 : Int32) = (t0_54 p0_1))).1 k) ?_
     refine own_s (g' := (mkF m 121 #[.val (.int p0_0), .val (.int p0_1), .val (.ref b5), .val (.int 3), .val (.int 1), .val (.int (t0_54 p0_1)), .val (.int 1), .val (.int 71), .unset] [(.int 1)])) (fun _ k => XS.iconst X70.here hx rfl (hb hby at_120) k) ?_
     refine own_s (g' := (mkF m 125 #[.val (.int p0_0), .val (.int p0_1), .val (.ref b5), .val (.int 3), .val (.int 1), .val (.int (t0_54 p0_1)), .val (.int 1), .val (.int 71), .unset] [(.int 1)])) (fun _ k => XS.goto X70.here hx rfl (pc0 := 121) (pc' := 125) rfl (hb hby at_121) (by decide) (by decide) k) ?_
     refine own_s (g' := (mkF m 127 #[.val (.int p0_0), .val (.int p0_1), .val (.ref b5), .val (.int 3), .val (.int 1), .val (.int (t0_54 p0_1)), .val (.int 1), .val (.int 71), .val (.int 1)] [])) (fun _ k => XS.istore X70.here hx rfl (hb hby at_125) rfl (l' := #[.val (.int p0_0), .val (.int p0_1), .val (.ref b5), .val (.int 3), .val (.int 1), .val (.int (t0_54 p0_1)), .val (.int 1), .val (.int 71), .val (.int 1)]) rfl k) ?_
     refine own_s (g' := (mkF m 144 #[.val (.int p0_0), .val (.int p0_1), .val (.ref b5), .val (.int 3), .val (.int 1), .val (.int (t0_54 p0_1)), .val (.int 1), .val (.int 71), .val (.int 1)] [])) (fun _ k => XS.goto X70.here hx rfl (pc0 := 127) (pc' := 144) rfl (hb hby at_127) (by decide) (by decide) k) ?_
     refine own_s (g' := (mkF m 146 #[.val (.int p0_0), .val (.int p0_1), .val (.ref b5), .val (.int 3), .val (.int 1), .val (.int (t0_54 p0_1)), .val (.int 1), .val (.int 71), .val (.int 1)] [(.int 1)])) (fun _ k => XS.iload X70.here hx rfl (hb hby at_144) rfl k) ?_
     refine own_s (g' := (mkF m 149 #[.val (.int p0_0), .val (.int p0_1), .val (.ref b5), .val (.int 3), .val (.int 1), .val (.int (t0_54 p0_1)), .val (.int 1), .val (.int 71), .val (.int 1)] [])) (fun _ k => XS.ifNo X70.here hx rfl (hb hby at_146) rfl ((if0 _ _).trans (feq ((by decide) : ¬ (1 : Int32) = (0 : Int32))).1) k) ?_
     refine own_s (g' := (mkF m 151 #[.val (.int p0_0), .val (.int p0_1), .val (.ref b5), .val (.int 3), .val (.int 1), .val (.int (t0_54 p0_1)), .val (.int 1), .val (.int 71), .val (.int 1)] [(.int 1)])) (fun _ k => XS.iload X70.here hx rfl (hb hby at_149) rfl k) ?_
     refine own_s (g' := (mkF m 154 #[.val (.int p0_0), .val (.int p0_1), .val (.ref b5), .val (.int 3), .val (.int 1), .val (.int (t0_54 p0_1)), .val (.int 1), .val (.int 71), .val (.int 1)] [])) (fun _ k => XS.ifNo X70.here hx rfl (hb hby at_151) rfl ((if0 _ _).trans (feq ((by decide) : ¬ (1 : Int32) = (0 : Int32))).1) k) ?_
     refine own_s (g' := (mkF m 155 #[.val (.int p0_0), .val (.int p0_1), .val (.ref b5), .val (.int 3), .val (.int 1), .val (.int (t0_54 p0_1)), .val (.int 1), .val (.int 71), .val (.int 1)] [(.int 1)])) (fun _ k => XS.iconst X70.here hx rfl (hb hby at_154) k) ?_
     refine own_s (g' := (mkF m 159 #[.val (.int p0_0), .val (.int p0_1), .val (.ref b5), .val (.int 3), .val (.int 1), .val (.int (t0_54 p0_1)), .val (.int 1), .val (.int 71), .val (.int 1)] [(.int 1)])) (fun _ k => XS.goto X70.here hx rfl (pc0 := 155) (pc' := 159) rfl (hb hby at_155) (by decide) (by decide) k) ?_
     refine own_retN X70 hx hlk (t := .boolean) hret (by simp) (hb hby at_159) (z' := (1 : Int32)) (by decide) (by decide) (by decide) ?_
     show Q0 Z p0_0 p0_1 h0 n0 _ T70.heap _
     rw [eh70]
     exact ⟨rfl, N70⟩
    ·skip
     refine own_s (g' := (mkF m 70 #[.val (.int p0_0), .val (.int p0_1), .val (.ref b5), .val (.int 3), .val (.int 1), .val (.int (t0_54 p0_1)), .unset, .unset, .unset] [])) (fun _ k => XS.icmpNo X63.here hx rfl (hb hby at_67) rfl (feq c68).1 k) ?_
     refine own_s (g' := (mkF m 72 #[.val (.int p0_0), .val (.int p0_1), .val (.ref b5), .val (.int 3), .val (.int 1), .val (.int (t0_54 p0_1)), .unset, .unset, .unset] [(.int (t0_54 p0_1))])) (fun _ k => XS.iload X63.here hx rfl (hb hby at_70) rfl k) ?_
     refine own_s (g' := (mkF m 74 #[.val (.int p0_0), .val (.int p0_1), .val (.ref b5), .val (.int 3), .val (.int 1), .val (.int (t0_54 p0_1)), .unset, .unset, .unset] [(.int 71), (.int (t0_54 p0_1))])) (fun _ k => XS.bipush X63.here hx rfl (hb hby at_72) k) ?_
     by_cases c71 : (t0_54 p0_1) = (71 : Int32)
     ·skip
      refine own_s (g' := (mkF m 84 #[.val (.int p0_0), .val (.int p0_1), .val (.ref b5), .val (.int 3), .val (.int 1), .val (.int (t0_54 p0_1)), .unset, .unset, .unset] [])) (fun _ k => XS.icmpYes X63.here hx rfl (pc0 := 74) (pc' := 84) rfl (hb hby at_74) rfl (teq c71).1 (by decide) (by decide) k) ?_
      refine own_s (g' := (mkF m 85 #[.val (.int p0_0), .val (.int p0_1), .val (.ref b5), .val (.int 3), .val (.int 1), .val (.int (t0_54 p0_1)), .unset, .unset, .unset] [(.int 1)])) (fun _ k => XS.iconst X63.here hx rfl (hb hby at_84) k) ?_
      refine own_s (g' := (mkF m 89 #[.val (.int p0_0), .val (.int p0_1), .val (.ref b5), .val (.int 3), .val (.int 1), .val (.int (t0_54 p0_1)), .unset, .unset, .unset] [(.int 1)])) (fun _ k => XS.goto X63.here hx rfl (pc0 := 85) (pc' := 89) rfl (hb hby at_85) (by decide) (by decide) k) ?_
      refine own_s (g' := (mkF m 91 #[.val (.int p0_0), .val (.int p0_1), .val (.ref b5), .val (.int 3), .val (.int 1), .val (.int (t0_54 p0_1)), .val (.int 1), .unset, .unset] [])) (fun _ k => XS.istore X63.here hx rfl (hb hby at_89) rfl (l' := #[.val (.int p0_0), .val (.int p0_1), .val (.ref b5), .val (.int 3), .val (.int 1), .val (.int (t0_54 p0_1)), .val (.int 1), .unset, .unset]) rfl k) ?_
      refine own_s (g' := (mkF m 93 #[.val (.int p0_0), .val (.int p0_1), .val (.ref b5), .val (.int 3), .val (.int 1), .val (.int (t0_54 p0_1)), .val (.int 1), .unset, .unset] [(.int (t0_54 p0_1))])) (fun _ k => XS.iload X63.here hx rfl (hb hby at_91) rfl k) ?_
      obtain ⟨_, _, ⟨T72, L72, k72, n72⟩, -, X72, ⟨Lc72, hQ72, l72, y72, z72⟩, st72⟩ := Jvm.LawKit.callS X63 hx (y := (⟨"com/example/junctura/junctura/model/ReadPart", "complement", "(C)C"⟩ : MethodName)) hown (mvT hZ ww1) (mvT hZ ww2) (mvT hZ ww3) (mvT hZ ww4) (by decide) (backOf (W := 0) (rm1 l Z a0 hw [] (t0_54 p0_1) h12 n0 (Nat.le_trans Z0 K12.1) ) hZ ww4 ww3 (by decide) (by decide)) (g := (mkF m 93 #[.val (.int p0_0), .val (.int p0_1), .val (.ref b5), .val (.int 3), .val (.int 1), .val (.int (t0_54 p0_1)), .val (.int 1), .unset, .unset] [(.int (t0_54 p0_1))])) rfl (by rw [hml]; rfl) (argsL := [(.int (t0_54 p0_1))]) (rest := []) (lenOf pd__C_C rfl) rfl (by show 2 * 0 + _ ≤ _; exact Nat.le_of_eq rfl) (hb hby at_93) (fun _ _ => ⟨rfl, eh63, (by decide : 1 + 0 ≤ _), (by decide : 4 + 0 ≤ _)⟩)
      dsimp only [Pt.U, Pt.locs, Pt.cells, Pt.slots] at X72 l72 y72 z72 st72 hQ72
      subst l72 y72 z72
      obtain ⟨rfl, N72q, eh72⟩ := hQ72
      have N72 := Fr.app N63 N72q
      refine own_s (g' := (mkF m 96 #[.val (.int p0_0), .val (.int p0_1), .val (.ref b5), .val (.int 3), .val (.int 1), .val (.int (t0_54 p0_1)), .val (.int 1), .unset, .unset] [(.int (r1 (t0_54 p0_1)))])) st72 ?_
      rw [show (r1 (t0_54 p0_1)) = (67 : Int32) from ((if_neg c65).trans ((if_neg c68).trans (if_pos c71)))]
      refine own_s (g' := (mkF m 98 #[.val (.int p0_0), .val (.int p0_1), .val (.ref b5), .val (.int 3), .val (.int 1), .val (.int (t0_54 p0_1)), .val (.int 1), .val (.int 67), .unset] [])) (fun _ k => XS.istore X72.here hx rfl (hb hby at_96) rfl (l' := #[.val (.int p0_0), .val (.int p0_1), .val (.ref b5), .val (.int 3), .val (.int 1), .val (.int (t0_54 p0_1)), .val (.int 1), .val (.int 67), .unset]) rfl k) ?_
      refine own_s (g' := (mkF m 100 #[.val (.int p0_0), .val (.int p0_1), .val (.ref b5), .val (.int 3), .val (.int 1), .val (.int (t0_54 p0_1)), .val (.int 1), .val (.int 67), .unset] [(.int 1)])) (fun _ k => XS.iload X72.here hx rfl (hb hby at_98) rfl k) ?_
      refine own_s (g' := (mkF m 103 #[.val (.int p0_0), .val (.int p0_1), .val (.ref b5), .val (.int 3), .val (.int 1), .val (.int (t0_54 p0_1)), .val (.int 1), .val (.int 67), .unset] [])) (fun _ k => XS.ifNo X72.here hx rfl (hb hby at_100) rfl ((if0 _ _).trans (feq ((by decide) : ¬ (1 : Int32) = (0 : Int32))).1) k) ?_
      refine own_s (g' := (mkF m 105 #[.val (.int p0_0), .val (.int p0_1), .val (.ref b5), .val (.int 3), .val (.int 1), .val (.int (t0_54 p0_1)), .val (.int 1), .val (.int 67), .unset] [(.int 67)])) (fun _ k => XS.iload X72.here hx rfl (hb hby at_103) rfl k) ?_
      obtain ⟨_, _, ⟨T73, L73, k73, n73⟩, -, X73, ⟨Lc73, hQ73, l73, y73, z73⟩, st73⟩ := Jvm.LawKit.callS X72 hx (y := (⟨"com/example/junctura/junctura/model/ReadPart", "complement", "(C)C"⟩ : MethodName)) hown (mvT hZ ww1) (mvT hZ ww2) (mvT hZ ww3) (mvT hZ ww4) (by decide) (backOf (W := 0) (rm1 l Z a0 hw [] (67 : Int32) h12 n0 (Nat.le_trans Z0 K12.1) ) hZ ww4 ww3 (by decide) (by decide)) (g := (mkF m 105 #[.val (.int p0_0), .val (.int p0_1), .val (.ref b5), .val (.int 3), .val (.int 1), .val (.int (t0_54 p0_1)), .val (.int 1), .val (.int 67), .unset] [(.int 67)])) rfl (by rw [hml]; rfl) (argsL := [(.int 67)]) (rest := []) (lenOf pd__C_C rfl) rfl (by show 2 * 0 + _ ≤ _; exact Nat.le_of_eq rfl) (hb hby at_105) (fun _ _ => ⟨rfl, eh72, (by decide : 1 + 0 ≤ _), (by decide : 4 + 0 ≤ _)⟩)
      dsimp only [Pt.U, Pt.locs, Pt.cells, Pt.slots] at X73 l73 y73 z73 st73 hQ73
      subst l73 y73 z73
      obtain ⟨rfl, N73q, eh73⟩ := hQ73
      have N73 := Fr.app N72 N73q
      refine own_s (g' := (mkF m 108 #[.val (.int p0_0), .val (.int p0_1), .val (.ref b5), .val (.int 3), .val (.int 1), .val (.int (t0_54 p0_1)), .val (.int 1), .val (.int 67), .unset] [(.int (r1 (67 : Int32)))])) st73 ?_
      rw [show (r1 (67 : Int32)) = (71 : Int32) from ((if_neg ((by decide) : ¬ (67 : Int32) = (65 : Int32))).trans (if_pos ((by decide) : (67 : Int32) = (67 : Int32))))]
      refine own_s (g' := (mkF m 110 #[.val (.int p0_0), .val (.int p0_1), .val (.ref b5), .val (.int 3), .val (.int 1), .val (.int (t0_54 p0_1)), .val (.int 1), .val (.int 67), .unset] [(.int (t0_54 p0_1)), (.int 71)])) (fun _ k => XS.iload X73.here hx rfl (hb hby at_108) rfl k) ?_
      refine own_s (g' := (mkF m 113 #[.val (.int p0_0), .val (.int p0_1), .val (.ref b5), .val (.int 3), .val (.int 1), .val (.int (t0_54 p0_1)), .val (.int 1), .val (.int 67), .unset] [])) (fun _ k => XS.icmpNo X73.here hx rfl (hb hby at_110) rfl (teq ((by rw [c71] <;> decide) : (71 : Int32) = (t0_54 p0_1))).2 k) ?_
      refine own_s (g' := (mkF m 115 #[.val (.int p0_0), .val (.int p0_1), .val (.ref b5), .val (.int 3), .val (.int 1), .val (.int (t0_54 p0_1)), .val (.int 1), .val (.int 67), .unset] [(.int 67)])) (fun _ k => XS.iload X73.here hx rfl (hb hby at_113) rfl k) ?_
      refine own_s (g' := (mkF m 117 #[.val (.int p0_0), .val (.int p0_1), .val (.ref b5), .val (.int 3), .val (.int 1), .val (.int (t0_54 p0_1)), .val (.int 1), .val (.int 67), .unset] [(.int (t0_54 p0_1)), (.int 67)])) (fun _ k => XS.iload X73.here hx rfl (hb hby at_115) rfl k) ?_
      refine own_s (g' := (mkF m 120 #[.val (.int p0_0), .val (.int p0_1), .val (.ref b5), .val (.int 3), .val (.int 1), .val (.int (t0_54 p0_1)), .val (.int 1), .val (.int 67), .unset] [])) (fun _ k => XS.icmpNo X73.here hx rfl (hb hby at_117) rfl (feq ((by rw [c71] <;> decide) : ¬ (67 : Int32) = (t0_54 p0_1))).1 k) ?_
      refine own_s (g' := (mkF m 121 #[.val (.int p0_0), .val (.int p0_1), .val (.ref b5), .val (.int 3), .val (.int 1), .val (.int (t0_54 p0_1)), .val (.int 1), .val (.int 67), .unset] [(.int 1)])) (fun _ k => XS.iconst X73.here hx rfl (hb hby at_120) k) ?_
      refine own_s (g' := (mkF m 125 #[.val (.int p0_0), .val (.int p0_1), .val (.ref b5), .val (.int 3), .val (.int 1), .val (.int (t0_54 p0_1)), .val (.int 1), .val (.int 67), .unset] [(.int 1)])) (fun _ k => XS.goto X73.here hx rfl (pc0 := 121) (pc' := 125) rfl (hb hby at_121) (by decide) (by decide) k) ?_
      refine own_s (g' := (mkF m 127 #[.val (.int p0_0), .val (.int p0_1), .val (.ref b5), .val (.int 3), .val (.int 1), .val (.int (t0_54 p0_1)), .val (.int 1), .val (.int 67), .val (.int 1)] [])) (fun _ k => XS.istore X73.here hx rfl (hb hby at_125) rfl (l' := #[.val (.int p0_0), .val (.int p0_1), .val (.ref b5), .val (.int 3), .val (.int 1), .val (.int (t0_54 p0_1)), .val (.int 1), .val (.int 67), .val (.int 1)]) rfl k) ?_
      refine own_s (g' := (mkF m 144 #[.val (.int p0_0), .val (.int p0_1), .val (.ref b5), .val (.int 3), .val (.int 1), .val (.int (t0_54 p0_1)), .val (.int 1), .val (.int 67), .val (.int 1)] [])) (fun _ k => XS.goto X73.here hx rfl (pc0 := 127) (pc' := 144) rfl (hb hby at_127) (by decide) (by decide) k) ?_
      refine own_s (g' := (mkF m 146 #[.val (.int p0_0), .val (.int p0_1), .val (.ref b5), .val (.int 3), .val (.int 1), .val (.int (t0_54 p0_1)), .val (.int 1), .val (.int 67), .val (.int 1)] [(.int 1)])) (fun _ k => XS.iload X73.here hx rfl (hb hby at_144) rfl k) ?_
      refine own_s (g' := (mkF m 149 #[.val (.int p0_0), .val (.int p0_1), .val (.ref b5), .val (.int 3), .val (.int 1), .val (.int (t0_54 p0_1)), .val (.int 1), .val (.int 67), .val (.int 1)] [])) (fun _ k => XS.ifNo X73.here hx rfl (hb hby at_146) rfl ((if0 _ _).trans (feq ((by decide) : ¬ (1 : Int32) = (0 : Int32))).1) k) ?_
      refine own_s (g' := (mkF m 151 #[.val (.int p0_0), .val (.int p0_1), .val (.ref b5), .val (.int 3), .val (.int 1), .val (.int (t0_54 p0_1)), .val (.int 1), .val (.int 67), .val (.int 1)] [(.int 1)])) (fun _ k => XS.iload X73.here hx rfl (hb hby at_149) rfl k) ?_
      refine own_s (g' := (mkF m 154 #[.val (.int p0_0), .val (.int p0_1), .val (.ref b5), .val (.int 3), .val (.int 1), .val (.int (t0_54 p0_1)), .val (.int 1), .val (.int 67), .val (.int 1)] [])) (fun _ k => XS.ifNo X73.here hx rfl (hb hby at_151) rfl ((if0 _ _).trans (feq ((by decide) : ¬ (1 : Int32) = (0 : Int32))).1) k) ?_
      refine own_s (g' := (mkF m 155 #[.val (.int p0_0), .val (.int p0_1), .val (.ref b5), .val (.int 3), .val (.int 1), .val (.int (t0_54 p0_1)), .val (.int 1), .val (.int 67), .val (.int 1)] [(.int 1)])) (fun _ k => XS.iconst X73.here hx rfl (hb hby at_154) k) ?_
      refine own_s (g' := (mkF m 159 #[.val (.int p0_0), .val (.int p0_1), .val (.ref b5), .val (.int 3), .val (.int 1), .val (.int (t0_54 p0_1)), .val (.int 1), .val (.int 67), .val (.int 1)] [(.int 1)])) (fun _ k => XS.goto X73.here hx rfl (pc0 := 155) (pc' := 159) rfl (hb hby at_155) (by decide) (by decide) k) ?_
      refine own_retN X73 hx hlk (t := .boolean) hret (by simp) (hb hby at_159) (z' := (1 : Int32)) (by decide) (by decide) (by decide) ?_
      show Q0 Z p0_0 p0_1 h0 n0 _ T73.heap _
      rw [eh73]
      exact ⟨rfl, N73⟩
     ·skip
      refine own_s (g' := (mkF m 77 #[.val (.int p0_0), .val (.int p0_1), .val (.ref b5), .val (.int 3), .val (.int 1), .val (.int (t0_54 p0_1)), .unset, .unset, .unset] [])) (fun _ k => XS.icmpNo X63.here hx rfl (hb hby at_74) rfl (feq c71).1 k) ?_
      refine own_s (g' := (mkF m 79 #[.val (.int p0_0), .val (.int p0_1), .val (.ref b5), .val (.int 3), .val (.int 1), .val (.int (t0_54 p0_1)), .unset, .unset, .unset] [(.int (t0_54 p0_1))])) (fun _ k => XS.iload X63.here hx rfl (hb hby at_77) rfl k) ?_
      refine own_s (g' := (mkF m 81 #[.val (.int p0_0), .val (.int p0_1), .val (.ref b5), .val (.int 3), .val (.int 1), .val (.int (t0_54 p0_1)), .unset, .unset, .unset] [(.int 84), (.int (t0_54 p0_1))])) (fun _ k => XS.bipush X63.here hx rfl (hb hby at_79) k) ?_
      by_cases c74 : (t0_54 p0_1) = (84 : Int32)
      ·skip
       refine own_s (g' := (mkF m 84 #[.val (.int p0_0), .val (.int p0_1), .val (.ref b5), .val (.int 3), .val (.int 1), .val (.int (t0_54 p0_1)), .unset, .unset, .unset] [])) (fun _ k => XS.icmpNo X63.here hx rfl (hb hby at_81) rfl (teq c74).2 k) ?_
       refine own_s (g' := (mkF m 85 #[.val (.int p0_0), .val (.int p0_1), .val (.ref b5), .val (.int 3), .val (.int 1), .val (.int (t0_54 p0_1)), .unset, .unset, .unset] [(.int 1)])) (fun _ k => XS.iconst X63.here hx rfl (hb hby at_84) k) ?_
       refine own_s (g' := (mkF m 89 #[.val (.int p0_0), .val (.int p0_1), .val (.ref b5), .val (.int 3), .val (.int 1), .val (.int (t0_54 p0_1)), .unset, .unset, .unset] [(.int 1)])) (fun _ k => XS.goto X63.here hx rfl (pc0 := 85) (pc' := 89) rfl (hb hby at_85) (by decide) (by decide) k) ?_
       refine own_s (g' := (mkF m 91 #[.val (.int p0_0), .val (.int p0_1), .val (.ref b5), .val (.int 3), .val (.int 1), .val (.int (t0_54 p0_1)), .val (.int 1), .unset, .unset] [])) (fun _ k => XS.istore X63.here hx rfl (hb hby at_89) rfl (l' := #[.val (.int p0_0), .val (.int p0_1), .val (.ref b5), .val (.int 3), .val (.int 1), .val (.int (t0_54 p0_1)), .val (.int 1), .unset, .unset]) rfl k) ?_
       refine own_s (g' := (mkF m 93 #[.val (.int p0_0), .val (.int p0_1), .val (.ref b5), .val (.int 3), .val (.int 1), .val (.int (t0_54 p0_1)), .val (.int 1), .unset, .unset] [(.int (t0_54 p0_1))])) (fun _ k => XS.iload X63.here hx rfl (hb hby at_91) rfl k) ?_
       obtain ⟨_, _, ⟨T75, L75, k75, n75⟩, -, X75, ⟨Lc75, hQ75, l75, y75, z75⟩, st75⟩ := Jvm.LawKit.callS X63 hx (y := (⟨"com/example/junctura/junctura/model/ReadPart", "complement", "(C)C"⟩ : MethodName)) hown (mvT hZ ww1) (mvT hZ ww2) (mvT hZ ww3) (mvT hZ ww4) (by decide) (backOf (W := 0) (rm1 l Z a0 hw [] (t0_54 p0_1) h12 n0 (Nat.le_trans Z0 K12.1) ) hZ ww4 ww3 (by decide) (by decide)) (g := (mkF m 93 #[.val (.int p0_0), .val (.int p0_1), .val (.ref b5), .val (.int 3), .val (.int 1), .val (.int (t0_54 p0_1)), .val (.int 1), .unset, .unset] [(.int (t0_54 p0_1))])) rfl (by rw [hml]; rfl) (argsL := [(.int (t0_54 p0_1))]) (rest := []) (lenOf pd__C_C rfl) rfl (by show 2 * 0 + _ ≤ _; exact Nat.le_of_eq rfl) (hb hby at_93) (fun _ _ => ⟨rfl, eh63, (by decide : 1 + 0 ≤ _), (by decide : 4 + 0 ≤ _)⟩)
       dsimp only [Pt.U, Pt.locs, Pt.cells, Pt.slots] at X75 l75 y75 z75 st75 hQ75
       subst l75 y75 z75
       obtain ⟨rfl, N75q, eh75⟩ := hQ75
       have N75 := Fr.app N63 N75q
       refine own_s (g' := (mkF m 96 #[.val (.int p0_0), .val (.int p0_1), .val (.ref b5), .val (.int 3), .val (.int 1), .val (.int (t0_54 p0_1)), .val (.int 1), .unset, .unset] [(.int (r1 (t0_54 p0_1)))])) st75 ?_
       rw [show (r1 (t0_54 p0_1)) = (65 : Int32) from ((if_neg c65).trans ((if_neg c68).trans ((if_neg c71).trans (if_pos c74))))]
       refine own_s (g' := (mkF m 98 #[.val (.int p0_0), .val (.int p0_1), .val (.ref b5), .val (.int 3), .val (.int 1), .val (.int (t0_54 p0_1)), .val (.int 1), .val (.int 65), .unset] [])) (fun _ k => XS.istore X75.here hx rfl (hb hby at_96) rfl (l' := #[.val (.int p0_0), .val (.int p0_1), .val (.ref b5), .val (.int 3), .val (.int 1), .val (.int (t0_54 p0_1)), .val (.int 1), .val (.int 65), .unset]) rfl k) ?_
       refine own_s (g' := (mkF m 100 #[.val (.int p0_0), .val (.int p0_1), .val (.ref b5), .val (.int 3), .val (.int 1), .val (.int (t0_54 p0_1)), .val (.int 1), .val (.int 65), .unset] [(.int 1)])) (fun _ k => XS.iload X75.here hx rfl (hb hby at_98) rfl k) ?_
       refine own_s (g' := (mkF m 103 #[.val (.int p0_0), .val (.int p0_1), .val (.ref b5), .val (.int 3), .val (.int 1), .val (.int (t0_54 p0_1)), .val (.int 1), .val (.int 65), .unset] [])) (fun _ k => XS.ifNo X75.here hx rfl (hb hby at_100) rfl ((if0 _ _).trans (feq ((by decide) : ¬ (1 : Int32) = (0 : Int32))).1) k) ?_
       refine own_s (g' := (mkF m 105 #[.val (.int p0_0), .val (.int p0_1), .val (.ref b5), .val (.int 3), .val (.int 1), .val (.int (t0_54 p0_1)), .val (.int 1), .val (.int 65), .unset] [(.int 65)])) (fun _ k => XS.iload X75.here hx rfl (hb hby at_103) rfl k) ?_
       obtain ⟨_, _, ⟨T76, L76, k76, n76⟩, -, X76, ⟨Lc76, hQ76, l76, y76, z76⟩, st76⟩ := Jvm.LawKit.callS X75 hx (y := (⟨"com/example/junctura/junctura/model/ReadPart", "complement", "(C)C"⟩ : MethodName)) hown (mvT hZ ww1) (mvT hZ ww2) (mvT hZ ww3) (mvT hZ ww4) (by decide) (backOf (W := 0) (rm1 l Z a0 hw [] (65 : Int32) h12 n0 (Nat.le_trans Z0 K12.1) ) hZ ww4 ww3 (by decide) (by decide)) (g := (mkF m 105 #[.val (.int p0_0), .val (.int p0_1), .val (.ref b5), .val (.int 3), .val (.int 1), .val (.int (t0_54 p0_1)), .val (.int 1), .val (.int 65), .unset] [(.int 65)])) rfl (by rw [hml]; rfl) (argsL := [(.int 65)]) (rest := []) (lenOf pd__C_C rfl) rfl (by show 2 * 0 + _ ≤ _; exact Nat.le_of_eq rfl) (hb hby at_105) (fun _ _ => ⟨rfl, eh75, (by decide : 1 + 0 ≤ _), (by decide : 4 + 0 ≤ _)⟩)
       dsimp only [Pt.U, Pt.locs, Pt.cells, Pt.slots] at X76 l76 y76 z76 st76 hQ76
       subst l76 y76 z76
       obtain ⟨rfl, N76q, eh76⟩ := hQ76
       have N76 := Fr.app N75 N76q
       refine own_s (g' := (mkF m 108 #[.val (.int p0_0), .val (.int p0_1), .val (.ref b5), .val (.int 3), .val (.int 1), .val (.int (t0_54 p0_1)), .val (.int 1), .val (.int 65), .unset] [(.int (r1 (65 : Int32)))])) st76 ?_
       rw [show (r1 (65 : Int32)) = (84 : Int32) from (if_pos ((by decide) : (65 : Int32) = (65 : Int32)))]
       refine own_s (g' := (mkF m 110 #[.val (.int p0_0), .val (.int p0_1), .val (.ref b5), .val (.int 3), .val (.int 1), .val (.int (t0_54 p0_1)), .val (.int 1), .val (.int 65), .unset] [(.int (t0_54 p0_1)), (.int 84)])) (fun _ k => XS.iload X76.here hx rfl (hb hby at_108) rfl k) ?_
       refine own_s (g' := (mkF m 113 #[.val (.int p0_0), .val (.int p0_1), .val (.ref b5), .val (.int 3), .val (.int 1), .val (.int (t0_54 p0_1)), .val (.int 1), .val (.int 65), .unset] [])) (fun _ k => XS.icmpNo X76.here hx rfl (hb hby at_110) rfl (teq ((by rw [c74] <;> decide) : (84 : Int32) = (t0_54 p0_1))).2 k) ?_
       refine own_s (g' := (mkF m 115 #[.val (.int p0_0), .val (.int p0_1), .val (.ref b5), .val (.int 3), .val (.int 1), .val (.int (t0_54 p0_1)), .val (.int 1), .val (.int 65), .unset] [(.int 65)])) (fun _ k => XS.iload X76.here hx rfl (hb hby at_113) rfl k) ?_
       refine own_s (g' := (mkF m 117 #[.val (.int p0_0), .val (.int p0_1), .val (.ref b5), .val (.int 3), .val (.int 1), .val (.int (t0_54 p0_1)), .val (.int 1), .val (.int 65), .unset] [(.int (t0_54 p0_1)), (.int 65)])) (fun _ k => XS.iload X76.here hx rfl (hb hby at_115) rfl k) ?_
       refine own_s (g' := (mkF m 120 #[.val (.int p0_0), .val (.int p0_1), .val (.ref b5), .val (.int 3), .val (.int 1), .val (.int (t0_54 p0_1)), .val (.int 1), .val (.int 65), .unset] [])) (fun _ k => XS.icmpNo X76.here hx rfl (hb hby at_117) rfl (feq ((by rw [c74] <;> decide) : ¬ (65 : Int32) = (t0_54 p0_1))).1 k) ?_
       refine own_s (g' := (mkF m 121 #[.val (.int p0_0), .val (.int p0_1), .val (.ref b5), .val (.int 3), .val (.int 1), .val (.int (t0_54 p0_1)), .val (.int 1), .val (.int 65), .unset] [(.int 1)])) (fun _ k => XS.iconst X76.here hx rfl (hb hby at_120) k) ?_
       refine own_s (g' := (mkF m 125 #[.val (.int p0_0), .val (.int p0_1), .val (.ref b5), .val (.int 3), .val (.int 1), .val (.int (t0_54 p0_1)), .val (.int 1), .val (.int 65), .unset] [(.int 1)])) (fun _ k => XS.goto X76.here hx rfl (pc0 := 121) (pc' := 125) rfl (hb hby at_121) (by decide) (by decide) k) ?_
       refine own_s (g' := (mkF m 127 #[.val (.int p0_0), .val (.int p0_1), .val (.ref b5), .val (.int 3), .val (.int 1), .val (.int (t0_54 p0_1)), .val (.int 1), .val (.int 65), .val (.int 1)] [])) (fun _ k => XS.istore X76.here hx rfl (hb hby at_125) rfl (l' := #[.val (.int p0_0), .val (.int p0_1), .val (.ref b5), .val (.int 3), .val (.int 1), .val (.int (t0_54 p0_1)), .val (.int 1), .val (.int 65), .val (.int 1)]) rfl k) ?_
       refine own_s (g' := (mkF m 144 #[.val (.int p0_0), .val (.int p0_1), .val (.ref b5), .val (.int 3), .val (.int 1), .val (.int (t0_54 p0_1)), .val (.int 1), .val (.int 65), .val (.int 1)] [])) (fun _ k => XS.goto X76.here hx rfl (pc0 := 127) (pc' := 144) rfl (hb hby at_127) (by decide) (by decide) k) ?_
       refine own_s (g' := (mkF m 146 #[.val (.int p0_0), .val (.int p0_1), .val (.ref b5), .val (.int 3), .val (.int 1), .val (.int (t0_54 p0_1)), .val (.int 1), .val (.int 65), .val (.int 1)] [(.int 1)])) (fun _ k => XS.iload X76.here hx rfl (hb hby at_144) rfl k) ?_
       refine own_s (g' := (mkF m 149 #[.val (.int p0_0), .val (.int p0_1), .val (.ref b5), .val (.int 3), .val (.int 1), .val (.int (t0_54 p0_1)), .val (.int 1), .val (.int 65), .val (.int 1)] [])) (fun _ k => XS.ifNo X76.here hx rfl (hb hby at_146) rfl ((if0 _ _).trans (feq ((by decide) : ¬ (1 : Int32) = (0 : Int32))).1) k) ?_
       refine own_s (g' := (mkF m 151 #[.val (.int p0_0), .val (.int p0_1), .val (.ref b5), .val (.int 3), .val (.int 1), .val (.int (t0_54 p0_1)), .val (.int 1), .val (.int 65), .val (.int 1)] [(.int 1)])) (fun _ k => XS.iload X76.here hx rfl (hb hby at_149) rfl k) ?_
       refine own_s (g' := (mkF m 154 #[.val (.int p0_0), .val (.int p0_1), .val (.ref b5), .val (.int 3), .val (.int 1), .val (.int (t0_54 p0_1)), .val (.int 1), .val (.int 65), .val (.int 1)] [])) (fun _ k => XS.ifNo X76.here hx rfl (hb hby at_151) rfl ((if0 _ _).trans (feq ((by decide) : ¬ (1 : Int32) = (0 : Int32))).1) k) ?_
       refine own_s (g' := (mkF m 155 #[.val (.int p0_0), .val (.int p0_1), .val (.ref b5), .val (.int 3), .val (.int 1), .val (.int (t0_54 p0_1)), .val (.int 1), .val (.int 65), .val (.int 1)] [(.int 1)])) (fun _ k => XS.iconst X76.here hx rfl (hb hby at_154) k) ?_
       refine own_s (g' := (mkF m 159 #[.val (.int p0_0), .val (.int p0_1), .val (.ref b5), .val (.int 3), .val (.int 1), .val (.int (t0_54 p0_1)), .val (.int 1), .val (.int 65), .val (.int 1)] [(.int 1)])) (fun _ k => XS.goto X76.here hx rfl (pc0 := 155) (pc' := 159) rfl (hb hby at_155) (by decide) (by decide) k) ?_
       refine own_retN X76 hx hlk (t := .boolean) hret (by simp) (hb hby at_159) (z' := (1 : Int32)) (by decide) (by decide) (by decide) ?_
       show Q0 Z p0_0 p0_1 h0 n0 _ T76.heap _
       rw [eh76]
       exact ⟨rfl, N76⟩
      ·skip
       refine own_s (g' := (mkF m 88 #[.val (.int p0_0), .val (.int p0_1), .val (.ref b5), .val (.int 3), .val (.int 1), .val (.int (t0_54 p0_1)), .unset, .unset, .unset] [])) (fun _ k => XS.icmpYes X63.here hx rfl (pc0 := 81) (pc' := 88) rfl (hb hby at_81) rfl (feq c74).2 (by decide) (by decide) k) ?_
       refine own_s (g' := (mkF m 89 #[.val (.int p0_0), .val (.int p0_1), .val (.ref b5), .val (.int 3), .val (.int 1), .val (.int (t0_54 p0_1)), .unset, .unset, .unset] [(.int 0)])) (fun _ k => XS.iconst X63.here hx rfl (hb hby at_88) k) ?_
       refine own_s (g' := (mkF m 91 #[.val (.int p0_0), .val (.int p0_1), .val (.ref b5), .val (.int 3), .val (.int 1), .val (.int (t0_54 p0_1)), .val (.int 0), .unset, .unset] [])) (fun _ k => XS.istore X63.here hx rfl (hb hby at_89) rfl (l' := #[.val (.int p0_0), .val (.int p0_1), .val (.ref b5), .val (.int 3), .val (.int 1), .val (.int (t0_54 p0_1)), .val (.int 0), .unset, .unset]) rfl k) ?_
       refine own_s (g' := (mkF m 93 #[.val (.int p0_0), .val (.int p0_1), .val (.ref b5), .val (.int 3), .val (.int 1), .val (.int (t0_54 p0_1)), .val (.int 0), .unset, .unset] [(.int (t0_54 p0_1))])) (fun _ k => XS.iload X63.here hx rfl (hb hby at_91) rfl k) ?_
       obtain ⟨_, _, ⟨T77, L77, k77, n77⟩, -, X77, ⟨Lc77, hQ77, l77, y77, z77⟩, st77⟩ := Jvm.LawKit.callS X63 hx (y := (⟨"com/example/junctura/junctura/model/ReadPart", "complement", "(C)C"⟩ : MethodName)) hown (mvT hZ ww1) (mvT hZ ww2) (mvT hZ ww3) (mvT hZ ww4) (by decide) (backOf (W := 0) (rm1 l Z a0 hw [] (t0_54 p0_1) h12 n0 (Nat.le_trans Z0 K12.1) ) hZ ww4 ww3 (by decide) (by decide)) (g := (mkF m 93 #[.val (.int p0_0), .val (.int p0_1), .val (.ref b5), .val (.int 3), .val (.int 1), .val (.int (t0_54 p0_1)), .val (.int 0), .unset, .unset] [(.int (t0_54 p0_1))])) rfl (by rw [hml]; rfl) (argsL := [(.int (t0_54 p0_1))]) (rest := []) (lenOf pd__C_C rfl) rfl (by show 2 * 0 + _ ≤ _; exact Nat.le_of_eq rfl) (hb hby at_93) (fun _ _ => ⟨rfl, eh63, (by decide : 1 + 0 ≤ _), (by decide : 4 + 0 ≤ _)⟩)
       dsimp only [Pt.U, Pt.locs, Pt.cells, Pt.slots] at X77 l77 y77 z77 st77 hQ77
       subst l77 y77 z77
       obtain ⟨rfl, N77q, eh77⟩ := hQ77
       have N77 := Fr.app N63 N77q
       refine own_s (g' := (mkF m 96 #[.val (.int p0_0), .val (.int p0_1), .val (.ref b5), .val (.int 3), .val (.int 1), .val (.int (t0_54 p0_1)), .val (.int 0), .unset, .unset] [(.int (r1 (t0_54 p0_1)))])) st77 ?_
       rw [show (r1 (t0_54 p0_1)) = (78 : Int32) from ((if_neg c65).trans ((if_neg c68).trans ((if_neg c71).trans (if_neg c74))))]
       refine own_s (g' := (mkF m 98 #[.val (.int p0_0), .val (.int p0_1), .val (.ref b5), .val (.int 3), .val (.int 1), .val (.int (t0_54 p0_1)), .val (.int 0), .val (.int 78), .unset] [])) (fun _ k => XS.istore X77.here hx rfl (hb hby at_96) rfl (l' := #[.val (.int p0_0), .val (.int p0_1), .val (.ref b5), .val (.int 3), .val (.int 1), .val (.int (t0_54 p0_1)), .val (.int 0), .val (.int 78), .unset]) rfl k) ?_
       refine own_s (g' := (mkF m 100 #[.val (.int p0_0), .val (.int p0_1), .val (.ref b5), .val (.int 3), .val (.int 1), .val (.int (t0_54 p0_1)), .val (.int 0), .val (.int 78), .unset] [(.int 0)])) (fun _ k => XS.iload X77.here hx rfl (hb hby at_98) rfl k) ?_
       refine own_s (g' := (mkF m 130 #[.val (.int p0_0), .val (.int p0_1), .val (.ref b5), .val (.int 3), .val (.int 1), .val (.int (t0_54 p0_1)), .val (.int 0), .val (.int 78), .unset] [])) (fun _ k => XS.ifYes X77.here hx rfl (pc0 := 100) (pc' := 130) rfl (hb hby at_100) rfl ((if0 _ _).trans (teq ((by decide) : (0 : Int32) = (0 : Int32))).1) (by decide) (by decide) k) ?_
       refine own_s (g' := (mkF m 132 #[.val (.int p0_0), .val (.int p0_1), .val (.ref b5), .val (.int 3), .val (.int 1), .val (.int (t0_54 p0_1)), .val (.int 0), .val (.int 78), .unset] [(.int 78)])) (fun _ k => XS.iload X77.here hx rfl (hb hby at_130) rfl k) ?_
       refine own_s (g' := (mkF m 134 #[.val (.int p0_0), .val (.int p0_1), .val (.ref b5), .val (.int 3), .val (.int 1), .val (.int (t0_54 p0_1)), .val (.int 0), .val (.int 78), .unset] [(.int 78), (.int 78)])) (fun _ k => XS.bipush X77.here hx rfl (hb hby at_132) k) ?_
       refine own_s (g' := (mkF m 137 #[.val (.int p0_0), .val (.int p0_1), .val (.ref b5), .val (.int 3), .val (.int 1), .val (.int (t0_54 p0_1)), .val (.int 0), .val (.int 78), .unset] [])) (fun _ k => XS.icmpNo X77.here hx rfl (hb hby at_134) rfl (teq ((by simp only [r1, if_neg c65, if_neg c68, if_neg c71, if_neg c74]) : (78 : Int32) = (78 : Int32))).2 k) ?_
       refine own_s (g' := (mkF m 138 #[.val (.int p0_0), .val (.int p0_1), .val (.ref b5), .val (.int 3), .val (.int 1), .val (.int (t0_54 p0_1)), .val (.int 0), .val (.int 78), .unset] [(.int 1)])) (fun _ k => XS.iconst X77.here hx rfl (hb hby at_137) k) ?_
       refine own_s (g' := (mkF m 142 #[.val (.int p0_0), .val (.int p0_1), .val (.ref b5), .val (.int 3), .val (.int 1), .val (.int (t0_54 p0_1)), .val (.int 0), .val (.int 78), .unset] [(.int 1)])) (fun _ k => XS.goto X77.here hx rfl (pc0 := 138) (pc' := 142) rfl (hb hby at_138) (by decide) (by decide) k) ?_
       refine own_s (g' := (mkF m 144 #[.val (.int p0_0), .val (.int p0_1), .val (.ref b5), .val (.int 3), .val (.int 1), .val (.int (t0_54 p0_1)), .val (.int 0), .val (.int 78), .val (.int 1)] [])) (fun _ k => XS.istore X77.here hx rfl (hb hby at_142) rfl (l' := #[.val (.int p0_0), .val (.int p0_1), .val (.ref b5), .val (.int 3), .val (.int 1), .val (.int (t0_54 p0_1)), .val (.int 0), .val (.int 78), .val (.int 1)]) rfl k) ?_
       refine own_s (g' := (mkF m 146 #[.val (.int p0_0), .val (.int p0_1), .val (.ref b5), .val (.int 3), .val (.int 1), .val (.int (t0_54 p0_1)), .val (.int 0), .val (.int 78), .val (.int 1)] [(.int 1)])) (fun _ k => XS.iload X77.here hx rfl (hb hby at_144) rfl k) ?_
       refine own_s (g' := (mkF m 149 #[.val (.int p0_0), .val (.int p0_1), .val (.ref b5), .val (.int 3), .val (.int 1), .val (.int (t0_54 p0_1)), .val (.int 0), .val (.int 78), .val (.int 1)] [])) (fun _ k => XS.ifNo X77.here hx rfl (hb hby at_146) rfl ((if0 _ _).trans (feq ((by decide) : ¬ (1 : Int32) = (0 : Int32))).1) k) ?_
       refine own_s (g' := (mkF m 151 #[.val (.int p0_0), .val (.int p0_1), .val (.ref b5), .val (.int 3), .val (.int 1), .val (.int (t0_54 p0_1)), .val (.int 0), .val (.int 78), .val (.int 1)] [(.int 1)])) (fun _ k => XS.iload X77.here hx rfl (hb hby at_149) rfl k) ?_
       refine own_s (g' := (mkF m 154 #[.val (.int p0_0), .val (.int p0_1), .val (.ref b5), .val (.int 3), .val (.int 1), .val (.int (t0_54 p0_1)), .val (.int 0), .val (.int 78), .val (.int 1)] [])) (fun _ k => XS.ifNo X77.here hx rfl (hb hby at_151) rfl ((if0 _ _).trans (feq ((by decide) : ¬ (1 : Int32) = (0 : Int32))).1) k) ?_
       refine own_s (g' := (mkF m 155 #[.val (.int p0_0), .val (.int p0_1), .val (.ref b5), .val (.int 3), .val (.int 1), .val (.int (t0_54 p0_1)), .val (.int 0), .val (.int 78), .val (.int 1)] [(.int 1)])) (fun _ k => XS.iconst X77.here hx rfl (hb hby at_154) k) ?_
       refine own_s (g' := (mkF m 159 #[.val (.int p0_0), .val (.int p0_1), .val (.ref b5), .val (.int 3), .val (.int 1), .val (.int (t0_54 p0_1)), .val (.int 0), .val (.int 78), .val (.int 1)] [(.int 1)])) (fun _ k => XS.goto X77.here hx rfl (pc0 := 155) (pc' := 159) rfl (hb hby at_155) (by decide) (by decide) k) ?_
       refine own_retN X77 hx hlk (t := .boolean) hret (by simp) (hb hby at_159) (z' := (1 : Int32)) (by decide) (by decide) (by decide) ?_
       show Q0 Z p0_0 p0_1 h0 n0 _ T77.heap _
       rw [eh77]
       exact ⟨rfl, N77⟩
set_option maxRecDepth 65536 in
set_option maxHeartbeats 40000000 in
theorem comes_1 {Post : Tables → Env → Array Value → State → Outcome → State → Prop} (hpost : ∀ tb e args s v u, (limb_1_1.after args s (.returned v) u = true ∧ limb_1_2.after args s (.returned v) u = true ∧ True) → FrameEnd s (.returned v) u (Jvm.fieldLocs frame_1_writes args s ++ Jvm.arrayLocs frame_1_arrays args s ++ Jvm.staticLocs frame_1_statics s) 16 128 → Post tb e args s (.returned v) u) :
    ArmFor flags0 classFile x code maxLocals ret World_1 tables_1 room_1 Calls_1 rest_1 Pre_1 Post := by
  intro l hfl _ _ p e ha hc hk s m args below hf hA hF happ hP
  obtain ⟨hcalls, hrest, hpre⟩ := hP
  obtain ⟨-, -, -, hnamed, -, -, -, hat⟩ := (Spec.applies_iff hf).mp happ
  obtain ⟨hg, hn⟩ := and_e (Cond.before_iff.mp (show (Jvm.Cond.and given_1 narrow_1).before args s = true from hpre))
  obtain ⟨gc, hg⟩ := and_e hg
  obtain ⟨gi0, hg⟩ := and_e hg
  obtain ⟨w0, w1, rfl⟩ : ∃ w0 w1 : Value, args = #[w0, w1] := by
    have hs : args.size = 2 := by simpa [Cond.value, given_1] using gc
    obtain ⟨L⟩ := args
    match L, hs with
    | [w0, w1], _ => exact ⟨w0, w1, rfl⟩
  have hw := fun d (hd : d ∈ tables_1) => atoms_spec (ws := Jvm.Cond.code x code maxLocals ret :: tables_1) hat d (List.mem_cons_of_mem _ hd)
  obtain ⟨i0, ei0⟩ := is_v gi0
  obtain rfl : w0 = (.int i0) := Option.some.inj ei0
  obtain ⟨i1, ei1⟩ := is_v hg
  obtain rfl : w1 = (.int i1) := Option.some.inj ei1
  obtain ⟨n, o, h1, h2, h3, _, L, rfl, ⟨rfl, N⟩, hq⟩ := rm0 l s _ hw tables_1 i0 i1 s.heap s.heap.size (Nat.le_refl _)  p e ha hc hk s m _ below hf ((Spec.applies_iff_loose hf).mp happ).1 ⟨rfl, State.Warmed39.refl s, rfl⟩ trivial
  refine ⟨n, _, h1, h2, h3, hpost _ _ _ _ _ _ ⟨Cond.after_iff.mpr rfl, Cond.after_iff.mpr (eq_i res_at (Term.int_eval (1)) rfl), trivial⟩ ⟨hq.1, hq.2.1, (hq.2.2.sift fun y hy => Or.inr (N y hy)).mono (by decide) (by decide)⟩⟩
theorem main_1_1 : Claimed_1_1 := comes_1 fun _ _ _ _ _ _ h hF => ⟨h.1, hF⟩
theorem main_1_2 : Claimed_1_2 := comes_1 fun _ _ _ _ _ _ h hF => ⟨h.2.1, hF⟩
end Jvm.Pilot.@@N@@
namespace Jvm.Pilot.@@N@@
open Jvm Jvm.ClassFile Sem Op Lib Jvm.Free Jvm.Stand Jvm.Pilot.@@N@@.Jvm.D
/-! MADE BY PROGRAM (witnessworld.py) out of the Statement's table words and the real class files: 12 classes; the members and pool entries that the words name. The judged class is class 1, her method 1. -/
namespace start1
open Jvm.ClassFile
def u (s : String) : CpInfo := .utf8 (stringToUtf16 s)
/-- a pool by its gaps: so many unusable entries, then the entry; so many at the end -/
def gap : Nat → List CpInfo → List CpInfo
  | 0, r => r
  | n + 1, r => .unusable :: gap n r
def poolList (es : List (Nat × CpInfo)) (last : Nat) : List CpInfo := es.foldr (fun e r => gap e.1 (e.2 :: r)) (gap last [])
def pool (es : List (Nat × CpInfo)) (last : Nat) : Array CpInfo := ⟨poolList es last⟩
def fileOf (pool : Array CpInfo) (this : Nat) (attrs : Array Attribute := #[]) (ms : Array MethodInfo := #[]) (fl : Nat := 33) (sup : Nat := 0) (ifs : Array Nat := #[]) (fds : Array FieldInfo := #[]) : ClassFile where
  minorVersion := 0
  majorVersion := 65
  constantPool := pool
  accessFlags := fl
  thisClass := this
  superClass := sup
  interfaces := ifs
  fields := fds
  methods := ms
  attributes := attrs
def plain (name : String) (sup : Option ClassId) : Class where
  name := name
  kind := .ordinary
  loader := none
  accessFlags := 33
  super := sup
  interfaces := #[]
  cf := none
  fields := #[]
  methods := #[]
  instanceTypes := #[]
  staticTypes := #[]
  resolved := #[]
  callSites := []
  init := .initialized
  statics := none
  mirror := none

def pool0 : Array CpInfo := pool [(5, u "<init>"), (0, u "()V"), (1, .class_ 10), (1, u "java/lang/Object")] 113

def k0m0 : Method := { name := "<init>", desc := "()V", sig := { parameters := [], returnType := none }, accessFlags := 1, code := none }
/-- java/lang/Object -/
def k0 : Class := { plain "java/lang/Object" none with
  accessFlags := 33
  interfaces := #[]
  cf := some (fileOf pool0 8 #[] #[{ accessFlags := 1, nameIndex := 5, descriptorIndex := 6, attributes := #[] }] 33 0 #[] #[])
  fields := #[]
  methods := #[k0m0]
  instanceTypes := #[]
  staticTypes := #[]
  resolved := Array.replicate 124 none
  statics := none }

def pool1 : Array CpInfo := pool [(2, .class_ 4), (1, u "java/lang/Object"), (0, u "<init>"), (0, u "()V"), (0, .methodref 8 9), (0, .class_ 10), (0, .nameAndType 11 12), (0, u "com/example/junctura/junctura/model/ReadPart"), (0, u "complement"), (0, u "(C)C"), (0, .integer 65535), (0, .class_ 15), (0, u "com/example/junctura/junctura/model/ReadPartComplementPinLaw"), (2, u "law"), (0, u "(II)Z")] 5

def k1m0 : Method := { name := "<init>", desc := "()V", sig := { parameters := [], returnType := none }, accessFlags := 1, code := none }
def k1c1 : Code := { maxStack := 4, maxLocals := 9, code := code, exceptionTable := #[], attributes := #[] }
def k1m1 : Method := { name := "law", desc := "(II)Z", sig := { parameters := [.int, .int], returnType := some .boolean }, accessFlags := 9, code := some k1c1 }
/-- com/example/junctura/junctura/model/ReadPartComplementPinLaw -/
def k1 : Class := { plain "com/example/junctura/junctura/model/ReadPartComplementPinLaw" (some 0) with
  accessFlags := 49
  interfaces := #[]
  cf := some (fileOf pool1 14 #[] #[{ accessFlags := 1, nameIndex := 5, descriptorIndex := 6, attributes := #[] }, { accessFlags := 9, nameIndex := 18, descriptorIndex := 19, attributes := #[] }] 49 2 #[] #[])
  fields := #[]
  methods := #[k1m0, k1m1]
  instanceTypes := #[]
  staticTypes := #[]
  resolved := Array.replicate 25 none
  statics := none }

def pool2 : Array CpInfo := pool [(2, .class_ 4), (1, u "java/lang/Object"), (0, u "<init>"), (0, u "()V"), (0, .class_ 8), (0, u "java/lang/Record")] 13

def k2m0 : Method := { name := "<init>", desc := "()V", sig := { parameters := [], returnType := none }, accessFlags := 4, code := none }
/-- java/lang/Record -/
def k2 : Class := { plain "java/lang/Record" (some 0) with
  accessFlags := 1057
  interfaces := #[]
  cf := some (fileOf pool2 7 #[] #[{ accessFlags := 4, nameIndex := 5, descriptorIndex := 6, attributes := #[] }] 1057 2 #[] #[])
  fields := #[]
  methods := #[k2m0]
  instanceTypes := #[]
  staticTypes := #[]
  resolved := Array.replicate 22 none
  statics := none }

def pool3 : Array CpInfo := pool [(2, .class_ 4), (1, u "java/lang/Record"), (3, .class_ 10), (1, u "com/example/junctura/junctura/model/ReadPart"), (0, u "sequence"), (0, u "Ljava/lang/String;"), (2, u "quality"), (17, u "complement"), (0, u "(C)C")] 57

def k3c0 : Code := { maxStack := 1, maxLocals := 1, code := prog_118_method_3_code, exceptionTable := #[], attributes := #[] }
def k3m0 : Method := { name := "complement", desc := "(C)C", sig := { parameters := [.char], returnType := some .char }, accessFlags := 9, code := some k3c0 }
/-- com/example/junctura/junctura/model/ReadPart -/
def k3 : Class := { plain "com/example/junctura/junctura/model/ReadPart" (some 2) with
  accessFlags := 49
  interfaces := #[]
  cf := some (fileOf pool3 8 #[] #[{ accessFlags := 9, nameIndex := 33, descriptorIndex := 34, attributes := #[] }] 49 2 #[] #[{ accessFlags := 18, nameIndex := 11, descriptorIndex := 12, attributes := #[] }, { accessFlags := 18, nameIndex := 15, descriptorIndex := 12, attributes := #[] }])
  fields := #[{ name := "sequence", type := (.object "java/lang/String"), accessFlags := 18, slot := 0, constantValue := 0 }, { name := "quality", type := (.object "java/lang/String"), accessFlags := 18, slot := 1, constantValue := 0 }]
  methods := #[k3m0]
  instanceTypes := #[(.object "java/lang/String"), (.object "java/lang/String")]
  staticTypes := #[]
  resolved := Array.replicate 92 none
  statics := none }

def pool4 : Array CpInfo := pool [(1, u "java/lang/Cloneable"), (0, .class_ 1), (0, u "java/lang/Object"), (0, .class_ 3)] 3

/-- java/lang/Cloneable -/
def k4 : Class := { plain "java/lang/Cloneable" (some 0) with
  accessFlags := 1537
  interfaces := #[]
  cf := some (fileOf pool4 2 #[] #[] 1537 4 #[] #[])
  fields := #[]
  methods := #[]
  instanceTypes := #[]
  staticTypes := #[]
  resolved := Array.replicate 8 none
  statics := none }

def pool5 : Array CpInfo := pool [(1, u "java/io/Serializable"), (0, .class_ 1), (0, u "java/lang/Object"), (0, .class_ 3)] 3

/-- java/io/Serializable -/
def k5 : Class := { plain "java/io/Serializable" (some 0) with
  accessFlags := 1537
  interfaces := #[]
  cf := some (fileOf pool5 2 #[] #[] 1537 4 #[] #[])
  fields := #[]
  methods := #[]
  instanceTypes := #[]
  staticTypes := #[]
  resolved := Array.replicate 8 none
  statics := none }

/-- the primitive byte -/
def k6 : Class := { plain "byte" none with kind := .primitive 'B', accessFlags := 0x411 }
/-- [B -/
def k7 : Class := { plain "[B" (some 0) with kind := .array 6 .byte, interfaces := #[4, 5], accessFlags := 1041 }

/-- the primitive char -/
def k8 : Class := { plain "char" none with kind := .primitive 'C', accessFlags := 0x411 }
/-- [C -/
def k9 : Class := { plain "[C" (some 0) with kind := .array 8 .char, interfaces := #[4, 5], accessFlags := 1041 }

/-- the primitive int -/
def k10 : Class := { plain "int" none with kind := .primitive 'I', accessFlags := 0x411 }
/-- [I -/
def k11 : Class := { plain "[I" (some 0) with kind := .array 10 .int, interfaces := #[4, 5], accessFlags := 1041 }

def heap : Heap := #[]
def classes : Array Class := #[k0, k1, k2, k3, k4, k5, k6, k7, k8, k9, k10, k11]
def interned : List (Array UInt16 × Addr) := []
def slotsUsed : Nat := 0
def theMethod : MethodId := ⟨1, 1⟩
def args0 : Array Value := #[.int 5, .int 5]
def aboutOver (below : List Frame) : State where
  vm := { classes := classes, interned := interned.toArray }
  heap := heap
  slotsUsed := slotsUsed
  threads := #[{ frames := .invoking theMethod args0 :: below }]
def below0 : List Frame := [.native { method := ⟨0, 0⟩, args := #[] }]
def about1 : State := aboutOver below0
def p0 : Program := .bare "" "" ""
def e0 : Env := launch0.env 0 0 0
theorem w_frames : about1.frames = Frame.invoking theMethod args0 :: below0 := rfl
set_option maxRecDepth 65536 in
theorem w_args : argsFit about1.vm theMethod args0 = true := by decide +kernel
set_option maxRecDepth 65536 in
theorem w_heap : heapFits about1 = true := by decide +kernel
set_option maxRecDepth 65536 in
theorem w_runnable : about1.curStatus? = some .runnable := by decide +kernel
set_option maxRecDepth 65536 in
theorem w_alone : about1.alone = true := by decide +kernel
set_option maxRecDepth 65536 in
theorem w_named : about1.methodNamed? x = some theMethod := by decide +kernel
set_option maxRecDepth 65536 in
theorem w_hears : about1.hears theMethod below0 = true := by decide +kernel
set_option maxRecDepth 65536 in
theorem w_ripe : about1.ripe theMethod args0 below0 = true := by decide +kernel
theorem w_running : about1.status = .running := rfl
set_option maxRecDepth 65536 in
theorem w_room : about1.hasRoom e0.platform room_1 = true :=
  launch0.hasRoom_least _ room_1 (by decide +kernel) (by decide +kernel) (by decide +kernel) (by decide +kernel) (by decide +kernel) (by decide +kernel)
theorem allAtoms_all (ts : List Jvm.Cond) (a : Array Jvm.Value) (st : Jvm.State) : (allAtoms ts).before a st = ts.all (fun c => c.before a st) := by
  induction ts with
  | nil => rfl
  | cons c t ih =>
    show (Jvm.Cond.and c (allAtoms t)).before a st = _
    rw [Jvm.Cond.before_and, ih, List.all_cons]
def words1 : List Jvm.Cond := Jvm.Cond.code x code maxLocals ret :: tables_1
/-- a 'code' word, met by the world's own term for the bytes: nothing is compared byte by byte -/
theorem code_word {y : MethodName} {bytes : ByteArray} {mx : Nat} {rt : Option FieldType} {a : Array Value} {s : State} {m : MethodId} {meth : Method} {c : Code} (h1 : s.methodNamed? y = some m) (h2 : s.vm.method? m = some meth) (h3 : meth.code = some c) (h4 : c.code = bytes)
    (h5 : (c.maxLocals == mx && c.exceptionTable.isEmpty && decide (c.maxStack ≤ mostOperands) && decide (meth.sig.returnType = rt) && !meth.locks && decide (parseMethodDescriptor y.desc = some meth.sig)) = true) : (Jvm.Cond.code y bytes mx rt).before a s = true := by
  simp only [Bool.and_eq_true, beq_iff_eq, Bool.not_eq_true', decide_eq_true_eq] at h5
  obtain ⟨⟨⟨⟨⟨g1, g2⟩, g3⟩, g4⟩, g5⟩, g6⟩ := h5
  simp [Cond.before, Cond.holds, Cond.value, h1, h2, h3, h4, g1, g2, g3, g4, g5, g6]
def isCode : Jvm.Cond → Bool
  | .code _ _ _ _ => true
  | _ => false
theorem all_split {L : List Jvm.Cond} {P : Jvm.Cond → Bool} (h1 : L.all (fun c => isCode c || P c) = true) (h2 : ∀ c ∈ L.filter isCode, P c = true) : L.all P = true := by
  refine List.all_eq_true.mpr fun c hc => ?_
  have h := List.all_eq_true.mp h1 c hc
  rcases Bool.eq_false_or_eq_true (isCode c) with hi | hi
  · exact h2 c (List.mem_filter.mpr ⟨hc, hi⟩)
  · simpa [hi] using h
set_option maxRecDepth 65536 in
theorem w_c0 : (Jvm.Cond.code x code maxLocals ret).before args0 about1 = true := code_word (m := ⟨1, 1⟩) (meth := k1m1) (c := k1c1) (by decide +kernel) rfl rfl rfl (by decide +kernel)
set_option maxRecDepth 65536 in
theorem w_c1 : (Jvm.Cond.code ({ cls := "com/example/junctura/junctura/model/ReadPart", name := "complement", desc := "(C)C" } : Jvm.MethodName) prog_118_method_3_code (1 : Nat) (Option.some Jvm.ClassFile.FieldType.char)).before args0 about1 = true := code_word (m := ⟨3, 0⟩) (meth := k3m0) (c := k3c0) (by decide +kernel) rfl rfl rfl (by decide +kernel)
def codes1 : List Jvm.Cond := [Jvm.Cond.code x code maxLocals ret, Jvm.Cond.code ({ cls := "com/example/junctura/junctura/model/ReadPart", name := "complement", desc := "(C)C" } : Jvm.MethodName) prog_118_method_3_code (1 : Nat) (Option.some Jvm.ClassFile.FieldType.char)]
set_option maxRecDepth 65536 in
theorem codes_eq : words1.filter isCode = codes1 := rfl
theorem w_codes : ∀ c ∈ words1.filter isCode, c.before args0 about1 = true := by
  rw [codes_eq]
  intro c hc
  simp only [codes1, List.mem_cons, List.not_mem_nil, or_false] at hc
  rcases hc with rfl | rfl
  · exact w_c0
  · exact w_c1
set_option maxRecDepth 65536 in
theorem w_t1 : words1.all (fun c => isCode c || c.before args0 about1) = true := by decide +kernel
theorem w_tables : (allAtoms (Jvm.Cond.code x code maxLocals ret :: tables_1)).before args0 about1 = true := by
  rw [allAtoms_all]
  show words1.all (fun c => c.before args0 about1) = true
  refine all_split ?_ w_codes
  rw [w_t1]
set_option maxRecDepth 65536 in
theorem w_case : (Jvm.Cond.and given_1 narrow_1).before args0 about1 = true := by decide +kernel
theorem w_applies : (headSpec (Jvm.Cond.code x code maxLocals ret :: tables_1) room_1).applies x e0.platform about1 = true :=
  (Spec.applies_iff w_frames).mpr ⟨w_running, w_runnable, w_alone, w_named, w_hears, w_ripe, w_room, w_tables⟩
theorem atStart : AtStart classFile x code maxLocals ret World_1 tables_1 room_1 Calls_1 rest_1 Pre_1 launch0 p0 e0 about1 theMethod args0 below0 :=
  ⟨lists_1, trivial, launch0.admits_env _ _ _, launch0.least_env, fairChoices_fair.cas, fairChoices_fair.clock, w_frames, w_args, w_heap, w_applies, trivial, trivial, w_case⟩
end start1
theorem witness_1 : WitnessClaimed_1 := ⟨start1.p0, start1.e0, start1.about1, start1.theMethod, start1.args0, start1.below0, start1.atStart⟩
end Jvm.Pilot.@@N@@
