import JvmDerived
import JvmDerived.Pilot.@@N@@Statement
import JvmDerived.Pilot.@@N@@Code
set_option linter.unusedVariables false
set_option linter.unusedSimpArgs false
namespace Jvm.Pilot.@@N@@
open Jvm Jvm.ClassFile Sem Op Lib Jvm.Free Jvm.Stand Jvm.LawKit Jvm.RoadKit Bundle Jvm.Pilot.@@N@@.Jvm.D
/-- what is left of a walk: from the frame g on, the run ends as K says -/
def own_G (p : Program) (e : Env) (below : List Frame) (s : State) (K : Option Value → Heap → List Loc → Prop) (nc ns : Nat) (T : State) (g : JFrame) : Prop :=
  ∃ s₂ o, Steps p.tables e below (T.setTop g) s₂ ∧ s₂.status = .running ∧ Ended s₂ below o ∧ ∃ v L, o = .returned v ∧ K v s₂.heap L ∧ FrameEnd s o s₂ L nc ns
section Own
variable {p : Program} {l : Launch} {e : Env} {R : Room} {s : State} {m : MethodId} {args : Array Value} {below : List Frame} {meth : Method} {c : Code} {T T' : State} {locs : List Loc} {cells slots : Nat} {K : Option Value → Heap → List Loc → Prop} {nc ns : Nat} {g g' : JFrame}
theorem own_s (h : ∀ t, Steps p.tables e below (T'.setTop g') t → Steps p.tables e below (T.setTop g) t) (k : own_G p e below s K nc ns T' g') : own_G p e below s K nc ns T g := by
  obtain ⟨s₂, o, h1, r⟩ := k
  exact ⟨s₂, o, h _ h1, r⟩
theorem own_trans (h : Steps p.tables e below (T.setTop g) (T'.setTop g')) (k : own_G p e below s K nc ns T' g') : own_G p e below s K nc ns T g := by
  obtain ⟨s₂, o, h1, r⟩ := k
  exact ⟨s₂, o, h.trans h1, r⟩
theorem own_cast (q : g = g') (k : own_G p e below s K nc ns T g') : own_G p e below s K nc ns T g := q ▸ k
theorem own_leave (X : Stand p l e R s m args below meth c T locs cells slots) {v : Option Value} (hlk : meth.locks = false) (hv : meth.sig.returnType = none → v = none) (hc : cells ≤ nc) (hn : slots ≤ ns) (hq : K v T.heap locs)
    (st : ∀ fs, (∀ (f : JFrame) (acts : List Action), f.method = m → f.locked = none → f.entered = [] → (doReturn e (T.setTop f) acts v).1 = T.setFrames fs) → Steps p.tables e below (T.setTop g) (T.setFrames fs)) : own_G p e below s K nc ns T g := by
  obtain ⟨fs, hr, hrun, hended, hW, hsame⟩ := X.leave (v := v) hv hlk
  exact ⟨_, _, st fs hr, hrun, hended, _, _, rfl, hq, ⟨_, rfl⟩, hW, hsame.mono hc hn⟩
theorem own_retN (X : Stand p l e R s m args below meth c T locs cells slots) (hx : p.tables.exec = Jvm.exec) (hlk : meth.locks = false) {pc : Nat} {Ls : Array Slot} {z z' : Int32} {t : FieldType} {rest : List Value} (hret : meth.sig.returnType = some t) (ht : t = .boolean ∨ t = .byte ∨ t = .char ∨ t = .short)
    (hd : decode c.code pc = .ok (.ireturn, 1)) (hz : nar t z = z') (hc : cells ≤ nc) (hn : slots ≤ ns) (hq : K (some (.int z')) T.heap locs) : own_G p e below s K nc ns T (mkF m pc Ls (.int z :: rest)) := by
  subst hz
  exact own_leave X hlk (fun h => by rw [hret] at h; cases h) hc hn hq fun fs hr => retN X hx hret ht hd hr
theorem own_retI (X : Stand p l e R s m args below meth c T locs cells slots) (hx : p.tables.exec = Jvm.exec) (hlk : meth.locks = false) {pc : Nat} {Ls : Array Slot} {z : Int32} {rest : List Value} (hret : meth.sig.returnType = some .int)
    (hd : decode c.code pc = .ok (.ireturn, 1)) (hc : cells ≤ nc) (hn : slots ≤ ns) (hq : K (some (.int z)) T.heap locs) : own_G p e below s K nc ns T (mkF m pc Ls (.int z :: rest)) :=
  own_leave X hlk (fun h => by rw [hret] at h; cases h) hc hn hq fun fs hr => retOut X hx hret rfl (Or.inl ⟨rfl, Or.inl rfl, _, rfl⟩) hd hr
theorem own_retJ (X : Stand p l e R s m args below meth c T locs cells slots) (hx : p.tables.exec = Jvm.exec) (hlk : meth.locks = false) {pc : Nat} {Ls : Array Slot} {z : Int64} {rest : List Value} (hret : meth.sig.returnType = some .long)
    (hd : decode c.code pc = .ok (.lreturn, 1)) (hc : cells ≤ nc) (hn : slots ≤ ns) (hq : K (some (.long z)) T.heap locs) : own_G p e below s K nc ns T (mkF m pc Ls (.long z :: rest)) :=
  own_leave X hlk (fun h => by rw [hret] at h; cases h) hc hn hq fun fs hr => retOut X hx hret rfl (Or.inr (Or.inl ⟨rfl, rfl, _, rfl⟩)) hd hr
theorem own_retR (X : Stand p l e R s m args below meth c T locs cells slots) (hx : p.tables.exec = Jvm.exec) (hlk : meth.locks = false) {pc : Nat} {Ls : Array Slot} {v : Value} {t : FieldType} {rest : List Value} (hret : meth.sig.returnType = some t) (ht : t.isReference = true) (hv : v.isRef = true) (hnv : narrow t v = v)
    (hd : decode c.code pc = .ok (.areturn, 1)) (hc : cells ≤ nc) (hn : slots ≤ ns) (hq : K (some v) T.heap locs) : own_G p e below s K nc ns T (mkF m pc Ls (v :: rest)) :=
  own_leave X hlk (fun h => by rw [hret] at h; cases h) hc hn hq fun fs hr => retOut X hx hret hnv (Or.inr (Or.inr (Or.inr (Or.inr ⟨rfl, ht, hv⟩)))) hd hr
theorem own_retV (X : Stand p l e R s m args below meth c T locs cells slots) (hx : p.tables.exec = Jvm.exec) (hlk : meth.locks = false) {pc : Nat} {Ls : Array Slot} (hret : meth.sig.returnType = none)
    (hd : decode c.code pc = .ok (.return_, 1)) (hc : cells ≤ nc) (hn : slots ≤ ns) (hq : K none T.heap locs) : own_G p e below s K nc ns T (mkF m pc Ls []) :=
  own_leave X hlk (fun _ => rfl) hc hn hq fun fs hr => X.returnOut hx hret hd hr
theorem own_selp {s : State} {args : Array Value} {y : MethodName} {n : Nat} (wi : (Jvm.Cond.instantiable y.cls n).before args s = true) (hp : (Jvm.Cond.privateMethod y).before args s = true) (hi : (Jvm.Cond.instanceMethod y).before args s = true)
    (hy : y.cls ≠ "java/lang/invoke/MethodHandle" ∧ y.cls ≠ "java/lang/invoke/VarHandle") : (Jvm.Cond.selects y.cls y y).before args s = true := by
  obtain ⟨c, k, h1, h2, h3, h4, -⟩ := Cond.instantiable_spec wi
  exact Jvm.Stand.selects_self_of_private h1 h2 (Bool.or_eq_false_iff.mp h4).1 (Cond.privateMethod_at hp) hi hy
theorem own_miss {k : Int32} (i : Int) (n : Int32) (e : n.toInt = i) (hc : ¬ k = n) : i ≠ k.toInt := fun h => hc (Int32.toInt_inj.mp (h.symm.trans e.symm))
theorem own_posI {x : Int32} (h : (0 : Int32) < x) : x ≠ 0 := fun q => by rw [q] at h; exact absurd h (by decide)
theorem own_posJ {x : Int64} (h : (0 : Int64) < x) : x ≠ 0 := fun q => by rw [q] at h; exact absurd h (by decide)
theorem own_asI {x y : Int32} (h : y < x) : ¬ x < y := fun q => Int32.lt_irrefl (Int32.lt_trans h q)
theorem own_asJ {x y : Int64} (h : y < x) : ¬ x < y := fun q => Int64.lt_irrefl (Int64.lt_trans h q)
theorem own_eqltI {x y : Int32} (h : x = y) : ¬ x < y := fun q => by rw [h] at q; exact Int32.lt_irrefl q
theorem own_eqltJ {x y : Int64} (h : x = y) : ¬ x < y := fun q => by rw [h] at q; exact Int64.lt_irrefl q
theorem own_triI {x y : Int32} (h : ¬ x = y) (q : ¬ y < x) : x < y := by
  rw [Int32.lt_iff_toInt_lt] at *
  rw [← Int32.toInt_inj] at h
  omega
theorem own_triJ {x y : Int64} (h : ¬ x = y) (q : ¬ y < x) : x < y := by
  rw [Int64.lt_iff_toInt_lt] at *
  rw [← Int64.toInt_inj] at h
  omega
theorem own_ltneI {x y : Int32} (h : x < y) : ¬ x = y := fun q => by rw [q] at h; exact Int32.lt_irrefl h
theorem own_ltneJ {x y : Int64} (h : x < y) : ¬ x = y := fun q => by rw [q] at h; exact Int64.lt_irrefl h
theorem own_ltne'I {x y : Int32} (h : y < x) : ¬ x = y := fun q => by rw [q] at h; exact Int32.lt_irrefl h
theorem own_ltne'J {x y : Int64} (h : y < x) : ¬ x = y := fun q => by rw [q] at h; exact Int64.lt_irrefl h
theorem own_nnI {x y : Int32} (h : ¬ x < y) (q : ¬ y < x) : x = y := by
  rw [Int32.lt_iff_toInt_lt] at *
  rw [← Int32.toInt_inj]
  omega
theorem own_nnJ {x y : Int64} (h : ¬ x < y) (q : ¬ y < x) : x = y := by
  rw [Int64.lt_iff_toInt_lt] at *
  rw [← Int64.toInt_inj]
  omega
end Own
theorem d1_0 : decode prog_25_method_4_code 0 = .ok (.lload_n 0, 1) := by decide +kernel
theorem d1_1 : decode prog_25_method_4_code 1 = .ok (.ldc2_w 30, 3) := by decide +kernel
theorem d1_4 : decode prog_25_method_4_code 4 = .ok (.lcmp, 1) := by decide +kernel
theorem d1_5 : decode prog_25_method_4_code 5 = .ok (.ifCond .eq 19, 3) := by decide +kernel
theorem d1_8 : decode prog_25_method_4_code 8 = .ok (.lload_n 0, 1) := by decide +kernel
theorem d1_9 : decode prog_25_method_4_code 9 = .ok (.ldc2_w 32, 3) := by decide +kernel
theorem d1_12 : decode prog_25_method_4_code 12 = .ok (.lcmp, 1) := by decide +kernel
theorem d1_13 : decode prog_25_method_4_code 13 = .ok (.ifCond .eq 11, 3) := by decide +kernel
theorem d1_16 : decode prog_25_method_4_code 16 = .ok (.lload_n 0, 1) := by decide +kernel
theorem d1_17 : decode prog_25_method_4_code 17 = .ok (.ldc2_w 34, 3) := by decide +kernel
theorem d1_20 : decode prog_25_method_4_code 20 = .ok (.lcmp, 1) := by decide +kernel
theorem d1_21 : decode prog_25_method_4_code 21 = .ok (.ifCond .ne 7, 3) := by decide +kernel
theorem d1_24 : decode prog_25_method_4_code 24 = .ok (.iconst 1, 1) := by decide +kernel
theorem d1_25 : decode prog_25_method_4_code 25 = .ok (.goto 4, 3) := by decide +kernel
theorem d1_28 : decode prog_25_method_4_code 28 = .ok (.iconst 0, 1) := by decide +kernel
theorem d1_29 : decode prog_25_method_4_code 29 = .ok (.ireturn, 1) := by decide +kernel
theorem pn_com_example_arcwise_arcwise_OidTags : plainName "com/example/arcwise/arcwise/OidTags" = true := by first | (simp [plainName, overriddenIn]; done) | decide +kernel
theorem ef_1 (m : MethodId) (q1_0 : Int64) : entryFrame m #[(.long q1_0)] 2 = mkF m 0 #[.val (.long q1_0), .second] [] := by first | (simp [entryFrame, mkF, argsToLocals, Value.category]; done) | rfl
def r1 (q1_0 : Int64) : Int32 := (if q1_0 = (110 : Int64) then (1 : Int32) else (if q1_0 = (111 : Int64) then (1 : Int32) else (if q1_0 = (112 : Int64) then (1 : Int32) else (0 : Int32))))
def Q1 (Z : State) (q1_0 : Int64) (h0 : Heap) (n0 : Nat) (v : Option Value) (h : Heap) (L : List Loc) : Prop := v = some (.int (r1 q1_0)) ∧ Fr n0 L ∧ h = h0
set_option maxRecDepth 65536 in
set_option maxHeartbeats 40000000 in
theorem rm1 (l : Launch) (Z : State) (a0 : Array Value) (hw : ∀ d ∈ tables_1, d.before a0 Z = true) (ws : List Jvm.Cond) (q1_0 : Int64) (h0 : Heap) (n0 : Nat) (Z0 : n0 ≤ h0.size) :
    MetFree l (⟨"com/example/arcwise/arcwise/OidTags", "isOidTag", "(J)Z"⟩ : MethodName) (head1 (Jvm.Cond.code (⟨"com/example/arcwise/arcwise/OidTags", "isOidTag", "(J)Z"⟩ : MethodName) prog_25_method_4_code 2 (some .boolean) :: ws) ({ frames := 0, cells := 0, slots := 0, locals := 0 } : Room)) (fun a U => a = #[(.long q1_0)] ∧ Z.Warmed39 U.vm ∧ U.heap = h0) (fun _ _ _ _ _ => True) (fun _ U o U' => ∃ v L, o = .returned v ∧ Q1 Z q1_0 h0 n0 v U'.heap L ∧ FrameEnd U o U' L ({ frames := 0, cells := 0, slots := 0, locals := 0 } : Room).cells ({ frames := 0, cells := 0, slots := 0, locals := 0 } : Room).slots) := by
  refine MetFree.of_bodySF (plainFor_of_name pn_com_example_arcwise_arcwise_OidTags) hisR ?_
  intro p e s m args below meth c s₁ Bd hml0 hP hK
  obtain ⟨rfl, hZ, hh⟩ := hP
  have hx := Bd.exec
  have hby := Bd.bytes
  have hlk := Bd.notSynchronized
  have hret := Bd.returns
  have hml : c.maxLocals = 2 := hml0
  have hown : s.vm.findClass "com/example/arcwise/arcwise/OidTags" = some m.cls := findClass_of_methodNamed Bd.named
  have hnm := (name_of_methodNamed Bd.named Bd.method).1
  have X0 : Stand p l e ({ frames := 0, cells := 0, slots := 0, locals := 0 } : Room) s m #[(.long q1_0)] below meth c s₁ [] 0 0 := Stand.of_body Bd
  have e0 : s₁.heap = h0 := by rw [← hh, Bd.state]; rfl
  have N0 := Fr.nil n0
  have K0 : Keep h0 h0 [] := Keep.refl _ _
  show own_G p e below s (Q1 Z q1_0 h0 n0) ({ frames := 0, cells := 0, slots := 0, locals := 0 } : Room).cells ({ frames := 0, cells := 0, slots := 0, locals := 0 } : Room).slots s₁ (entryFrame m #[(.long q1_0)] 2)
  have ww4 := hw _ (List.mem_of_getElem? (i := 4) rfl)
  have ww5 := hw _ (List.mem_of_getElem? (i := 5) rfl)
  have ww6 := hw _ (List.mem_of_getElem? (i := 6) rfl)
  refine own_cast (ef_1 m q1_0) ?_
  refine own_s (g' := (mkF m 1 #[.val (.long q1_0), .second] [(.long q1_0)])) (fun _ k => XS.lloadN X0.here hx rfl (hb hby d1_0) rfl k) ?_
  refine own_s (g' := (mkF m 4 #[.val (.long q1_0), .second] [(.long 110), (.long q1_0)])) (X0.ldc2Long hx hown (mvT hZ ww4) (g := (mkF m 1 #[.val (.long q1_0), .second] [(.long q1_0)])) rfl (hb hby d1_1)) ?_
  refine own_s (g' := (mkF m 5 #[.val (.long q1_0), .second] [(.int (lcmpW q1_0 (110 : Int64)))])) (fun _ k => XS.lcmp X0.here hx rfl (hb hby d1_4) rfl k) ?_
  by_cases c1 : q1_0 = (110 : Int64)
  ·skip
   refine own_s (g' := (mkF m 24 #[.val (.long q1_0), .second] [])) (fun _ k => XS.ifYes X0.here hx rfl (pc0 := 5) (pc' := 24) rfl (hb hby d1_5) rfl ((if0 _ _).trans (teq ((lw_eq q1_0 (110 : Int64)).mpr c1)).1) (by decide) (by decide) k) ?_
   refine own_s (g' := (mkF m 25 #[.val (.long q1_0), .second] [(.int 1)])) (fun _ k => XS.iconst X0.here hx rfl (hb hby d1_24) k) ?_
   refine own_s (g' := (mkF m 29 #[.val (.long q1_0), .second] [(.int 1)])) (fun _ k => XS.goto X0.here hx rfl (pc0 := 25) (pc' := 29) rfl (hb hby d1_25) (by decide) (by decide) k) ?_
   refine own_retN X0 hx hlk (t := .boolean) hret (by simp) (hb hby d1_29) (z' := (1 : Int32)) (by decide) (by decide) (by decide) ?_
   show Q1 Z q1_0 h0 n0 _ s₁.heap _
   rw [e0]
   exact ⟨(congrArg (fun z => some (Value.int z)) (show (1 : Int32) = (r1 q1_0) from (Eq.symm (if_pos c1)))), N0, rfl⟩
  ·skip
   refine own_s (g' := (mkF m 8 #[.val (.long q1_0), .second] [])) (fun _ k => XS.ifNo X0.here hx rfl (hb hby d1_5) rfl ((if0 _ _).trans (feq (mt (lw_eq q1_0 (110 : Int64)).mp c1)).1) k) ?_
   refine own_s (g' := (mkF m 9 #[.val (.long q1_0), .second] [(.long q1_0)])) (fun _ k => XS.lloadN X0.here hx rfl (hb hby d1_8) rfl k) ?_
   refine own_s (g' := (mkF m 12 #[.val (.long q1_0), .second] [(.long 111), (.long q1_0)])) (X0.ldc2Long hx hown (mvT hZ ww5) (g := (mkF m 9 #[.val (.long q1_0), .second] [(.long q1_0)])) rfl (hb hby d1_9)) ?_
   refine own_s (g' := (mkF m 13 #[.val (.long q1_0), .second] [(.int (lcmpW q1_0 (111 : Int64)))])) (fun _ k => XS.lcmp X0.here hx rfl (hb hby d1_12) rfl k) ?_
   by_cases c2 : q1_0 = (111 : Int64)
   ·skip
    refine own_s (g' := (mkF m 24 #[.val (.long q1_0), .second] [])) (fun _ k => XS.ifYes X0.here hx rfl (pc0 := 13) (pc' := 24) rfl (hb hby d1_13) rfl ((if0 _ _).trans (teq ((lw_eq q1_0 (111 : Int64)).mpr c2)).1) (by decide) (by decide) k) ?_
    refine own_s (g' := (mkF m 25 #[.val (.long q1_0), .second] [(.int 1)])) (fun _ k => XS.iconst X0.here hx rfl (hb hby d1_24) k) ?_
    refine own_s (g' := (mkF m 29 #[.val (.long q1_0), .second] [(.int 1)])) (fun _ k => XS.goto X0.here hx rfl (pc0 := 25) (pc' := 29) rfl (hb hby d1_25) (by decide) (by decide) k) ?_
    refine own_retN X0 hx hlk (t := .boolean) hret (by simp) (hb hby d1_29) (z' := (1 : Int32)) (by decide) (by decide) (by decide) ?_
    show Q1 Z q1_0 h0 n0 _ s₁.heap _
    rw [e0]
    exact ⟨(congrArg (fun z => some (Value.int z)) (show (1 : Int32) = (r1 q1_0) from (Eq.symm ((if_neg c1).trans (if_pos c2))))), N0, rfl⟩
   ·skip
    refine own_s (g' := (mkF m 16 #[.val (.long q1_0), .second] [])) (fun _ k => XS.ifNo X0.here hx rfl (hb hby d1_13) rfl ((if0 _ _).trans (feq (mt (lw_eq q1_0 (111 : Int64)).mp c2)).1) k) ?_
    refine own_s (g' := (mkF m 17 #[.val (.long q1_0), .second] [(.long q1_0)])) (fun _ k => XS.lloadN X0.here hx rfl (hb hby d1_16) rfl k) ?_
    refine own_s (g' := (mkF m 20 #[.val (.long q1_0), .second] [(.long 112), (.long q1_0)])) (X0.ldc2Long hx hown (mvT hZ ww6) (g := (mkF m 17 #[.val (.long q1_0), .second] [(.long q1_0)])) rfl (hb hby d1_17)) ?_
    refine own_s (g' := (mkF m 21 #[.val (.long q1_0), .second] [(.int (lcmpW q1_0 (112 : Int64)))])) (fun _ k => XS.lcmp X0.here hx rfl (hb hby d1_20) rfl k) ?_
    by_cases c3 : q1_0 = (112 : Int64)
    ·skip
     refine own_s (g' := (mkF m 24 #[.val (.long q1_0), .second] [])) (fun _ k => XS.ifNo X0.here hx rfl (hb hby d1_21) rfl ((if0 _ _).trans (teq ((lw_eq q1_0 (112 : Int64)).mpr c3)).2) k) ?_
     refine own_s (g' := (mkF m 25 #[.val (.long q1_0), .second] [(.int 1)])) (fun _ k => XS.iconst X0.here hx rfl (hb hby d1_24) k) ?_
     refine own_s (g' := (mkF m 29 #[.val (.long q1_0), .second] [(.int 1)])) (fun _ k => XS.goto X0.here hx rfl (pc0 := 25) (pc' := 29) rfl (hb hby d1_25) (by decide) (by decide) k) ?_
     refine own_retN X0 hx hlk (t := .boolean) hret (by simp) (hb hby d1_29) (z' := (1 : Int32)) (by decide) (by decide) (by decide) ?_
     show Q1 Z q1_0 h0 n0 _ s₁.heap _
     rw [e0]
     exact ⟨(congrArg (fun z => some (Value.int z)) (show (1 : Int32) = (r1 q1_0) from (Eq.symm ((if_neg c1).trans ((if_neg c2).trans (if_pos c3)))))), N0, rfl⟩
    ·skip
     refine own_s (g' := (mkF m 28 #[.val (.long q1_0), .second] [])) (fun _ k => XS.ifYes X0.here hx rfl (pc0 := 21) (pc' := 28) rfl (hb hby d1_21) rfl ((if0 _ _).trans (feq (mt (lw_eq q1_0 (112 : Int64)).mp c3)).2) (by decide) (by decide) k) ?_
     refine own_s (g' := (mkF m 29 #[.val (.long q1_0), .second] [(.int 0)])) (fun _ k => XS.iconst X0.here hx rfl (hb hby d1_28) k) ?_
     refine own_retN X0 hx hlk (t := .boolean) hret (by simp) (hb hby d1_29) (z' := (0 : Int32)) (by decide) (by decide) (by decide) ?_
     show Q1 Z q1_0 h0 n0 _ s₁.heap _
     rw [e0]
     exact ⟨(congrArg (fun z => some (Value.int z)) (show (0 : Int32) = (r1 q1_0) from (Eq.symm ((if_neg c1).trans ((if_neg c2).trans (if_neg c3)))))), N0, rfl⟩
theorem d2_0 : decode method_2_code 0 = .ok (.lload_n 0, 1) := by decide +kernel
theorem d2_1 : decode method_2_code 1 = .ok (.ldc2_w 7, 3) := by decide +kernel
theorem d2_4 : decode method_2_code 4 = .ok (.lcmp, 1) := by decide +kernel
theorem d2_5 : decode method_2_code 5 = .ok (.ifCond .lt 15, 3) := by decide +kernel
theorem d2_8 : decode method_2_code 8 = .ok (.lload_n 0, 1) := by decide +kernel
theorem d2_9 : decode method_2_code 9 = .ok (.ldc2_w 9, 3) := by decide +kernel
theorem d2_12 : decode method_2_code 12 = .ok (.lcmp, 1) := by decide +kernel
theorem d2_13 : decode method_2_code 13 = .ok (.ifCond .gt 7, 3) := by decide +kernel
theorem d2_16 : decode method_2_code 16 = .ok (.iconst 1, 1) := by decide +kernel
theorem d2_17 : decode method_2_code 17 = .ok (.goto 4, 3) := by decide +kernel
theorem d2_20 : decode method_2_code 20 = .ok (.iconst 0, 1) := by decide +kernel
theorem d2_21 : decode method_2_code 21 = .ok (.ireturn, 1) := by decide +kernel
theorem pn_com_example_arcwise_arcwise_OidTagsIsOidTagPinLaw : plainName "com/example/arcwise/arcwise/OidTagsIsOidTagPinLaw" = true := by first | (simp [plainName, overriddenIn]; done) | decide +kernel
theorem ef_2 (m : MethodId) (q2_0 : Int64) : entryFrame m #[(.long q2_0)] 2 = mkF m 0 #[.val (.long q2_0), .second] [] := by first | (simp [entryFrame, mkF, argsToLocals, Value.category]; done) | rfl
def r2 (q2_0 : Int64) : Int32 := (if q2_0 < (110 : Int64) then (0 : Int32) else (if (112 : Int64) < q2_0 then (0 : Int32) else (1 : Int32)))
def Q2 (Z : State) (q2_0 : Int64) (h0 : Heap) (n0 : Nat) (v : Option Value) (h : Heap) (L : List Loc) : Prop := v = some (.int (r2 q2_0)) ∧ Fr n0 L ∧ h = h0
set_option maxRecDepth 65536 in
set_option maxHeartbeats 40000000 in
theorem rm2 (l : Launch) (Z : State) (a0 : Array Value) (hw : ∀ d ∈ tables_1, d.before a0 Z = true) (ws : List Jvm.Cond) (q2_0 : Int64) (h0 : Heap) (n0 : Nat) (Z0 : n0 ≤ h0.size) :
    MetFree l (⟨"com/example/arcwise/arcwise/OidTagsIsOidTagPinLaw", "expected", "(J)Z"⟩ : MethodName) (head1 (Jvm.Cond.code (⟨"com/example/arcwise/arcwise/OidTagsIsOidTagPinLaw", "expected", "(J)Z"⟩ : MethodName) method_2_code 2 (some .boolean) :: ws) ({ frames := 0, cells := 0, slots := 0, locals := 0 } : Room)) (fun a U => a = #[(.long q2_0)] ∧ Z.Warmed39 U.vm ∧ U.heap = h0) (fun _ _ _ _ _ => True) (fun _ U o U' => ∃ v L, o = .returned v ∧ Q2 Z q2_0 h0 n0 v U'.heap L ∧ FrameEnd U o U' L ({ frames := 0, cells := 0, slots := 0, locals := 0 } : Room).cells ({ frames := 0, cells := 0, slots := 0, locals := 0 } : Room).slots) := by
  refine MetFree.of_bodySF (plainFor_of_name pn_com_example_arcwise_arcwise_OidTagsIsOidTagPinLaw) hisR ?_
  intro p e s m args below meth c s₁ Bd hml0 hP hK
  obtain ⟨rfl, hZ, hh⟩ := hP
  have hx := Bd.exec
  have hby := Bd.bytes
  have hlk := Bd.notSynchronized
  have hret := Bd.returns
  have hml : c.maxLocals = 2 := hml0
  have hown : s.vm.findClass "com/example/arcwise/arcwise/OidTagsIsOidTagPinLaw" = some m.cls := findClass_of_methodNamed Bd.named
  have hnm := (name_of_methodNamed Bd.named Bd.method).1
  have X0 : Stand p l e ({ frames := 0, cells := 0, slots := 0, locals := 0 } : Room) s m #[(.long q2_0)] below meth c s₁ [] 0 0 := Stand.of_body Bd
  have e0 : s₁.heap = h0 := by rw [← hh, Bd.state]; rfl
  have N0 := Fr.nil n0
  have K0 : Keep h0 h0 [] := Keep.refl _ _
  show own_G p e below s (Q2 Z q2_0 h0 n0) ({ frames := 0, cells := 0, slots := 0, locals := 0 } : Room).cells ({ frames := 0, cells := 0, slots := 0, locals := 0 } : Room).slots s₁ (entryFrame m #[(.long q2_0)] 2)
  have ww11 := hw _ (List.mem_of_getElem? (i := 11) rfl)
  have ww14 := hw _ (List.mem_of_getElem? (i := 14) rfl)
  refine own_cast (ef_2 m q2_0) ?_
  refine own_s (g' := (mkF m 1 #[.val (.long q2_0), .second] [(.long q2_0)])) (fun _ k => XS.lloadN X0.here hx rfl (hb hby d2_0) rfl k) ?_
  refine own_s (g' := (mkF m 4 #[.val (.long q2_0), .second] [(.long 110), (.long q2_0)])) (X0.ldc2Long hx hown (mvT hZ ww11) (g := (mkF m 1 #[.val (.long q2_0), .second] [(.long q2_0)])) rfl (hb hby d2_1)) ?_
  refine own_s (g' := (mkF m 5 #[.val (.long q2_0), .second] [(.int (lcmpW q2_0 (110 : Int64)))])) (fun _ k => XS.lcmp X0.here hx rfl (hb hby d2_4) rfl k) ?_
  by_cases c4 : q2_0 < (110 : Int64)
  ·skip
   refine own_s (g' := (mkF m 20 #[.val (.long q2_0), .second] [])) (fun _ k => XS.ifYes X0.here hx rfl (pc0 := 5) (pc' := 20) rfl (hb hby d2_5) rfl ((if0 _ _).trans (tlt ((lw_lt q2_0 (110 : Int64)).mpr c4)).1) (by decide) (by decide) k) ?_
   refine own_s (g' := (mkF m 21 #[.val (.long q2_0), .second] [(.int 0)])) (fun _ k => XS.iconst X0.here hx rfl (hb hby d2_20) k) ?_
   refine own_retN X0 hx hlk (t := .boolean) hret (by simp) (hb hby d2_21) (z' := (0 : Int32)) (by decide) (by decide) (by decide) ?_
   show Q2 Z q2_0 h0 n0 _ s₁.heap _
   rw [e0]
   exact ⟨(congrArg (fun z => some (Value.int z)) (show (0 : Int32) = (r2 q2_0) from (Eq.symm (if_pos c4)))), N0, rfl⟩
  ·skip
   refine own_s (g' := (mkF m 8 #[.val (.long q2_0), .second] [])) (fun _ k => XS.ifNo X0.here hx rfl (hb hby d2_5) rfl ((if0 _ _).trans (flt (mt (lw_lt q2_0 (110 : Int64)).mp c4)).1) k) ?_
   refine own_s (g' := (mkF m 9 #[.val (.long q2_0), .second] [(.long q2_0)])) (fun _ k => XS.lloadN X0.here hx rfl (hb hby d2_8) rfl k) ?_
   refine own_s (g' := (mkF m 12 #[.val (.long q2_0), .second] [(.long 112), (.long q2_0)])) (X0.ldc2Long hx hown (mvT hZ ww14) (g := (mkF m 9 #[.val (.long q2_0), .second] [(.long q2_0)])) rfl (hb hby d2_9)) ?_
   refine own_s (g' := (mkF m 13 #[.val (.long q2_0), .second] [(.int (lcmpW q2_0 (112 : Int64)))])) (fun _ k => XS.lcmp X0.here hx rfl (hb hby d2_12) rfl k) ?_
   by_cases c5 : (112 : Int64) < q2_0
   ·skip
    refine own_s (g' := (mkF m 20 #[.val (.long q2_0), .second] [])) (fun _ k => XS.ifYes X0.here hx rfl (pc0 := 13) (pc' := 20) rfl (hb hby d2_13) rfl ((if0 _ _).trans (tlt ((lw_gt q2_0 (112 : Int64)).mpr c5)).2.2.1) (by decide) (by decide) k) ?_
    refine own_s (g' := (mkF m 21 #[.val (.long q2_0), .second] [(.int 0)])) (fun _ k => XS.iconst X0.here hx rfl (hb hby d2_20) k) ?_
    refine own_retN X0 hx hlk (t := .boolean) hret (by simp) (hb hby d2_21) (z' := (0 : Int32)) (by decide) (by decide) (by decide) ?_
    show Q2 Z q2_0 h0 n0 _ s₁.heap _
    rw [e0]
    exact ⟨(congrArg (fun z => some (Value.int z)) (show (0 : Int32) = (r2 q2_0) from (Eq.symm ((if_neg c4).trans (if_pos c5))))), N0, rfl⟩
   ·skip
    refine own_s (g' := (mkF m 16 #[.val (.long q2_0), .second] [])) (fun _ k => XS.ifNo X0.here hx rfl (hb hby d2_13) rfl ((if0 _ _).trans (flt (mt (lw_gt q2_0 (112 : Int64)).mp c5)).2.2.1) k) ?_
    refine own_s (g' := (mkF m 17 #[.val (.long q2_0), .second] [(.int 1)])) (fun _ k => XS.iconst X0.here hx rfl (hb hby d2_16) k) ?_
    refine own_s (g' := (mkF m 21 #[.val (.long q2_0), .second] [(.int 1)])) (fun _ k => XS.goto X0.here hx rfl (pc0 := 17) (pc' := 21) rfl (hb hby d2_17) (by decide) (by decide) k) ?_
    refine own_retN X0 hx hlk (t := .boolean) hret (by simp) (hb hby d2_21) (z' := (1 : Int32)) (by decide) (by decide) (by decide) ?_
    show Q2 Z q2_0 h0 n0 _ s₁.heap _
    rw [e0]
    exact ⟨(congrArg (fun z => some (Value.int z)) (show (1 : Int32) = (r2 q2_0) from (Eq.symm ((if_neg c4).trans (if_neg c5))))), N0, rfl⟩
theorem own_q (v : Int64) : r1 v = r2 v := by
  unfold r1 r2
  simp only [Int64.lt_iff_toInt_lt, ← Int64.toInt_inj, show (110 : Int64).toInt = 110 from by decide, show (111 : Int64).toInt = 111 from by decide, show (112 : Int64).toInt = 112 from by decide]
  split <;> (try split) <;> (try split) <;> (try split) <;> (try split) <;> first | rfl | omega
theorem pd__J_Z : parseMethodDescriptor "(J)Z" = some ⟨[.long], some .boolean⟩ := by decide +kernel
theorem ef_0 (m : MethodId) (q0_0 : Int64) (p0_1 : Int32) (p0_2 : Int32) : entryFrame m #[(.long q0_0), (.int p0_1), (.int p0_2)] maxLocals = mkF m 0 #[.val (.long q0_0), .second, .val (.int p0_1), .val (.int p0_2), .unset, .unset, .unset, .unset, .unset, .unset, .unset] [] := by first | (simp [entryFrame, mkF, argsToLocals, Value.category, maxLocals]; done) | rfl
def t0_30 (p0_1 : Int32) : Int64 := ((108 : Int64) + ((p0_1 &&& (2147483647 : Int32)) % (7 : Int32)).toInt64)
def t0_60 (p0_1 : Int32) (p0_2 : Int32) : Int64 := ((p0_2.toInt64 <<< ((32 : Int32) &&& 0x3f).toInt64) + (t0_30 p0_1))
def Q0 (Z : State) (q0_0 : Int64) (p0_1 : Int32) (p0_2 : Int32) (h0 : Heap) (n0 : Nat) (v : Option Value) (h : Heap) (L : List Loc) : Prop := v = some (.int (1 : Int32)) ∧ Fr n0 L
set_option maxRecDepth 65536 in
set_option maxHeartbeats 40000000 in
theorem rm0 (l : Launch) (Z : State) (a0 : Array Value) (hw : ∀ d ∈ tables_1, d.before a0 Z = true) (ws : List Jvm.Cond) (q0_0 : Int64) (p0_1 : Int32) (p0_2 : Int32) (h0 : Heap) (n0 : Nat) (Z0 : n0 ≤ h0.size) :
    MetFree l x (head1 (Jvm.Cond.code x code maxLocals ret :: ws) room_1) (fun a U => a = #[(.long q0_0), (.int p0_1), (.int p0_2)] ∧ Z.Warmed39 U.vm ∧ U.heap = h0) (fun _ _ _ _ _ => True) (fun _ U o U' => ∃ v L, o = .returned v ∧ Q0 Z q0_0 p0_1 p0_2 h0 n0 v U'.heap L ∧ FrameEnd U o U' L 0 0) := by
  refine MetFree.of_bodySF (plainFor_of_name pn_com_example_arcwise_arcwise_OidTagsIsOidTagPinLaw) hisR ?_
  intro p e s m args below meth c s₁ Bd hml0 hP hK
  obtain ⟨rfl, hZ, hh⟩ := hP
  have hx := Bd.exec
  have hby := Bd.bytes
  have hlk := Bd.notSynchronized
  have hret := Bd.returns
  have hml : c.maxLocals = 11 := hml0
  have hown : s.vm.findClass "com/example/arcwise/arcwise/OidTagsIsOidTagPinLaw" = some m.cls := findClass_of_methodNamed Bd.named
  have hnm := (name_of_methodNamed Bd.named Bd.method).1
  have X0 : Stand p l e room_1 s m #[(.long q0_0), (.int p0_1), (.int p0_2)] below meth c s₁ [] 0 0 := Stand.of_body Bd
  have e0 : s₁.heap = h0 := by rw [← hh, Bd.state]; rfl
  have N0 := Fr.nil n0
  have K0 : Keep h0 h0 [] := Keep.refl _ _
  show own_G p e below s (Q0 Z q0_0 p0_1 p0_2 h0 n0) 0 0 s₁ (entryFrame m #[(.long q0_0), (.int p0_1), (.int p0_2)] maxLocals)
  have ww0 := hw _ (List.mem_of_getElem? (i := 0) rfl)
  have ww1 := hw _ (List.mem_of_getElem? (i := 1) rfl)
  have ww2 := hw _ (List.mem_of_getElem? (i := 2) rfl)
  have ww3 := hw _ (List.mem_of_getElem? (i := 3) rfl)
  have ww7 := hw _ (List.mem_of_getElem? (i := 7) rfl)
  have ww8 := hw _ (List.mem_of_getElem? (i := 8) rfl)
  have ww9 := hw _ (List.mem_of_getElem? (i := 9) rfl)
  have ww10 := hw _ (List.mem_of_getElem? (i := 10) rfl)
  have ww12 := hw _ (List.mem_of_getElem? (i := 12) rfl)
  have ww13 := hw _ (List.mem_of_getElem? (i := 13) rfl)
  refine own_cast (ef_0 m q0_0 p0_1 p0_2) ?_
  refine own_s (g' := (mkF m 1 #[.val (.long q0_0), .second, .val (.int p0_1), .val (.int p0_2), .unset, .unset, .unset, .unset, .unset, .unset, .unset] [(.long q0_0)])) (fun _ k => XS.lloadN X0.here hx rfl (hb hby at_0) rfl k) ?_
  obtain ⟨_, _, ⟨T6, L6, k6, n6⟩, -, X6, ⟨Lc6, hQ6, l6, y6, z6⟩, st6⟩ := Jvm.LawKit.callS X0 hx (y := (⟨"com/example/arcwise/arcwise/OidTags", "isOidTag", "(J)Z"⟩ : MethodName)) hown (mvT hZ ww0) (mvT hZ ww1) (mvT hZ ww2) (mvT hZ ww3) (by decide) (backOf (W := 0) (rm1 l Z a0 hw [] q0_0 h0 n0 Z0 ) hZ ww3 ww2 (by decide) (by decide)) (g := (mkF m 1 #[.val (.long q0_0), .second, .val (.int p0_1), .val (.int p0_2), .unset, .unset, .unset, .unset, .unset, .unset, .unset] [(.long q0_0)])) rfl (by rw [hml]; rfl) (argsL := [(.long q0_0)]) (rest := []) (lenOf pd__J_Z rfl) rfl (by show 2 * 0 + _ ≤ _; exact Nat.le_of_eq rfl) (hb hby at_1) (fun _ _ => ⟨rfl, e0, (by decide : 0 + 0 ≤ _), (by decide : 0 + 0 ≤ _)⟩)
  dsimp only [Pt.U, Pt.locs, Pt.cells, Pt.slots] at X6 l6 y6 z6 st6 hQ6
  subst l6 y6 z6
  obtain ⟨rfl, N6q, eh6⟩ := hQ6
  have N6 := Fr.app N0 N6q
  refine own_s (g' := (mkF m 4 #[.val (.long q0_0), .second, .val (.int p0_1), .val (.int p0_2), .unset, .unset, .unset, .unset, .unset, .unset, .unset] [(.int (r1 q0_0))])) st6 ?_
  refine own_s (g' := (mkF m 5 #[.val (.long q0_0), .second, .val (.int p0_1), .val (.int p0_2), .unset, .unset, .unset, .unset, .unset, .unset, .unset] [(.long q0_0), (.int (r1 q0_0))])) (fun _ k => XS.lloadN X6.here hx rfl (hb hby at_4) rfl k) ?_
  obtain ⟨_, _, ⟨T7, L7, k7, n7⟩, -, X7, ⟨Lc7, hQ7, l7, y7, z7⟩, st7⟩ := Jvm.LawKit.callS X6 hx (y := (⟨"com/example/arcwise/arcwise/OidTagsIsOidTagPinLaw", "expected", "(J)Z"⟩ : MethodName)) hown (mvT hZ ww7) (mvT hZ ww8) (mvT hZ ww9) (mvT hZ ww10) (by decide) (backOf (W := 1) (rm2 l Z a0 hw [] q0_0 h0 n0 Z0 ) hZ ww10 ww9 (by decide) (by decide)) (g := (mkF m 5 #[.val (.long q0_0), .second, .val (.int p0_1), .val (.int p0_2), .unset, .unset, .unset, .unset, .unset, .unset, .unset] [(.long q0_0), (.int (r1 q0_0))])) rfl (by rw [hml]; rfl) (argsL := [(.long q0_0)]) (rest := [(.int (r1 q0_0))]) (lenOf pd__J_Z rfl) rfl (by show 2 * 0 + _ ≤ _; exact Nat.le_of_eq rfl) (hb hby at_5) (fun _ _ => ⟨rfl, eh6, (by decide : 0 + 0 ≤ _), (by decide : 0 + 0 ≤ _)⟩)
  dsimp only [Pt.U, Pt.locs, Pt.cells, Pt.slots] at X7 l7 y7 z7 st7 hQ7
  subst l7 y7 z7
  obtain ⟨rfl, N7q, eh7⟩ := hQ7
  have N7 := Fr.app N6 N7q
  refine own_s (g' := (mkF m 8 #[.val (.long q0_0), .second, .val (.int p0_1), .val (.int p0_2), .unset, .unset, .unset, .unset, .unset, .unset, .unset] [(.int (r2 q0_0)), (.int (r1 q0_0))])) st7 ?_
  refine own_s (g' := (mkF m 11 #[.val (.long q0_0), .second, .val (.int p0_1), .val (.int p0_2), .unset, .unset, .unset, .unset, .unset, .unset, .unset] [])) (fun _ k => XS.icmpNo X7.here hx rfl (hb hby at_8) rfl (teq ((own_q _) : (r1 q0_0) = (r2 q0_0))).2 k) ?_
  refine own_s (g' := (mkF m 12 #[.val (.long q0_0), .second, .val (.int p0_1), .val (.int p0_2), .unset, .unset, .unset, .unset, .unset, .unset, .unset] [(.int 1)])) (fun _ k => XS.iconst X7.here hx rfl (hb hby at_11) k) ?_
  refine own_s (g' := (mkF m 16 #[.val (.long q0_0), .second, .val (.int p0_1), .val (.int p0_2), .unset, .unset, .unset, .unset, .unset, .unset, .unset] [(.int 1)])) (fun _ k => XS.goto X7.here hx rfl (pc0 := 12) (pc' := 16) rfl (hb hby at_12) (by decide) (by decide) k) ?_
  refine own_s (g' := (mkF m 18 #[.val (.long q0_0), .second, .val (.int p0_1), .val (.int p0_2), .val (.int 1), .unset, .unset, .unset, .unset, .unset, .unset] [])) (fun _ k => XS.istore X7.here hx rfl (hb hby at_16) rfl (l' := #[.val (.long q0_0), .second, .val (.int p0_1), .val (.int p0_2), .val (.int 1), .unset, .unset, .unset, .unset, .unset, .unset]) rfl k) ?_
  refine own_s (g' := (mkF m 21 #[.val (.long q0_0), .second, .val (.int p0_1), .val (.int p0_2), .val (.int 1), .unset, .unset, .unset, .unset, .unset, .unset] [(.long 108)])) (X7.ldc2Long hx hown (mvT hZ ww12) (g := (mkF m 18 #[.val (.long q0_0), .second, .val (.int p0_1), .val (.int p0_2), .val (.int 1), .unset, .unset, .unset, .unset, .unset, .unset] [])) rfl (hb hby at_18)) ?_
  refine own_s (g' := (mkF m 22 #[.val (.long q0_0), .second, .val (.int p0_1), .val (.int p0_2), .val (.int 1), .unset, .unset, .unset, .unset, .unset, .unset] [(.int p0_1), (.long 108)])) (fun _ k => XS.iloadN X7.here hx rfl (hb hby at_21) rfl k) ?_
  refine own_s (g' := (mkF m 24 #[.val (.long q0_0), .second, .val (.int p0_1), .val (.int p0_2), .val (.int 1), .unset, .unset, .unset, .unset, .unset, .unset] [(.int 2147483647), (.int p0_1), (.long 108)])) (X7.ldcInt hx hown (mvT hZ ww13) (g := (mkF m 22 #[.val (.long q0_0), .second, .val (.int p0_1), .val (.int p0_2), .val (.int 1), .unset, .unset, .unset, .unset, .unset, .unset] [(.int p0_1), (.long 108)])) rfl (hb hby at_22)) ?_
  refine own_s (g' := (mkF m 25 #[.val (.long q0_0), .second, .val (.int p0_1), .val (.int p0_2), .val (.int 1), .unset, .unset, .unset, .unset, .unset, .unset] [(.int (p0_1 &&& (2147483647 : Int32))), (.long 108)])) (fun _ k => XS.iand X7.here hx rfl (hb hby at_24) rfl k) ?_
  refine own_s (g' := (mkF m 27 #[.val (.long q0_0), .second, .val (.int p0_1), .val (.int p0_2), .val (.int 1), .unset, .unset, .unset, .unset, .unset, .unset] [(.int 7), (.int (p0_1 &&& (2147483647 : Int32))), (.long 108)])) (fun _ k => XS.bipush X7.here hx rfl (hb hby at_25) k) ?_
  refine own_s (g' := (mkF m 28 #[.val (.long q0_0), .second, .val (.int p0_1), .val (.int p0_2), .val (.int 1), .unset, .unset, .unset, .unset, .unset, .unset] [(.int ((p0_1 &&& (2147483647 : Int32)) % (7 : Int32))), (.long 108)])) (fun _ k => iremM X7 hx rfl (hb hby at_27) rfl (by decide) k) ?_
  refine own_s (g' := (mkF m 29 #[.val (.long q0_0), .second, .val (.int p0_1), .val (.int p0_2), .val (.int 1), .unset, .unset, .unset, .unset, .unset, .unset] [(.long ((p0_1 &&& (2147483647 : Int32)) % (7 : Int32)).toInt64), (.long 108)])) (fun _ k => XS.i2l X7.here hx rfl (hb hby at_28) rfl k) ?_
  refine own_s (g' := (mkF m 30 #[.val (.long q0_0), .second, .val (.int p0_1), .val (.int p0_2), .val (.int 1), .unset, .unset, .unset, .unset, .unset, .unset] [(.long ((108 : Int64) + ((p0_1 &&& (2147483647 : Int32)) % (7 : Int32)).toInt64))])) (fun _ k => XS.ladd X7.here hx rfl (hb hby at_29) rfl k) ?_
  refine own_s (g' := (mkF m 32 #[.val (.long q0_0), .second, .val (.int p0_1), .val (.int p0_2), .val (.int 1), .val (.long (t0_30 p0_1)), .second, .unset, .unset, .unset, .unset] [])) (fun _ k => XS.lstore X7.here hx rfl (hb hby at_30) rfl (l' := #[.val (.long q0_0), .second, .val (.int p0_1), .val (.int p0_2), .val (.int 1), .val (.long (t0_30 p0_1)), .second, .unset, .unset, .unset, .unset]) rfl k) ?_
  refine own_s (g' := (mkF m 34 #[.val (.long q0_0), .second, .val (.int p0_1), .val (.int p0_2), .val (.int 1), .val (.long (t0_30 p0_1)), .second, .unset, .unset, .unset, .unset] [(.long (t0_30 p0_1))])) (fun _ k => XS.lload X7.here hx rfl (hb hby at_32) rfl k) ?_
  obtain ⟨_, _, ⟨T8, L8, k8, n8⟩, -, X8, ⟨Lc8, hQ8, l8, y8, z8⟩, st8⟩ := Jvm.LawKit.callS X7 hx (y := (⟨"com/example/arcwise/arcwise/OidTags", "isOidTag", "(J)Z"⟩ : MethodName)) hown (mvT hZ ww0) (mvT hZ ww1) (mvT hZ ww2) (mvT hZ ww3) (by decide) (backOf (W := 0) (rm1 l Z a0 hw [] (t0_30 p0_1) h0 n0 Z0 ) hZ ww3 ww2 (by decide) (by decide)) (g := (mkF m 34 #[.val (.long q0_0), .second, .val (.int p0_1), .val (.int p0_2), .val (.int 1), .val (.long (t0_30 p0_1)), .second, .unset, .unset, .unset, .unset] [(.long (t0_30 p0_1))])) rfl (by rw [hml]; rfl) (argsL := [(.long (t0_30 p0_1))]) (rest := []) (lenOf pd__J_Z rfl) rfl (by show 2 * 0 + _ ≤ _; exact Nat.le_of_eq rfl) (hb hby at_34) (fun _ _ => ⟨rfl, eh7, (by decide : 0 + 0 ≤ _), (by decide : 0 + 0 ≤ _)⟩)
  dsimp only [Pt.U, Pt.locs, Pt.cells, Pt.slots] at X8 l8 y8 z8 st8 hQ8
  subst l8 y8 z8
  obtain ⟨rfl, N8q, eh8⟩ := hQ8
  have N8 := Fr.app N7 N8q
  refine own_s (g' := (mkF m 37 #[.val (.long q0_0), .second, .val (.int p0_1), .val (.int p0_2), .val (.int 1), .val (.long (t0_30 p0_1)), .second, .unset, .unset, .unset, .unset] [(.int (r1 (t0_30 p0_1)))])) st8 ?_
  refine own_s (g' := (mkF m 39 #[.val (.long q0_0), .second, .val (.int p0_1), .val (.int p0_2), .val (.int 1), .val (.long (t0_30 p0_1)), .second, .unset, .unset, .unset, .unset] [(.long (t0_30 p0_1)), (.int (r1 (t0_30 p0_1)))])) (fun _ k => XS.lload X8.here hx rfl (hb hby at_37) rfl k) ?_
  obtain ⟨_, _, ⟨T9, L9, k9, n9⟩, -, X9, ⟨Lc9, hQ9, l9, y9, z9⟩, st9⟩ := Jvm.LawKit.callS X8 hx (y := (⟨"com/example/arcwise/arcwise/OidTagsIsOidTagPinLaw", "expected", "(J)Z"⟩ : MethodName)) hown (mvT hZ ww7) (mvT hZ ww8) (mvT hZ ww9) (mvT hZ ww10) (by decide) (backOf (W := 1) (rm2 l Z a0 hw [] (t0_30 p0_1) h0 n0 Z0 ) hZ ww10 ww9 (by decide) (by decide)) (g := (mkF m 39 #[.val (.long q0_0), .second, .val (.int p0_1), .val (.int p0_2), .val (.int 1), .val (.long (t0_30 p0_1)), .second, .unset, .unset, .unset, .unset] [(.long (t0_30 p0_1)), (.int (r1 (t0_30 p0_1)))])) rfl (by rw [hml]; rfl) (argsL := [(.long (t0_30 p0_1))]) (rest := [(.int (r1 (t0_30 p0_1)))]) (lenOf pd__J_Z rfl) rfl (by show 2 * 0 + _ ≤ _; exact Nat.le_of_eq rfl) (hb hby at_39) (fun _ _ => ⟨rfl, eh8, (by decide : 0 + 0 ≤ _), (by decide : 0 + 0 ≤ _)⟩)
  dsimp only [Pt.U, Pt.locs, Pt.cells, Pt.slots] at X9 l9 y9 z9 st9 hQ9
  subst l9 y9 z9
  obtain ⟨rfl, N9q, eh9⟩ := hQ9
  have N9 := Fr.app N8 N9q
  refine own_s (g' := (mkF m 42 #[.val (.long q0_0), .second, .val (.int p0_1), .val (.int p0_2), .val (.int 1), .val (.long (t0_30 p0_1)), .second, .unset, .unset, .unset, .unset] [(.int (r2 (t0_30 p0_1))), (.int (r1 (t0_30 p0_1)))])) st9 ?_
  refine own_s (g' := (mkF m 45 #[.val (.long q0_0), .second, .val (.int p0_1), .val (.int p0_2), .val (.int 1), .val (.long (t0_30 p0_1)), .second, .unset, .unset, .unset, .unset] [])) (fun _ k => XS.icmpNo X9.here hx rfl (hb hby at_42) rfl (teq ((own_q _) : (r1 (t0_30 p0_1)) = (r2 (t0_30 p0_1)))).2 k) ?_
  refine own_s (g' := (mkF m 46 #[.val (.long q0_0), .second, .val (.int p0_1), .val (.int p0_2), .val (.int 1), .val (.long (t0_30 p0_1)), .second, .unset, .unset, .unset, .unset] [(.int 1)])) (fun _ k => XS.iconst X9.here hx rfl (hb hby at_45) k) ?_
  refine own_s (g' := (mkF m 50 #[.val (.long q0_0), .second, .val (.int p0_1), .val (.int p0_2), .val (.int 1), .val (.long (t0_30 p0_1)), .second, .unset, .unset, .unset, .unset] [(.int 1)])) (fun _ k => XS.goto X9.here hx rfl (pc0 := 46) (pc' := 50) rfl (hb hby at_46) (by decide) (by decide) k) ?_
  refine own_s (g' := (mkF m 52 #[.val (.long q0_0), .second, .val (.int p0_1), .val (.int p0_2), .val (.int 1), .val (.long (t0_30 p0_1)), .second, .val (.int 1), .unset, .unset, .unset] [])) (fun _ k => XS.istore X9.here hx rfl (hb hby at_50) rfl (l' := #[.val (.long q0_0), .second, .val (.int p0_1), .val (.int p0_2), .val (.int 1), .val (.long (t0_30 p0_1)), .second, .val (.int 1), .unset, .unset, .unset]) rfl k) ?_
  refine own_s (g' := (mkF m 53 #[.val (.long q0_0), .second, .val (.int p0_1), .val (.int p0_2), .val (.int 1), .val (.long (t0_30 p0_1)), .second, .val (.int 1), .unset, .unset, .unset] [(.int p0_2)])) (fun _ k => XS.iloadN X9.here hx rfl (hb hby at_52) rfl k) ?_
  refine own_s (g' := (mkF m 54 #[.val (.long q0_0), .second, .val (.int p0_1), .val (.int p0_2), .val (.int 1), .val (.long (t0_30 p0_1)), .second, .val (.int 1), .unset, .unset, .unset] [(.long p0_2.toInt64)])) (fun _ k => XS.i2l X9.here hx rfl (hb hby at_53) rfl k) ?_
  refine own_s (g' := (mkF m 56 #[.val (.long q0_0), .second, .val (.int p0_1), .val (.int p0_2), .val (.int 1), .val (.long (t0_30 p0_1)), .second, .val (.int 1), .unset, .unset, .unset] [(.int 32), (.long p0_2.toInt64)])) (fun _ k => XS.bipush X9.here hx rfl (hb hby at_54) k) ?_
  refine own_s (g' := (mkF m 57 #[.val (.long q0_0), .second, .val (.int p0_1), .val (.int p0_2), .val (.int 1), .val (.long (t0_30 p0_1)), .second, .val (.int 1), .unset, .unset, .unset] [(.long (p0_2.toInt64 <<< ((32 : Int32) &&& 0x3f).toInt64))])) (fun _ k => XS.lshl X9.here hx rfl (hb hby at_56) rfl k) ?_
  refine own_s (g' := (mkF m 59 #[.val (.long q0_0), .second, .val (.int p0_1), .val (.int p0_2), .val (.int 1), .val (.long (t0_30 p0_1)), .second, .val (.int 1), .unset, .unset, .unset] [(.long (t0_30 p0_1)), (.long (p0_2.toInt64 <<< ((32 : Int32) &&& 0x3f).toInt64))])) (fun _ k => XS.lload X9.here hx rfl (hb hby at_57) rfl k) ?_
  refine own_s (g' := (mkF m 60 #[.val (.long q0_0), .second, .val (.int p0_1), .val (.int p0_2), .val (.int 1), .val (.long (t0_30 p0_1)), .second, .val (.int 1), .unset, .unset, .unset] [(.long ((p0_2.toInt64 <<< ((32 : Int32) &&& 0x3f).toInt64) + (t0_30 p0_1)))])) (fun _ k => XS.ladd X9.here hx rfl (hb hby at_59) rfl k) ?_
  refine own_s (g' := (mkF m 62 #[.val (.long q0_0), .second, .val (.int p0_1), .val (.int p0_2), .val (.int 1), .val (.long (t0_30 p0_1)), .second, .val (.int 1), .val (.long (t0_60 p0_1 p0_2)), .second, .unset] [])) (fun _ k => XS.lstore X9.here hx rfl (hb hby at_60) rfl (l' := #[.val (.long q0_0), .second, .val (.int p0_1), .val (.int p0_2), .val (.int 1), .val (.long (t0_30 p0_1)), .second, .val (.int 1), .val (.long (t0_60 p0_1 p0_2)), .second, .unset]) rfl k) ?_
  refine own_s (g' := (mkF m 64 #[.val (.long q0_0), .second, .val (.int p0_1), .val (.int p0_2), .val (.int 1), .val (.long (t0_30 p0_1)), .second, .val (.int 1), .val (.long (t0_60 p0_1 p0_2)), .second, .unset] [(.long (t0_60 p0_1 p0_2))])) (fun _ k => XS.lload X9.here hx rfl (hb hby at_62) rfl k) ?_
  obtain ⟨_, _, ⟨T10, L10, k10, n10⟩, -, X10, ⟨Lc10, hQ10, l10, y10, z10⟩, st10⟩ := Jvm.LawKit.callS X9 hx (y := (⟨"com/example/arcwise/arcwise/OidTags", "isOidTag", "(J)Z"⟩ : MethodName)) hown (mvT hZ ww0) (mvT hZ ww1) (mvT hZ ww2) (mvT hZ ww3) (by decide) (backOf (W := 0) (rm1 l Z a0 hw [] (t0_60 p0_1 p0_2) h0 n0 Z0 ) hZ ww3 ww2 (by decide) (by decide)) (g := (mkF m 64 #[.val (.long q0_0), .second, .val (.int p0_1), .val (.int p0_2), .val (.int 1), .val (.long (t0_30 p0_1)), .second, .val (.int 1), .val (.long (t0_60 p0_1 p0_2)), .second, .unset] [(.long (t0_60 p0_1 p0_2))])) rfl (by rw [hml]; rfl) (argsL := [(.long (t0_60 p0_1 p0_2))]) (rest := []) (lenOf pd__J_Z rfl) rfl (by show 2 * 0 + _ ≤ _; exact Nat.le_of_eq rfl) (hb hby at_64) (fun _ _ => ⟨rfl, eh9, (by decide : 0 + 0 ≤ _), (by decide : 0 + 0 ≤ _)⟩)
  dsimp only [Pt.U, Pt.locs, Pt.cells, Pt.slots] at X10 l10 y10 z10 st10 hQ10
  subst l10 y10 z10
  obtain ⟨rfl, N10q, eh10⟩ := hQ10
  have N10 := Fr.app N9 N10q
  refine own_s (g' := (mkF m 67 #[.val (.long q0_0), .second, .val (.int p0_1), .val (.int p0_2), .val (.int 1), .val (.long (t0_30 p0_1)), .second, .val (.int 1), .val (.long (t0_60 p0_1 p0_2)), .second, .unset] [(.int (r1 (t0_60 p0_1 p0_2)))])) st10 ?_
  refine own_s (g' := (mkF m 69 #[.val (.long q0_0), .second, .val (.int p0_1), .val (.int p0_2), .val (.int 1), .val (.long (t0_30 p0_1)), .second, .val (.int 1), .val (.long (t0_60 p0_1 p0_2)), .second, .unset] [(.long (t0_60 p0_1 p0_2)), (.int (r1 (t0_60 p0_1 p0_2)))])) (fun _ k => XS.lload X10.here hx rfl (hb hby at_67) rfl k) ?_
  obtain ⟨_, _, ⟨T11, L11, k11, n11⟩, -, X11, ⟨Lc11, hQ11, l11, y11, z11⟩, st11⟩ := Jvm.LawKit.callS X10 hx (y := (⟨"com/example/arcwise/arcwise/OidTagsIsOidTagPinLaw", "expected", "(J)Z"⟩ : MethodName)) hown (mvT hZ ww7) (mvT hZ ww8) (mvT hZ ww9) (mvT hZ ww10) (by decide) (backOf (W := 1) (rm2 l Z a0 hw [] (t0_60 p0_1 p0_2) h0 n0 Z0 ) hZ ww10 ww9 (by decide) (by decide)) (g := (mkF m 69 #[.val (.long q0_0), .second, .val (.int p0_1), .val (.int p0_2), .val (.int 1), .val (.long (t0_30 p0_1)), .second, .val (.int 1), .val (.long (t0_60 p0_1 p0_2)), .second, .unset] [(.long (t0_60 p0_1 p0_2)), (.int (r1 (t0_60 p0_1 p0_2)))])) rfl (by rw [hml]; rfl) (argsL := [(.long (t0_60 p0_1 p0_2))]) (rest := [(.int (r1 (t0_60 p0_1 p0_2)))]) (lenOf pd__J_Z rfl) rfl (by show 2 * 0 + _ ≤ _; exact Nat.le_of_eq rfl) (hb hby at_69) (fun _ _ => ⟨rfl, eh10, (by decide : 0 + 0 ≤ _), (by decide : 0 + 0 ≤ _)⟩)
  dsimp only [Pt.U, Pt.locs, Pt.cells, Pt.slots] at X11 l11 y11 z11 st11 hQ11
  subst l11 y11 z11
  obtain ⟨rfl, N11q, eh11⟩ := hQ11
  have N11 := Fr.app N10 N11q
  refine own_s (g' := (mkF m 72 #[.val (.long q0_0), .second, .val (.int p0_1), .val (.int p0_2), .val (.int 1), .val (.long (t0_30 p0_1)), .second, .val (.int 1), .val (.long (t0_60 p0_1 p0_2)), .second, .unset] [(.int (r2 (t0_60 p0_1 p0_2))), (.int (r1 (t0_60 p0_1 p0_2)))])) st11 ?_
  refine own_s (g' := (mkF m 75 #[.val (.long q0_0), .second, .val (.int p0_1), .val (.int p0_2), .val (.int 1), .val (.long (t0_30 p0_1)), .second, .val (.int 1), .val (.long (t0_60 p0_1 p0_2)), .second, .unset] [])) (fun _ k => XS.icmpNo X11.here hx rfl (hb hby at_72) rfl (teq ((own_q _) : (r1 (t0_60 p0_1 p0_2)) = (r2 (t0_60 p0_1 p0_2)))).2 k) ?_
  refine own_s (g' := (mkF m 76 #[.val (.long q0_0), .second, .val (.int p0_1), .val (.int p0_2), .val (.int 1), .val (.long (t0_30 p0_1)), .second, .val (.int 1), .val (.long (t0_60 p0_1 p0_2)), .second, .unset] [(.int 1)])) (fun _ k => XS.iconst X11.here hx rfl (hb hby at_75) k) ?_
  refine own_s (g' := (mkF m 80 #[.val (.long q0_0), .second, .val (.int p0_1), .val (.int p0_2), .val (.int 1), .val (.long (t0_30 p0_1)), .second, .val (.int 1), .val (.long (t0_60 p0_1 p0_2)), .second, .unset] [(.int 1)])) (fun _ k => XS.goto X11.here hx rfl (pc0 := 76) (pc' := 80) rfl (hb hby at_76) (by decide) (by decide) k) ?_
  refine own_s (g' := (mkF m 82 #[.val (.long q0_0), .second, .val (.int p0_1), .val (.int p0_2), .val (.int 1), .val (.long (t0_30 p0_1)), .second, .val (.int 1), .val (.long (t0_60 p0_1 p0_2)), .second, .val (.int 1)] [])) (fun _ k => XS.istore X11.here hx rfl (hb hby at_80) rfl (l' := #[.val (.long q0_0), .second, .val (.int p0_1), .val (.int p0_2), .val (.int 1), .val (.long (t0_30 p0_1)), .second, .val (.int 1), .val (.long (t0_60 p0_1 p0_2)), .second, .val (.int 1)]) rfl k) ?_
  refine own_s (g' := (mkF m 84 #[.val (.long q0_0), .second, .val (.int p0_1), .val (.int p0_2), .val (.int 1), .val (.long (t0_30 p0_1)), .second, .val (.int 1), .val (.long (t0_60 p0_1 p0_2)), .second, .val (.int 1)] [(.int 1)])) (fun _ k => XS.iload X11.here hx rfl (hb hby at_82) rfl k) ?_
  refine own_s (g' := (mkF m 87 #[.val (.long q0_0), .second, .val (.int p0_1), .val (.int p0_2), .val (.int 1), .val (.long (t0_30 p0_1)), .second, .val (.int 1), .val (.long (t0_60 p0_1 p0_2)), .second, .val (.int 1)] [])) (fun _ k => XS.ifNo X11.here hx rfl (hb hby at_84) rfl ((if0 _ _).trans (feq ((by decide) : ¬ (1 : Int32) = (0 : Int32))).1) k) ?_
  refine own_s (g' := (mkF m 89 #[.val (.long q0_0), .second, .val (.int p0_1), .val (.int p0_2), .val (.int 1), .val (.long (t0_30 p0_1)), .second, .val (.int 1), .val (.long (t0_60 p0_1 p0_2)), .second, .val (.int 1)] [(.int 1)])) (fun _ k => XS.iload X11.here hx rfl (hb hby at_87) rfl k) ?_
  refine own_s (g' := (mkF m 92 #[.val (.long q0_0), .second, .val (.int p0_1), .val (.int p0_2), .val (.int 1), .val (.long (t0_30 p0_1)), .second, .val (.int 1), .val (.long (t0_60 p0_1 p0_2)), .second, .val (.int 1)] [])) (fun _ k => XS.ifNo X11.here hx rfl (hb hby at_89) rfl ((if0 _ _).trans (feq ((by decide) : ¬ (1 : Int32) = (0 : Int32))).1) k) ?_
  refine own_s (g' := (mkF m 94 #[.val (.long q0_0), .second, .val (.int p0_1), .val (.int p0_2), .val (.int 1), .val (.long (t0_30 p0_1)), .second, .val (.int 1), .val (.long (t0_60 p0_1 p0_2)), .second, .val (.int 1)] [(.int 1)])) (fun _ k => XS.iload X11.here hx rfl (hb hby at_92) rfl k) ?_
  refine own_s (g' := (mkF m 97 #[.val (.long q0_0), .second, .val (.int p0_1), .val (.int p0_2), .val (.int 1), .val (.long (t0_30 p0_1)), .second, .val (.int 1), .val (.long (t0_60 p0_1 p0_2)), .second, .val (.int 1)] [])) (fun _ k => XS.ifNo X11.here hx rfl (hb hby at_94) rfl ((if0 _ _).trans (feq ((by decide) : ¬ (1 : Int32) = (0 : Int32))).1) k) ?_
  refine own_s (g' := (mkF m 98 #[.val (.long q0_0), .second, .val (.int p0_1), .val (.int p0_2), .val (.int 1), .val (.long (t0_30 p0_1)), .second, .val (.int 1), .val (.long (t0_60 p0_1 p0_2)), .second, .val (.int 1)] [(.int 1)])) (fun _ k => XS.iconst X11.here hx rfl (hb hby at_97) k) ?_
  refine own_s (g' := (mkF m 102 #[.val (.long q0_0), .second, .val (.int p0_1), .val (.int p0_2), .val (.int 1), .val (.long (t0_30 p0_1)), .second, .val (.int 1), .val (.long (t0_60 p0_1 p0_2)), .second, .val (.int 1)] [(.int 1)])) (fun _ k => XS.goto X11.here hx rfl (pc0 := 98) (pc' := 102) rfl (hb hby at_98) (by decide) (by decide) k) ?_
  refine own_retN X11 hx hlk (t := .boolean) hret (by simp) (hb hby at_102) (z' := (1 : Int32)) (by decide) (by decide) (by decide) ?_
  show Q0 Z q0_0 p0_1 p0_2 h0 n0 _ T11.heap _
  rw [eh11]
  exact ⟨rfl, N11⟩
set_option maxRecDepth 65536 in
set_option maxHeartbeats 40000000 in
theorem comes_1 {Post : Tables → Env → Array Value → State → Outcome → State → Prop} (hpost : ∀ tb e args s v u, (limb_1_1.after args s (.returned v) u = true ∧ limb_1_2.after args s (.returned v) u = true ∧ True) → FrameEnd s (.returned v) u (Jvm.fieldLocs frame_1_writes args s ++ Jvm.arrayLocs frame_1_arrays args s ++ Jvm.staticLocs frame_1_statics s) 0 0 → Post tb e args s (.returned v) u) :
    ArmFor flags0 classFile x code maxLocals ret World_1 tables_1 room_1 Calls_1 rest_1 Pre_1 Post := by
  intro l hfl _ _ p e ha hc hk s m args below hf hA hF happ hP
  obtain ⟨hcalls, hrest, hpre⟩ := hP
  obtain ⟨-, -, -, hnamed, -, -, -, hat⟩ := (Spec.applies_iff hf).mp happ
  obtain ⟨hg, hn⟩ := and_e (Cond.before_iff.mp (show (Jvm.Cond.and given_1 narrow_1).before args s = true from hpre))
  obtain ⟨gc, hg⟩ := and_e hg
  obtain ⟨gi0, hg⟩ := and_e hg
  obtain ⟨gi1, hg⟩ := and_e hg
  obtain ⟨w0, w1, w2, rfl⟩ : ∃ w0 w1 w2 : Value, args = #[w0, w1, w2] := by
    have hs : args.size = 3 := by simpa [Cond.value, given_1] using gc
    obtain ⟨L⟩ := args
    match L, hs with
    | [w0, w1, w2], _ => exact ⟨w0, w1, w2, rfl⟩
  have hw := fun d (hd : d ∈ tables_1) => atoms_spec (ws := Jvm.Cond.code x code maxLocals ret :: tables_1) hat d (List.mem_cons_of_mem _ hd)
  obtain ⟨i0, ei0⟩ := isL_v gi0
  obtain rfl : w0 = (.long i0) := Option.some.inj ei0
  obtain ⟨i1, ei1⟩ := is_v gi1
  obtain rfl : w1 = (.int i1) := Option.some.inj ei1
  obtain ⟨i2, ei2⟩ := is_v hg
  obtain rfl : w2 = (.int i2) := Option.some.inj ei2
  obtain ⟨n, o, h1, h2, h3, _, L, rfl, ⟨rfl, N⟩, hq⟩ := rm0 l s _ hw tables_1 i0 i1 i2 s.heap s.heap.size (Nat.le_refl _)  p e ha hc hk s m _ below hf ((Spec.applies_iff_loose hf).mp happ).1 ⟨rfl, State.Warmed39.refl s, rfl⟩ trivial
  refine ⟨n, _, h1, h2, h3, hpost _ _ _ _ _ _ ⟨Cond.after_iff.mpr rfl, Cond.after_iff.mpr (eq_i res_at (Term.int_eval (1)) rfl), trivial⟩ ⟨hq.1, hq.2.1, (hq.2.2.sift fun y hy => Or.inr (N y hy)).mono (by decide) (by decide)⟩⟩
theorem main_1_1 : Claimed_1_1 := comes_1 fun _ _ _ _ _ _ h hF => ⟨h.1, hF⟩
theorem main_1_2 : Claimed_1_2 := comes_1 fun _ _ _ _ _ _ h hF => ⟨h.2.1, hF⟩
end Jvm.Pilot.@@N@@
namespace Jvm.Pilot.@@N@@
open Jvm Jvm.ClassFile Sem Op Lib Jvm.Free Jvm.Stand Jvm.Pilot.@@N@@.Jvm.D
/-! MADE BY PROGRAM (witnessworld.py) out of the Statement's table words and the real class files: 9 classes; the members and pool entries that the words name. The judged class is class 1, her method 2. -/
namespace start1
open Jvm.ClassFile
def u (s : String) : CpInfo := .utf8 (stringToUtf16 s)
/-- a pool by its gaps: so many unusable entries, then the entry; so many at the end -/
def gap : Nat → List CpInfo → List CpInfo
  | 0, r => r
  | n + 1, r => .unusable :: gap n r
def poolList (es : List (Nat × CpInfo)) (last : Nat) : List CpInfo := es.foldr (fun e r => gap e.1 (e.2 :: r)) (gap last [])
def pool (es : List (Nat × CpInfo)) (last : Nat) : Array CpInfo := ⟨poolList es last⟩
def fileOf (pool : Array CpInfo) (this : Nat) (attrs : Array Attribute := #[]) (ms : Array MethodInfo := #[]) (fl : Nat := 33) (sup : Nat := 0) (ifs : Array Nat := #[]) (fds : Array FieldInfo := #[]) : ClassFile where
  minorVersion := 0
  majorVersion := 65
  constantPool := pool
  accessFlags := fl
  thisClass := this
  superClass := sup
  interfaces := ifs
  fields := fds
  methods := ms
  attributes := attrs
def plain (name : String) (sup : Option ClassId) : Class where
  name := name
  kind := .ordinary
  loader := none
  accessFlags := 33
  super := sup
  interfaces := #[]
  cf := none
  fields := #[]
  methods := #[]
  instanceTypes := #[]
  staticTypes := #[]
  resolved := #[]
  callSites := []
  init := .initialized
  statics := none
  mirror := none

def pool0 : Array CpInfo := pool [(5, u "<init>"), (0, u "()V"), (1, .class_ 10), (1, u "java/lang/Object")] 113

def k0m0 : Method := { name := "<init>", desc := "()V", sig := { parameters := [], returnType := none }, accessFlags := 1, code := none }
/-- java/lang/Object -/
def k0 : Class := { plain "java/lang/Object" none with
  accessFlags := 33
  interfaces := #[]
  cf := some (fileOf pool0 8 #[] #[{ accessFlags := 1, nameIndex := 5, descriptorIndex := 6, attributes := #[] }] 33 0 #[] #[])
  fields := #[]
  methods := #[k0m0]
  instanceTypes := #[]
  staticTypes := #[]
  resolved := Array.replicate 124 none
  statics := none }

def pool1 : Array CpInfo := pool [(2, .class_ 4), (1, u "java/lang/Object"), (0, u "<init>"), (0, u "()V"), (0, .long 110), (1, .long 112), (1, .methodref 12 13), (0, .class_ 14), (0, .nameAndType 15 16), (0, u "com/example/arcwise/arcwise/OidTags"), (0, u "isOidTag"), (0, u "(J)Z"), (0, .methodref 18 19), (0, .class_ 20), (0, .nameAndType 21 16), (0, u "com/example/arcwise/arcwise/OidTagsIsOidTagPinLaw"), (0, u "expected"), (0, .long 108), (1, .integer 2147483647), (3, u "law"), (0, u "(JII)Z")] 2

def k1m0 : Method := { name := "<init>", desc := "()V", sig := { parameters := [], returnType := none }, accessFlags := 2, code := none }
def k1c1 : Code := { maxStack := 4, maxLocals := 2, code := method_2_code, exceptionTable := #[], attributes := #[] }
def k1m1 : Method := { name := "expected", desc := "(J)Z", sig := { parameters := [.long], returnType := some .boolean }, accessFlags := 10, code := some k1c1 }
def k1c2 : Code := { maxStack := 4, maxLocals := 11, code := code, exceptionTable := #[], attributes := #[] }
def k1m2 : Method := { name := "law", desc := "(JII)Z", sig := { parameters := [.long, .int, .int], returnType := some .boolean }, accessFlags := 9, code := some k1c2 }
/-- com/example/arcwise/arcwise/OidTagsIsOidTagPinLaw -/
def k1 : Class := { plain "com/example/arcwise/arcwise/OidTagsIsOidTagPinLaw" (some 0) with
  accessFlags := 49
  interfaces := #[]
  cf := some (fileOf pool1 18 #[] #[{ accessFlags := 2, nameIndex := 5, descriptorIndex := 6, attributes := #[] }, { accessFlags := 10, nameIndex := 21, descriptorIndex := 16, attributes := #[] }, { accessFlags := 9, nameIndex := 28, descriptorIndex := 29, attributes := #[] }] 49 2 #[] #[])
  fields := #[]
  methods := #[k1m0, k1m1, k1m2]
  instanceTypes := #[]
  staticTypes := #[]
  resolved := Array.replicate 32 none
  statics := none }

def pool2 : Array CpInfo := pool [(2, .class_ 4), (1, u "java/lang/Object"), (0, u "<init>"), (0, u "()V"), (1, .class_ 10), (1, u "com/example/arcwise/arcwise/OidTags"), (0, u "isOidTag"), (0, u "(J)Z"), (17, .long 110), (1, .long 111), (1, .long 112), (39, u "PEN_PREFIX"), (0, u "[B"), (28, .class_ 106), (1, u "com/example/arcwise/arcwise/OidTags$TaggedByteString"), (165, u "RELATIVE_OID"), (0, u "I"), (2, u "OID"), (1, u "PEN_RELATIVE_OID")] 65

def k2m0 : Method := { name := "<init>", desc := "()V", sig := { parameters := [], returnType := none }, accessFlags := 2, code := none }
def k2c1 : Code := { maxStack := 4, maxLocals := 2, code := prog_25_method_4_code, exceptionTable := #[], attributes := #[] }
def k2m1 : Method := { name := "isOidTag", desc := "(J)Z", sig := { parameters := [.long], returnType := some .boolean }, accessFlags := 8, code := some k2c1 }
/-- com/example/arcwise/arcwise/OidTags -/
def k2 : Class := { plain "com/example/arcwise/arcwise/OidTags" (some 0) with
  accessFlags := 49
  interfaces := #[]
  cf := some (fileOf pool2 8 #[.nestMembers #[104]] #[{ accessFlags := 2, nameIndex := 5, descriptorIndex := 6, attributes := #[] }, { accessFlags := 8, nameIndex := 11, descriptorIndex := 12, attributes := #[] }] 49 2 #[] #[{ accessFlags := 25, nameIndex := 272, descriptorIndex := 273, attributes := #[] }, { accessFlags := 25, nameIndex := 276, descriptorIndex := 273, attributes := #[] }, { accessFlags := 25, nameIndex := 278, descriptorIndex := 273, attributes := #[] }, { accessFlags := 26, nameIndex := 74, descriptorIndex := 75, attributes := #[] }])
  fields := #[{ name := "RELATIVE_OID", type := .int, accessFlags := 25, slot := 0, constantValue := 0 }, { name := "OID", type := .int, accessFlags := 25, slot := 1, constantValue := 0 }, { name := "PEN_RELATIVE_OID", type := .int, accessFlags := 25, slot := 2, constantValue := 0 }, { name := "PEN_PREFIX", type := (.array .byte), accessFlags := 26, slot := 3, constantValue := 0 }]
  methods := #[k2m0, k2m1]
  instanceTypes := #[]
  staticTypes := #[.int, .int, .int, (.array .byte)]
  resolved := Array.replicate 344 none
  statics := none }

def pool3 : Array CpInfo := pool [(1, u "java/lang/Cloneable"), (0, .class_ 1), (0, u "java/lang/Object"), (0, .class_ 3)] 3

/-- java/lang/Cloneable -/
def k3 : Class := { plain "java/lang/Cloneable" (some 0) with
  accessFlags := 1537
  interfaces := #[]
  cf := some (fileOf pool3 2 #[] #[] 1537 4 #[] #[])
  fields := #[]
  methods := #[]
  instanceTypes := #[]
  staticTypes := #[]
  resolved := Array.replicate 8 none
  statics := none }

def pool4 : Array CpInfo := pool [(1, u "java/io/Serializable"), (0, .class_ 1), (0, u "java/lang/Object"), (0, .class_ 3)] 3

/-- java/io/Serializable -/
def k4 : Class := { plain "java/io/Serializable" (some 0) with
  accessFlags := 1537
  interfaces := #[]
  cf := some (fileOf pool4 2 #[] #[] 1537 4 #[] #[])
  fields := #[]
  methods := #[]
  instanceTypes := #[]
  staticTypes := #[]
  resolved := Array.replicate 8 none
  statics := none }

/-- the primitive byte -/
def k5 : Class := { plain "byte" none with kind := .primitive 'B', accessFlags := 0x411 }
/-- [B -/
def k6 : Class := { plain "[B" (some 0) with kind := .array 5 .byte, interfaces := #[3, 4], accessFlags := 1041 }

/-- the primitive int -/
def k7 : Class := { plain "int" none with kind := .primitive 'I', accessFlags := 0x411 }
/-- [I -/
def k8 : Class := { plain "[I" (some 0) with kind := .array 7 .int, interfaces := #[3, 4], accessFlags := 1041 }

def heap : Heap := #[]
def classes : Array Class := #[k0, k1, k2, k3, k4, k5, k6, k7, k8]
def interned : List (Array UInt16 × Addr) := []
def slotsUsed : Nat := 0
def theMethod : MethodId := ⟨1, 2⟩
def args0 : Array Value := #[.long 7, .int 5, .int 5]
def aboutOver (below : List Frame) : State where
  vm := { classes := classes, interned := interned.toArray }
  heap := heap
  slotsUsed := slotsUsed
  threads := #[{ frames := .invoking theMethod args0 :: below }]
def below0 : List Frame := [.native { method := ⟨0, 0⟩, args := #[] }]
def about1 : State := aboutOver below0
def p0 : Program := .bare "" "" ""
def e0 : Env := launch0.env 0 0 0
theorem w_frames : about1.frames = Frame.invoking theMethod args0 :: below0 := rfl
set_option maxRecDepth 65536 in
theorem w_args : argsFit about1.vm theMethod args0 = true := by decide +kernel
set_option maxRecDepth 65536 in
theorem w_heap : heapFits about1 = true := by decide +kernel
set_option maxRecDepth 65536 in
theorem w_runnable : about1.curStatus? = some .runnable := by decide +kernel
set_option maxRecDepth 65536 in
theorem w_alone : about1.alone = true := by decide +kernel
set_option maxRecDepth 65536 in
theorem w_named : about1.methodNamed? x = some theMethod := by decide +kernel
set_option maxRecDepth 65536 in
theorem w_hears : about1.hears theMethod below0 = true := by decide +kernel
set_option maxRecDepth 65536 in
theorem w_ripe : about1.ripe theMethod args0 below0 = true := by decide +kernel
theorem w_running : about1.status = .running := rfl
set_option maxRecDepth 65536 in
theorem w_room : about1.hasRoom e0.platform room_1 = true :=
  launch0.hasRoom_least _ room_1 (by decide +kernel) (by decide +kernel) (by decide +kernel) (by decide +kernel) (by decide +kernel) (by decide +kernel)
theorem allAtoms_all (ts : List Jvm.Cond) (a : Array Jvm.Value) (st : Jvm.State) : (allAtoms ts).before a st = ts.all (fun c => c.before a st) := by
  induction ts with
  | nil => rfl
  | cons c t ih =>
    show (Jvm.Cond.and c (allAtoms t)).before a st = _
    rw [Jvm.Cond.before_and, ih, List.all_cons]
def words1 : List Jvm.Cond := Jvm.Cond.code x code maxLocals ret :: tables_1
/-- a 'code' word, met by the world's own term for the bytes: nothing is compared byte by byte -/
theorem code_word {y : MethodName} {bytes : ByteArray} {mx : Nat} {rt : Option FieldType} {a : Array Value} {s : State} {m : MethodId} {meth : Method} {c : Code} (h1 : s.methodNamed? y = some m) (h2 : s.vm.method? m = some meth) (h3 : meth.code = some c) (h4 : c.code = bytes)
    (h5 : (c.maxLocals == mx && c.exceptionTable.isEmpty && decide (c.maxStack ≤ mostOperands) && decide (meth.sig.returnType = rt) && !meth.locks && decide (parseMethodDescriptor y.desc = some meth.sig)) = true) : (Jvm.Cond.code y bytes mx rt).before a s = true := by
  simp only [Bool.and_eq_true, beq_iff_eq, Bool.not_eq_true', decide_eq_true_eq] at h5
  obtain ⟨⟨⟨⟨⟨g1, g2⟩, g3⟩, g4⟩, g5⟩, g6⟩ := h5
  simp [Cond.before, Cond.holds, Cond.value, h1, h2, h3, h4, g1, g2, g3, g4, g5, g6]
def isCode : Jvm.Cond → Bool
  | .code _ _ _ _ => true
  | _ => false
theorem all_split {L : List Jvm.Cond} {P : Jvm.Cond → Bool} (h1 : L.all (fun c => isCode c || P c) = true) (h2 : ∀ c ∈ L.filter isCode, P c = true) : L.all P = true := by
  refine List.all_eq_true.mpr fun c hc => ?_
  have h := List.all_eq_true.mp h1 c hc
  rcases Bool.eq_false_or_eq_true (isCode c) with hi | hi
  · exact h2 c (List.mem_filter.mpr ⟨hc, hi⟩)
  · simpa [hi] using h
set_option maxRecDepth 65536 in
theorem w_c0 : (Jvm.Cond.code x code maxLocals ret).before args0 about1 = true := code_word (m := ⟨1, 2⟩) (meth := k1m2) (c := k1c2) (by decide +kernel) rfl rfl rfl (by decide +kernel)
set_option maxRecDepth 65536 in
theorem w_c1 : (Jvm.Cond.code ({ cls := "com/example/arcwise/arcwise/OidTags", name := "isOidTag", desc := "(J)Z" } : Jvm.MethodName) prog_25_method_4_code (2 : Nat) (Option.some Jvm.ClassFile.FieldType.boolean)).before args0 about1 = true := code_word (m := ⟨2, 1⟩) (meth := k2m1) (c := k2c1) (by decide +kernel) rfl rfl rfl (by decide +kernel)
set_option maxRecDepth 65536 in
theorem w_c2 : (Jvm.Cond.code ({ cls := "com/example/arcwise/arcwise/OidTagsIsOidTagPinLaw", name := "expected", desc := "(J)Z" } : Jvm.MethodName) method_2_code (2 : Nat) (Option.some Jvm.ClassFile.FieldType.boolean)).before args0 about1 = true := code_word (m := ⟨1, 1⟩) (meth := k1m1) (c := k1c1) (by decide +kernel) rfl rfl rfl (by decide +kernel)
def codes1 : List Jvm.Cond := [Jvm.Cond.code x code maxLocals ret, Jvm.Cond.code ({ cls := "com/example/arcwise/arcwise/OidTags", name := "isOidTag", desc := "(J)Z" } : Jvm.MethodName) prog_25_method_4_code (2 : Nat) (Option.some Jvm.ClassFile.FieldType.boolean), Jvm.Cond.code ({ cls := "com/example/arcwise/arcwise/OidTagsIsOidTagPinLaw", name := "expected", desc := "(J)Z" } : Jvm.MethodName) method_2_code (2 : Nat) (Option.some Jvm.ClassFile.FieldType.boolean)]
set_option maxRecDepth 65536 in
theorem codes_eq : words1.filter isCode = codes1 := rfl
theorem w_codes : ∀ c ∈ words1.filter isCode, c.before args0 about1 = true := by
  rw [codes_eq]
  intro c hc
  simp only [codes1, List.mem_cons, List.not_mem_nil, or_false] at hc
  rcases hc with rfl | rfl | rfl
  · exact w_c0
  · exact w_c1
  · exact w_c2
set_option maxRecDepth 65536 in
theorem w_t1 : words1.all (fun c => isCode c || c.before args0 about1) = true := by decide +kernel
theorem w_tables : (allAtoms (Jvm.Cond.code x code maxLocals ret :: tables_1)).before args0 about1 = true := by
  rw [allAtoms_all]
  show words1.all (fun c => c.before args0 about1) = true
  refine all_split ?_ w_codes
  rw [w_t1]
set_option maxRecDepth 65536 in
theorem w_case : (Jvm.Cond.and given_1 narrow_1).before args0 about1 = true := by decide +kernel
theorem w_applies : (headSpec (Jvm.Cond.code x code maxLocals ret :: tables_1) room_1).applies x e0.platform about1 = true :=
  (Spec.applies_iff w_frames).mpr ⟨w_running, w_runnable, w_alone, w_named, w_hears, w_ripe, w_room, w_tables⟩
theorem atStart : AtStart classFile x code maxLocals ret World_1 tables_1 room_1 Calls_1 rest_1 Pre_1 launch0 p0 e0 about1 theMethod args0 below0 :=
  ⟨lists_1, trivial, launch0.admits_env _ _ _, launch0.least_env, fairChoices_fair.cas, fairChoices_fair.clock, w_frames, w_args, w_heap, w_applies, trivial, trivial, w_case⟩
end start1
theorem witness_1 : WitnessClaimed_1 := ⟨start1.p0, start1.e0, start1.about1, start1.theMethod, start1.args0, start1.below0, start1.atStart⟩
end Jvm.Pilot.@@N@@
