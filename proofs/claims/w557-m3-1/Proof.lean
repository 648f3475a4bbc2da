import JvmDerived
import JvmDerived.Pilot.@@N@@Statement
import JvmDerived.Pilot.@@N@@Code
set_option linter.unusedVariables false
set_option linter.unusedSimpArgs false
namespace Jvm.Pilot.@@N@@
open Jvm Jvm.ClassFile Sem Op Lib Jvm.Free Jvm.Stand Jvm.LawKit Jvm.RoadKit Bundle Jvm.Pilot.@@N@@.Jvm.D
/-- what is left of a walk: from the frame g on, the run ends as K says -/
def own_G (p : Program) (e : Env) (below : List Frame) (s : State) (K : Option Value → Heap → List Loc → Prop) (nc ns : Nat) (T : State) (g : JFrame) : Prop :=
  ∃ s₂ o, Steps p.tables e below (T.setTop g) s₂ ∧ s₂.status = .running ∧ Ended s₂ below o ∧ ∃ v L, o = .returned v ∧ K v s₂.heap L ∧ FrameEnd s o s₂ L nc ns
section Own
variable {p : Program} {l : Launch} {e : Env} {R : Room} {s : State} {m : MethodId} {args : Array Value} {below : List Frame} {meth : Method} {c : Code} {T T' : State} {locs : List Loc} {cells slots : Nat} {K : Option Value → Heap → List Loc → Prop} {nc ns : Nat} {g g' : JFrame}
theorem own_s (h : ∀ t, Steps p.tables e below (T'.setTop g') t → Steps p.tables e below (T.setTop g) t) (k : own_G p e below s K nc ns T' g') : own_G p e below s K nc ns T g := by
  obtain ⟨s₂, o, h1, r⟩ := k
  exact ⟨s₂, o, h _ h1, r⟩
theorem own_trans (h : Steps p.tables e below (T.setTop g) (T'.setTop g')) (k : own_G p e below s K nc ns T' g') : own_G p e below s K nc ns T g := by
  obtain ⟨s₂, o, h1, r⟩ := k
  exact ⟨s₂, o, h.trans h1, r⟩
theorem own_cast (q : g = g') (k : own_G p e below s K nc ns T g') : own_G p e below s K nc ns T g := q ▸ k
theorem own_leave (X : Stand p l e R s m args below meth c T locs cells slots) {v : Option Value} (hlk : meth.locks = false) (hv : meth.sig.returnType = none → v = none) (hc : cells ≤ nc) (hn : slots ≤ ns) (hq : K v T.heap locs)
    (st : ∀ fs, (∀ (f : JFrame) (acts : List Action), f.method = m → f.locked = none → f.entered = [] → (doReturn e (T.setTop f) acts v).1 = T.setFrames fs) → Steps p.tables e below (T.setTop g) (T.setFrames fs)) : own_G p e below s K nc ns T g := by
  obtain ⟨fs, hr, hrun, hended, hW, hsame⟩ := X.leave (v := v) hv hlk
  exact ⟨_, _, st fs hr, hrun, hended, _, _, rfl, hq, ⟨_, rfl⟩, hW, hsame.mono hc hn⟩
theorem own_retN (X : Stand p l e R s m args below meth c T locs cells slots) (hx : p.tables.exec = Jvm.exec) (hlk : meth.locks = false) {pc : Nat} {Ls : Array Slot} {z z' : Int32} {t : FieldType} {rest : List Value} (hret : meth.sig.returnType = some t) (ht : t = .boolean ∨ t = .byte ∨ t = .char ∨ t = .short)
    (hd : decode c.code pc = .ok (.ireturn, 1)) (hz : nar t z = z') (hc : cells ≤ nc) (hn : slots ≤ ns) (hq : K (some (.int z')) T.heap locs) : own_G p e below s K nc ns T (mkF m pc Ls (.int z :: rest)) := by
  subst hz
  exact own_leave X hlk (fun h => by rw [hret] at h; cases h) hc hn hq fun fs hr => retN X hx hret ht hd hr
theorem own_retI (X : Stand p l e R s m args below meth c T locs cells slots) (hx : p.tables.exec = Jvm.exec) (hlk : meth.locks = false) {pc : Nat} {Ls : Array Slot} {z : Int32} {rest : List Value} (hret : meth.sig.returnType = some .int)
    (hd : decode c.code pc = .ok (.ireturn, 1)) (hc : cells ≤ nc) (hn : slots ≤ ns) (hq : K (some (.int z)) T.heap locs) : own_G p e below s K nc ns T (mkF m pc Ls (.int z :: rest)) :=
  own_leave X hlk (fun h => by rw [hret] at h; cases h) hc hn hq fun fs hr => retOut X hx hret rfl (Or.inl ⟨rfl, Or.inl rfl, _, rfl⟩) hd hr
theorem own_retJ (X : Stand p l e R s m args below meth c T locs cells slots) (hx : p.tables.exec = Jvm.exec) (hlk : meth.locks = false) {pc : Nat} {Ls : Array Slot} {z : Int64} {rest : List Value} (hret : meth.sig.returnType = some .long)
    (hd : decode c.code pc = .ok (.lreturn, 1)) (hc : cells ≤ nc) (hn : slots ≤ ns) (hq : K (some (.long z)) T.heap locs) : own_G p e below s K nc ns T (mkF m pc Ls (.long z :: rest)) :=
  own_leave X hlk (fun h => by rw [hret] at h; cases h) hc hn hq fun fs hr => retOut X hx hret rfl (Or.inr (Or.inl ⟨rfl, rfl, _, rfl⟩)) hd hr
theorem own_retR (X : Stand p l e R s m args below meth c T locs cells slots) (hx : p.tables.exec = Jvm.exec) (hlk : meth.locks = false) {pc : Nat} {Ls : Array Slot} {v : Value} {t : FieldType} {rest : List Value} (hret : meth.sig.returnType = some t) (ht : t.isReference = true) (hv : v.isRef = true) (hnv : narrow t v = v)
    (hd : decode c.code pc = .ok (.areturn, 1)) (hc : cells ≤ nc) (hn : slots ≤ ns) (hq : K (some v) T.heap locs) : own_G p e below s K nc ns T (mkF m pc Ls (v :: rest)) :=
  own_leave X hlk (fun h => by rw [hret] at h; cases h) hc hn hq fun fs hr => retOut X hx hret hnv (Or.inr (Or.inr (Or.inr (Or.inr ⟨rfl, ht, hv⟩)))) hd hr
theorem own_retV (X : Stand p l e R s m args below meth c T locs cells slots) (hx : p.tables.exec = Jvm.exec) (hlk : meth.locks = false) {pc : Nat} {Ls : Array Slot} (hret : meth.sig.returnType = none)
    (hd : decode c.code pc = .ok (.return_, 1)) (hc : cells ≤ nc) (hn : slots ≤ ns) (hq : K none T.heap locs) : own_G p e below s K nc ns T (mkF m pc Ls []) :=
  own_leave X hlk (fun _ => rfl) hc hn hq fun fs hr => X.returnOut hx hret hd hr
theorem own_selp {s : State} {args : Array Value} {y : MethodName} {n : Nat} (wi : (Jvm.Cond.instantiable y.cls n).before args s = true) (hp : (Jvm.Cond.privateMethod y).before args s = true) (hi : (Jvm.Cond.instanceMethod y).before args s = true)
    (hy : y.cls ≠ "java/lang/invoke/MethodHandle" ∧ y.cls ≠ "java/lang/invoke/VarHandle") : (Jvm.Cond.selects y.cls y y).before args s = true := by
  obtain ⟨c, k, h1, h2, h3, h4, -⟩ := Cond.instantiable_spec wi
  exact Jvm.Stand.selects_self_of_private h1 h2 (Bool.or_eq_false_iff.mp h4).1 (Cond.privateMethod_at hp) hi hy
theorem own_miss {k : Int32} (i : Int) (n : Int32) (e : n.toInt = i) (hc : ¬ k = n) : i ≠ k.toInt := fun h => hc (Int32.toInt_inj.mp (h.symm.trans e.symm))
theorem own_posI {x : Int32} (h : (0 : Int32) < x) : x ≠ 0 := fun q => by rw [q] at h; exact absurd h (by decide)
theorem own_posJ {x : Int64} (h : (0 : Int64) < x) : x ≠ 0 := fun q => by rw [q] at h; exact absurd h (by decide)
theorem own_asI {x y : Int32} (h : y < x) : ¬ x < y := fun q => Int32.lt_irrefl (Int32.lt_trans h q)
theorem own_asJ {x y : Int64} (h : y < x) : ¬ x < y := fun q => Int64.lt_irrefl (Int64.lt_trans h q)
theorem own_eqltI {x y : Int32} (h : x = y) : ¬ x < y := fun q => by rw [h] at q; exact Int32.lt_irrefl q
theorem own_eqltJ {x y : Int64} (h : x = y) : ¬ x < y := fun q => by rw [h] at q; exact Int64.lt_irrefl q
theorem own_triI {x y : Int32} (h : ¬ x = y) (q : ¬ y < x) : x < y := by
  rw [Int32.lt_iff_toInt_lt] at *
  rw [← Int32.toInt_inj] at h
  omega
theorem own_triJ {x y : Int64} (h : ¬ x = y) (q : ¬ y < x) : x < y := by
  rw [Int64.lt_iff_toInt_lt] at *
  rw [← Int64.toInt_inj] at h
  omega
theorem own_ltneI {x y : Int32} (h : x < y) : ¬ x = y := fun q => by rw [q] at h; exact Int32.lt_irrefl h
theorem own_ltneJ {x y : Int64} (h : x < y) : ¬ x = y := fun q => by rw [q] at h; exact Int64.lt_irrefl h
theorem own_ltne'I {x y : Int32} (h : y < x) : ¬ x = y := fun q => by rw [q] at h; exact Int32.lt_irrefl h
theorem own_ltne'J {x y : Int64} (h : y < x) : ¬ x = y := fun q => by rw [q] at h; exact Int64.lt_irrefl h
theorem own_nnI {x y : Int32} (h : ¬ x < y) (q : ¬ y < x) : x = y := by
  rw [Int32.lt_iff_toInt_lt] at *
  rw [← Int32.toInt_inj]
  omega
theorem own_nnJ {x y : Int64} (h : ¬ x < y) (q : ¬ y < x) : x = y := by
  rw [Int64.lt_iff_toInt_lt] at *
  rw [← Int64.toInt_inj]
  omega
end Own
theorem d1_0 : decode prog_70_method_1_code 0 = .ok (.aload_n 0, 1) := by decide +kernel
theorem d1_1 : decode prog_70_method_1_code 1 = .ok (.invokespecial 1, 3) := by decide +kernel
theorem d1_4 : decode prog_70_method_1_code 4 = .ok (.aload_n 0, 1) := by decide +kernel
theorem d1_5 : decode prog_70_method_1_code 5 = .ok (.lload_n 1, 1) := by decide +kernel
theorem d1_6 : decode prog_70_method_1_code 6 = .ok (.putfield 7, 3) := by decide +kernel
theorem d1_9 : decode prog_70_method_1_code 9 = .ok (.return_, 1) := by decide +kernel
theorem pn_gallai_util_RandomStream : plainName "gallai/util/RandomStream" = true := by first | (simp [plainName, overriddenIn]; done) | decide +kernel
theorem ef_1 (m : MethodId) (a1_0 : Addr) (q1_1 : Int64) : entryFrame m #[(.ref a1_0), (.long q1_1)] 3 = mkF m 0 #[.val (.ref a1_0), .val (.long q1_1), .second] [] := by first | (simp [entryFrame, mkF, argsToLocals, Value.category]; done) | rfl
def Q1 (Z : State) (a1_0 : Addr) (q1_1 : Int64) (v1_counter : Int64) (h0 : Heap) (n0 : Nat) (v : Option Value) (h : Heap) (L : List Loc) : Prop := v = none ∧ Fr n0 L ∧ Keep h0 h [a1_0] ∧ Exa Z h a1_0 "gallai/util/RandomStream" ∧ Fld Z h a1_0 "gallai/util/RandomStream" "counter" "J" (.long q1_1)
set_option maxRecDepth 65536 in
set_option maxHeartbeats 40000000 in
theorem rm1 (l : Launch) (Z : State) (a0 : Array Value) (hw : ∀ d ∈ tables_1, d.before a0 Z = true) (ws : List Jvm.Cond) (a1_0 : Addr) (q1_1 : Int64) (v1_counter : Int64) (h0 : Heap) (n0 : Nat) (Z0 : n0 ≤ h0.size) (F_counter_a1_0 : Fld Z h0 a1_0 "gallai/util/RandomStream" "counter" "J" (.long v1_counter)) (E_a1_0 : Exa Z h0 a1_0 "gallai/util/RandomStream") (g_a1_0 : n0 ≤ a1_0) :
    MetFree l (⟨"gallai/util/RandomStream", "<init>", "(J)V"⟩ : MethodName) (head1 (Jvm.Cond.code (⟨"gallai/util/RandomStream", "<init>", "(J)V"⟩ : MethodName) prog_70_method_1_code 3 none :: ws) ({ frames := 1, cells := 0, slots := 0, locals := 12 } : Room)) (fun a U => a = #[(.ref a1_0), (.long q1_1)] ∧ Z.Warmed39 U.vm ∧ U.heap = h0) (fun _ _ _ _ _ => True) (fun _ U o U' => ∃ v L, o = .returned v ∧ Q1 Z a1_0 q1_1 v1_counter h0 n0 v U'.heap L ∧ FrameEnd U o U' L ({ frames := 1, cells := 0, slots := 0, locals := 12 } : Room).cells ({ frames := 1, cells := 0, slots := 0, locals := 12 } : Room).slots) := by
  refine MetFree.of_bodySF (plainFor_of_name pn_gallai_util_RandomStream) hisR ?_
  intro p e s m args below meth c s₁ Bd hml0 hP hK
  obtain ⟨rfl, hZ, hh⟩ := hP
  have hx := Bd.exec
  have hby := Bd.bytes
  have hlk := Bd.notSynchronized
  have hret := Bd.returns
  have hml : c.maxLocals = 3 := hml0
  have hown : s.vm.findClass "gallai/util/RandomStream" = some m.cls := findClass_of_methodNamed Bd.named
  have hnm := (name_of_methodNamed Bd.named Bd.method).1
  have X0 : Stand p l e ({ frames := 1, cells := 0, slots := 0, locals := 12 } : Room) s m #[(.ref a1_0), (.long q1_1)] below meth c s₁ [] 0 0 := Stand.of_body Bd
  have e0 : s₁.heap = h0 := by rw [← hh, Bd.state]; rfl
  have N0 := Fr.nil n0
  have K0 : Keep h0 h0 [a1_0] := Keep.refl _ _
  show own_G p e below s (Q1 Z a1_0 q1_1 v1_counter h0 n0) ({ frames := 1, cells := 0, slots := 0, locals := 12 } : Room).cells ({ frames := 1, cells := 0, slots := 0, locals := 12 } : Room).slots s₁ (entryFrame m #[(.ref a1_0), (.long q1_1)] 3)
  have ww1 := hw _ (List.mem_of_getElem? (i := 1) rfl)
  have ww6 := hw _ (List.mem_of_getElem? (i := 6) rfl)
  have ww7 := hw _ (List.mem_of_getElem? (i := 7) rfl)
  have ww8 := hw _ (List.mem_of_getElem? (i := 8) rfl)
  have ww9 := hw _ (List.mem_of_getElem? (i := 9) rfl)
  have ww10 := hw _ (List.mem_of_getElem? (i := 10) rfl)
  refine own_cast (ef_1 m a1_0 q1_1) ?_
  refine own_s (g' := (mkF m 1 #[.val (.ref a1_0), .val (.long q1_1), .second] [(.ref a1_0)])) (fun _ k => XS.aloadN X0.here hx rfl (hb hby d1_0) rfl rfl k) ?_
  obtain ⟨T1, X1, e1, st1⟩ := initO X0 hx hZ hown ww6 ww7 ww8 e0 (g := (mkF m 1 #[.val (.ref a1_0), .val (.long q1_1), .second] [(.ref a1_0)])) rfl (by rw [hml]; rfl) rfl (hb hby d1_1) (by decide) (W := 0) (by show 2 * 0 + _ ≤ _; exact Nat.le_of_eq rfl) (by decide)
  refine own_s (g' := (mkF m 4 #[.val (.ref a1_0), .val (.long q1_1), .second] [])) st1 ?_
  refine own_s (g' := (mkF m 5 #[.val (.ref a1_0), .val (.long q1_1), .second] [(.ref a1_0)])) (fun _ k => XS.aloadN X1.here hx rfl (hb hby d1_4) rfl rfl k) ?_
  refine own_s (g' := (mkF m 6 #[.val (.ref a1_0), .val (.long q1_1), .second] [(.long q1_1), (.ref a1_0)])) (fun _ k => XS.lloadN X1.here hx rfl (hb hby d1_5) rfl k) ?_
  obtain ⟨T2, h2, X2, e2, W2, st2⟩ := putF X1 hx hZ hown (host := "") (Or.inl ww9) Via.refl e1 F_counter_a1_0 E_a1_0 (Or.inl ww10) ww1 (ty := .long) (by decide +kernel) rfl rfl (g := (mkF m 6 #[.val (.ref a1_0), .val (.long q1_1), .second] [(.long q1_1), (.ref a1_0)])) rfl rfl (hb hby d1_6)
  have f3 := F_counter_a1_0.same W2
  have K2 := K0.wr W2 (Or.inl (List.mem_of_getElem? (i := 0) rfl))
  have N2 := Fr.snoc X2 N0 g_a1_0
  refine own_s (g' := (mkF m 9 #[.val (.ref a1_0), .val (.long q1_1), .second] [])) st2 ?_
  have f4 := (E_a1_0.wr W2)
  refine own_retV X2 hx hlk hret (hb hby d1_9) (by decide) (by decide) ?_
  show Q1 Z a1_0 q1_1 v1_counter h0 n0 _ T2.heap _
  rw [e2]
  exact ⟨rfl, N2, K2, f4, f3⟩
theorem d3_0 : decode prog_70_method_2_code 0 = .ok (.aload_n 0, 1) := by decide +kernel
theorem d3_1 : decode prog_70_method_2_code 1 = .ok (.dup, 1) := by decide +kernel
theorem d3_2 : decode prog_70_method_2_code 2 = .ok (.getfield 7, 3) := by decide +kernel
theorem d3_5 : decode prog_70_method_2_code 5 = .ok (.ldc2_w 13, 3) := by decide +kernel
theorem d3_8 : decode prog_70_method_2_code 8 = .ok (.ladd, 1) := by decide +kernel
theorem d3_9 : decode prog_70_method_2_code 9 = .ok (.putfield 7, 3) := by decide +kernel
theorem d3_12 : decode prog_70_method_2_code 12 = .ok (.aload_n 0, 1) := by decide +kernel
theorem d3_13 : decode prog_70_method_2_code 13 = .ok (.getfield 7, 3) := by decide +kernel
theorem d3_16 : decode prog_70_method_2_code 16 = .ok (.lstore_n 1, 1) := by decide +kernel
theorem d3_17 : decode prog_70_method_2_code 17 = .ok (.lload_n 1, 1) := by decide +kernel
theorem d3_18 : decode prog_70_method_2_code 18 = .ok (.lload_n 1, 1) := by decide +kernel
theorem d3_19 : decode prog_70_method_2_code 19 = .ok (.bipush 30, 2) := by decide +kernel
theorem d3_21 : decode prog_70_method_2_code 21 = .ok (.lushr, 1) := by decide +kernel
theorem d3_22 : decode prog_70_method_2_code 22 = .ok (.lxor, 1) := by decide +kernel
theorem d3_23 : decode prog_70_method_2_code 23 = .ok (.ldc2_w 15, 3) := by decide +kernel
theorem d3_26 : decode prog_70_method_2_code 26 = .ok (.lmul, 1) := by decide +kernel
theorem d3_27 : decode prog_70_method_2_code 27 = .ok (.lstore_n 1, 1) := by decide +kernel
theorem d3_28 : decode prog_70_method_2_code 28 = .ok (.lload_n 1, 1) := by decide +kernel
theorem d3_29 : decode prog_70_method_2_code 29 = .ok (.lload_n 1, 1) := by decide +kernel
theorem d3_30 : decode prog_70_method_2_code 30 = .ok (.bipush 27, 2) := by decide +kernel
theorem d3_32 : decode prog_70_method_2_code 32 = .ok (.lushr, 1) := by decide +kernel
theorem d3_33 : decode prog_70_method_2_code 33 = .ok (.lxor, 1) := by decide +kernel
theorem d3_34 : decode prog_70_method_2_code 34 = .ok (.ldc2_w 17, 3) := by decide +kernel
theorem d3_37 : decode prog_70_method_2_code 37 = .ok (.lmul, 1) := by decide +kernel
theorem d3_38 : decode prog_70_method_2_code 38 = .ok (.lstore_n 1, 1) := by decide +kernel
theorem d3_39 : decode prog_70_method_2_code 39 = .ok (.lload_n 1, 1) := by decide +kernel
theorem d3_40 : decode prog_70_method_2_code 40 = .ok (.lload_n 1, 1) := by decide +kernel
theorem d3_41 : decode prog_70_method_2_code 41 = .ok (.bipush 31, 2) := by decide +kernel
theorem d3_43 : decode prog_70_method_2_code 43 = .ok (.lushr, 1) := by decide +kernel
theorem d3_44 : decode prog_70_method_2_code 44 = .ok (.lxor, 1) := by decide +kernel
theorem d3_45 : decode prog_70_method_2_code 45 = .ok (.lreturn, 1) := by decide +kernel
theorem ef_3 (m : MethodId) (a3_0 : Addr) : entryFrame m #[(.ref a3_0)] 3 = mkF m 0 #[.val (.ref a3_0), .unset, .unset] [] := by first | (simp [entryFrame, mkF, argsToLocals, Value.category]; done) | rfl
def t3_16 (v3_counter : Int64) : Int64 := (v3_counter + (-7046029254386353131 : Int64))
def t3_27 (v3_counter : Int64) : Int64 := (((t3_16 v3_counter) ^^^ (((t3_16 v3_counter).toUInt64 >>> ((30 : Int32) &&& 0x3f).toInt64.toUInt64).toInt64)) * (-4658895280553007687 : Int64))
def t3_38 (v3_counter : Int64) : Int64 := (((t3_27 v3_counter) ^^^ (((t3_27 v3_counter).toUInt64 >>> ((27 : Int32) &&& 0x3f).toInt64.toUInt64).toInt64)) * (-7723592293110705685 : Int64))
def r3 (v3_counter : Int64) : Int64 := ((t3_38 v3_counter) ^^^ (((t3_38 v3_counter).toUInt64 >>> ((31 : Int32) &&& 0x3f).toInt64.toUInt64).toInt64))
def Q3 (Z : State) (a3_0 : Addr) (v3_counter : Int64) (h0 : Heap) (n0 : Nat) (v : Option Value) (h : Heap) (L : List Loc) : Prop := v = some (.long (r3 v3_counter)) ∧ Fr n0 L ∧ Keep h0 h [a3_0] ∧ Exa Z h a3_0 "gallai/util/RandomStream" ∧ Fld Z h a3_0 "gallai/util/RandomStream" "counter" "J" (.long (v3_counter + (-7046029254386353131 : Int64)))
set_option maxRecDepth 65536 in
set_option maxHeartbeats 40000000 in
theorem rm3 (l : Launch) (Z : State) (a0 : Array Value) (hw : ∀ d ∈ tables_1, d.before a0 Z = true) (ws : List Jvm.Cond) (a3_0 : Addr) (v3_counter : Int64) (h0 : Heap) (n0 : Nat) (Z0 : n0 ≤ h0.size) (F_counter_a3_0 : Fld Z h0 a3_0 "gallai/util/RandomStream" "counter" "J" (.long v3_counter)) (E_a3_0 : Exa Z h0 a3_0 "gallai/util/RandomStream") (g_a3_0 : n0 ≤ a3_0) :
    MetFree l (⟨"gallai/util/RandomStream", "nextLong", "()J"⟩ : MethodName) (head1 (Jvm.Cond.code (⟨"gallai/util/RandomStream", "nextLong", "()J"⟩ : MethodName) prog_70_method_2_code 3 (some .long) :: ws) ({ frames := 0, cells := 0, slots := 0, locals := 0 } : Room)) (fun a U => a = #[(.ref a3_0)] ∧ Z.Warmed39 U.vm ∧ U.heap = h0) (fun _ _ _ _ _ => True) (fun _ U o U' => ∃ v L, o = .returned v ∧ Q3 Z a3_0 v3_counter h0 n0 v U'.heap L ∧ FrameEnd U o U' L ({ frames := 0, cells := 0, slots := 0, locals := 0 } : Room).cells ({ frames := 0, cells := 0, slots := 0, locals := 0 } : Room).slots) := by
  refine MetFree.of_bodySF (plainFor_of_name pn_gallai_util_RandomStream) hisR ?_
  intro p e s m args below meth c s₁ Bd hml0 hP hK
  obtain ⟨rfl, hZ, hh⟩ := hP
  have hx := Bd.exec
  have hby := Bd.bytes
  have hlk := Bd.notSynchronized
  have hret := Bd.returns
  have hml : c.maxLocals = 3 := hml0
  have hown : s.vm.findClass "gallai/util/RandomStream" = some m.cls := findClass_of_methodNamed Bd.named
  have hnm := (name_of_methodNamed Bd.named Bd.method).1
  have X0 : Stand p l e ({ frames := 0, cells := 0, slots := 0, locals := 0 } : Room) s m #[(.ref a3_0)] below meth c s₁ [] 0 0 := Stand.of_body Bd
  have e0 : s₁.heap = h0 := by rw [← hh, Bd.state]; rfl
  have N0 := Fr.nil n0
  have K0 : Keep h0 h0 [a3_0] := Keep.refl _ _
  show own_G p e below s (Q3 Z a3_0 v3_counter h0 n0) ({ frames := 0, cells := 0, slots := 0, locals := 0 } : Room).cells ({ frames := 0, cells := 0, slots := 0, locals := 0 } : Room).slots s₁ (entryFrame m #[(.ref a3_0)] 3)
  have ww1 := hw _ (List.mem_of_getElem? (i := 1) rfl)
  have ww9 := hw _ (List.mem_of_getElem? (i := 9) rfl)
  have ww10 := hw _ (List.mem_of_getElem? (i := 10) rfl)
  have ww16 := hw _ (List.mem_of_getElem? (i := 16) rfl)
  have ww17 := hw _ (List.mem_of_getElem? (i := 17) rfl)
  have ww18 := hw _ (List.mem_of_getElem? (i := 18) rfl)
  refine own_cast (ef_3 m a3_0) ?_
  refine own_s (g' := (mkF m 1 #[.val (.ref a3_0), .unset, .unset] [(.ref a3_0)])) (fun _ k => XS.aloadN X0.here hx rfl (hb hby d3_0) rfl rfl k) ?_
  refine own_s (g' := (mkF m 2 #[.val (.ref a3_0), .unset, .unset] [(.ref a3_0), (.ref a3_0)])) (fun _ k => XS.dup X0.here hx rfl (hb hby d3_1) rfl rfl k) ?_
  obtain ⟨T5, X5, e5, st5⟩ := getF X0 hx hZ hown (host := "") (Or.inl ww9) Via.refl e0 F_counter_a3_0 (g := (mkF m 2 #[.val (.ref a3_0), .unset, .unset] [(.ref a3_0), (.ref a3_0)])) rfl rfl (hb hby d3_2)
  refine own_s (g' := (mkF m 5 #[.val (.ref a3_0), .unset, .unset] [(.long v3_counter), (.ref a3_0)])) st5 ?_
  refine own_s (g' := (mkF m 8 #[.val (.ref a3_0), .unset, .unset] [(.long (-7046029254386353131)), (.long v3_counter), (.ref a3_0)])) (X5.ldc2Long hx hown (mvT hZ ww16) (g := (mkF m 5 #[.val (.ref a3_0), .unset, .unset] [(.long v3_counter), (.ref a3_0)])) rfl (hb hby d3_5)) ?_
  refine own_s (g' := (mkF m 9 #[.val (.ref a3_0), .unset, .unset] [(.long (v3_counter + (-7046029254386353131 : Int64))), (.ref a3_0)])) (fun _ k => XS.ladd X5.here hx rfl (hb hby d3_8) rfl k) ?_
  obtain ⟨T6, h6, X6, e6, W6, st6⟩ := putF X5 hx hZ hown (host := "") (Or.inl ww9) Via.refl e5 F_counter_a3_0 E_a3_0 (Or.inl ww10) ww1 (ty := .long) (by decide +kernel) rfl rfl (g := (mkF m 9 #[.val (.ref a3_0), .unset, .unset] [(.long (v3_counter + (-7046029254386353131 : Int64))), (.ref a3_0)])) rfl rfl (hb hby d3_9)
  have f7 := F_counter_a3_0.same W6
  have K6 := K0.wr W6 (Or.inl (List.mem_of_getElem? (i := 0) rfl))
  have N6 := Fr.snoc X6 N0 g_a3_0
  refine own_s (g' := (mkF m 12 #[.val (.ref a3_0), .unset, .unset] [])) st6 ?_
  refine own_s (g' := (mkF m 13 #[.val (.ref a3_0), .unset, .unset] [(.ref a3_0)])) (fun _ k => XS.aloadN X6.here hx rfl (hb hby d3_12) rfl rfl k) ?_
  obtain ⟨T8, X8, e8, st8⟩ := getF X6 hx hZ hown (host := "") (Or.inl ww9) Via.refl e6 f7 (g := (mkF m 13 #[.val (.ref a3_0), .unset, .unset] [(.ref a3_0)])) rfl rfl (hb hby d3_13)
  refine own_s (g' := (mkF m 16 #[.val (.ref a3_0), .unset, .unset] [(.long (v3_counter + (-7046029254386353131 : Int64)))])) st8 ?_
  refine own_s (g' := (mkF m 17 #[.val (.ref a3_0), .val (.long (t3_16 v3_counter)), .second] [])) (fun _ k => XS.lstoreN X8.here hx rfl (hb hby d3_16) rfl (l' := #[.val (.ref a3_0), .val (.long (t3_16 v3_counter)), .second]) rfl k) ?_
  refine own_s (g' := (mkF m 18 #[.val (.ref a3_0), .val (.long (t3_16 v3_counter)), .second] [(.long (t3_16 v3_counter))])) (fun _ k => XS.lloadN X8.here hx rfl (hb hby d3_17) rfl k) ?_
  refine own_s (g' := (mkF m 19 #[.val (.ref a3_0), .val (.long (t3_16 v3_counter)), .second] [(.long (t3_16 v3_counter)), (.long (t3_16 v3_counter))])) (fun _ k => XS.lloadN X8.here hx rfl (hb hby d3_18) rfl k) ?_
  refine own_s (g' := (mkF m 21 #[.val (.ref a3_0), .val (.long (t3_16 v3_counter)), .second] [(.int 30), (.long (t3_16 v3_counter)), (.long (t3_16 v3_counter))])) (fun _ k => XS.bipush X8.here hx rfl (hb hby d3_19) k) ?_
  refine own_s (g' := (mkF m 22 #[.val (.ref a3_0), .val (.long (t3_16 v3_counter)), .second] [(.long (((t3_16 v3_counter).toUInt64 >>> ((30 : Int32) &&& 0x3f).toInt64.toUInt64).toInt64)), (.long (t3_16 v3_counter))])) (fun _ k => XS.lushr X8.here hx rfl (hb hby d3_21) rfl k) ?_
  refine own_s (g' := (mkF m 23 #[.val (.ref a3_0), .val (.long (t3_16 v3_counter)), .second] [(.long ((t3_16 v3_counter) ^^^ (((t3_16 v3_counter).toUInt64 >>> ((30 : Int32) &&& 0x3f).toInt64.toUInt64).toInt64)))])) (fun _ k => XS.lxor X8.here hx rfl (hb hby d3_22) rfl k) ?_
  refine own_s (g' := (mkF m 26 #[.val (.ref a3_0), .val (.long (t3_16 v3_counter)), .second] [(.long (-4658895280553007687)), (.long ((t3_16 v3_counter) ^^^ (((t3_16 v3_counter).toUInt64 >>> ((30 : Int32) &&& 0x3f).toInt64.toUInt64).toInt64)))])) (X8.ldc2Long hx hown (mvT hZ ww17) (g := (mkF m 23 #[.val (.ref a3_0), .val (.long (t3_16 v3_counter)), .second] [(.long ((t3_16 v3_counter) ^^^ (((t3_16 v3_counter).toUInt64 >>> ((30 : Int32) &&& 0x3f).toInt64.toUInt64).toInt64)))])) rfl (hb hby d3_23)) ?_
  refine own_s (g' := (mkF m 27 #[.val (.ref a3_0), .val (.long (t3_16 v3_counter)), .second] [(.long (((t3_16 v3_counter) ^^^ (((t3_16 v3_counter).toUInt64 >>> ((30 : Int32) &&& 0x3f).toInt64.toUInt64).toInt64)) * (-4658895280553007687 : Int64)))])) (fun _ k => XS.lmul X8.here hx rfl (hb hby d3_26) rfl k) ?_
  refine own_s (g' := (mkF m 28 #[.val (.ref a3_0), .val (.long (t3_27 v3_counter)), .second] [])) (fun _ k => XS.lstoreN X8.here hx rfl (hb hby d3_27) rfl (l' := #[.val (.ref a3_0), .val (.long (t3_27 v3_counter)), .second]) rfl k) ?_
  refine own_s (g' := (mkF m 29 #[.val (.ref a3_0), .val (.long (t3_27 v3_counter)), .second] [(.long (t3_27 v3_counter))])) (fun _ k => XS.lloadN X8.here hx rfl (hb hby d3_28) rfl k) ?_
  refine own_s (g' := (mkF m 30 #[.val (.ref a3_0), .val (.long (t3_27 v3_counter)), .second] [(.long (t3_27 v3_counter)), (.long (t3_27 v3_counter))])) (fun _ k => XS.lloadN X8.here hx rfl (hb hby d3_29) rfl k) ?_
  refine own_s (g' := (mkF m 32 #[.val (.ref a3_0), .val (.long (t3_27 v3_counter)), .second] [(.int 27), (.long (t3_27 v3_counter)), (.long (t3_27 v3_counter))])) (fun _ k => XS.bipush X8.here hx rfl (hb hby d3_30) k) ?_
  refine own_s (g' := (mkF m 33 #[.val (.ref a3_0), .val (.long (t3_27 v3_counter)), .second] [(.long (((t3_27 v3_counter).toUInt64 >>> ((27 : Int32) &&& 0x3f).toInt64.toUInt64).toInt64)), (.long (t3_27 v3_counter))])) (fun _ k => XS.lushr X8.here hx rfl (hb hby d3_32) rfl k) ?_
  refine own_s (g' := (mkF m 34 #[.val (.ref a3_0), .val (.long (t3_27 v3_counter)), .second] [(.long ((t3_27 v3_counter) ^^^ (((t3_27 v3_counter).toUInt64 >>> ((27 : Int32) &&& 0x3f).toInt64.toUInt64).toInt64)))])) (fun _ k => XS.lxor X8.here hx rfl (hb hby d3_33) rfl k) ?_
  refine own_s (g' := (mkF m 37 #[.val (.ref a3_0), .val (.long (t3_27 v3_counter)), .second] [(.long (-7723592293110705685)), (.long ((t3_27 v3_counter) ^^^ (((t3_27 v3_counter).toUInt64 >>> ((27 : Int32) &&& 0x3f).toInt64.toUInt64).toInt64)))])) (X8.ldc2Long hx hown (mvT hZ ww18) (g := (mkF m 34 #[.val (.ref a3_0), .val (.long (t3_27 v3_counter)), .second] [(.long ((t3_27 v3_counter) ^^^ (((t3_27 v3_counter).toUInt64 >>> ((27 : Int32) &&& 0x3f).toInt64.toUInt64).toInt64)))])) rfl (hb hby d3_34)) ?_
  refine own_s (g' := (mkF m 38 #[.val (.ref a3_0), .val (.long (t3_27 v3_counter)), .second] [(.long (((t3_27 v3_counter) ^^^ (((t3_27 v3_counter).toUInt64 >>> ((27 : Int32) &&& 0x3f).toInt64.toUInt64).toInt64)) * (-7723592293110705685 : Int64)))])) (fun _ k => XS.lmul X8.here hx rfl (hb hby d3_37) rfl k) ?_
  refine own_s (g' := (mkF m 39 #[.val (.ref a3_0), .val (.long (t3_38 v3_counter)), .second] [])) (fun _ k => XS.lstoreN X8.here hx rfl (hb hby d3_38) rfl (l' := #[.val (.ref a3_0), .val (.long (t3_38 v3_counter)), .second]) rfl k) ?_
  refine own_s (g' := (mkF m 40 #[.val (.ref a3_0), .val (.long (t3_38 v3_counter)), .second] [(.long (t3_38 v3_counter))])) (fun _ k => XS.lloadN X8.here hx rfl (hb hby d3_39) rfl k) ?_
  refine own_s (g' := (mkF m 41 #[.val (.ref a3_0), .val (.long (t3_38 v3_counter)), .second] [(.long (t3_38 v3_counter)), (.long (t3_38 v3_counter))])) (fun _ k => XS.lloadN X8.here hx rfl (hb hby d3_40) rfl k) ?_
  refine own_s (g' := (mkF m 43 #[.val (.ref a3_0), .val (.long (t3_38 v3_counter)), .second] [(.int 31), (.long (t3_38 v3_counter)), (.long (t3_38 v3_counter))])) (fun _ k => XS.bipush X8.here hx rfl (hb hby d3_41) k) ?_
  refine own_s (g' := (mkF m 44 #[.val (.ref a3_0), .val (.long (t3_38 v3_counter)), .second] [(.long (((t3_38 v3_counter).toUInt64 >>> ((31 : Int32) &&& 0x3f).toInt64.toUInt64).toInt64)), (.long (t3_38 v3_counter))])) (fun _ k => XS.lushr X8.here hx rfl (hb hby d3_43) rfl k) ?_
  refine own_s (g' := (mkF m 45 #[.val (.ref a3_0), .val (.long (t3_38 v3_counter)), .second] [(.long ((t3_38 v3_counter) ^^^ (((t3_38 v3_counter).toUInt64 >>> ((31 : Int32) &&& 0x3f).toInt64.toUInt64).toInt64)))])) (fun _ k => XS.lxor X8.here hx rfl (hb hby d3_44) rfl k) ?_
  have f9 := (E_a3_0.wr W6)
  refine own_retJ X8 hx hlk hret (hb hby d3_45) (by decide) (by decide) ?_
  show Q3 Z a3_0 v3_counter h0 n0 _ T8.heap _
  rw [e8]
  exact ⟨rfl, N6, K6, f9, f7⟩
theorem d4_0 : decode method_2_code 0 = .ok (.lload_n 0, 1) := by decide +kernel
theorem d4_1 : decode method_2_code 1 = .ok (.lstore_n 2, 1) := by decide +kernel
theorem d4_2 : decode method_2_code 2 = .ok (.lload_n 2, 1) := by decide +kernel
theorem d4_3 : decode method_2_code 3 = .ok (.lload_n 2, 1) := by decide +kernel
theorem d4_4 : decode method_2_code 4 = .ok (.bipush 31, 2) := by decide +kernel
theorem d4_6 : decode method_2_code 6 = .ok (.lushr, 1) := by decide +kernel
theorem d4_7 : decode method_2_code 7 = .ok (.lxor, 1) := by decide +kernel
theorem d4_8 : decode method_2_code 8 = .ok (.lload_n 2, 1) := by decide +kernel
theorem d4_9 : decode method_2_code 9 = .ok (.bipush 62, 2) := by decide +kernel
theorem d4_11 : decode method_2_code 11 = .ok (.lushr, 1) := by decide +kernel
theorem d4_12 : decode method_2_code 12 = .ok (.lxor, 1) := by decide +kernel
theorem d4_13 : decode method_2_code 13 = .ok (.lstore_n 2, 1) := by decide +kernel
theorem d4_14 : decode method_2_code 14 = .ok (.lload_n 2, 1) := by decide +kernel
theorem d4_15 : decode method_2_code 15 = .ok (.ldc2_w 7, 3) := by decide +kernel
theorem d4_18 : decode method_2_code 18 = .ok (.lmul, 1) := by decide +kernel
theorem d4_19 : decode method_2_code 19 = .ok (.lstore_n 2, 1) := by decide +kernel
theorem d4_20 : decode method_2_code 20 = .ok (.lload_n 2, 1) := by decide +kernel
theorem d4_21 : decode method_2_code 21 = .ok (.lload_n 2, 1) := by decide +kernel
theorem d4_22 : decode method_2_code 22 = .ok (.bipush 27, 2) := by decide +kernel
theorem d4_24 : decode method_2_code 24 = .ok (.lushr, 1) := by decide +kernel
theorem d4_25 : decode method_2_code 25 = .ok (.lxor, 1) := by decide +kernel
theorem d4_26 : decode method_2_code 26 = .ok (.lload_n 2, 1) := by decide +kernel
theorem d4_27 : decode method_2_code 27 = .ok (.bipush 54, 2) := by decide +kernel
theorem d4_29 : decode method_2_code 29 = .ok (.lushr, 1) := by decide +kernel
theorem d4_30 : decode method_2_code 30 = .ok (.lxor, 1) := by decide +kernel
theorem d4_31 : decode method_2_code 31 = .ok (.lstore_n 2, 1) := by decide +kernel
theorem d4_32 : decode method_2_code 32 = .ok (.lload_n 2, 1) := by decide +kernel
theorem d4_33 : decode method_2_code 33 = .ok (.ldc2_w 9, 3) := by decide +kernel
theorem d4_36 : decode method_2_code 36 = .ok (.lmul, 1) := by decide +kernel
theorem d4_37 : decode method_2_code 37 = .ok (.lstore_n 2, 1) := by decide +kernel
theorem d4_38 : decode method_2_code 38 = .ok (.lload_n 2, 1) := by decide +kernel
theorem d4_39 : decode method_2_code 39 = .ok (.lload_n 2, 1) := by decide +kernel
theorem d4_40 : decode method_2_code 40 = .ok (.bipush 30, 2) := by decide +kernel
theorem d4_42 : decode method_2_code 42 = .ok (.lushr, 1) := by decide +kernel
theorem d4_43 : decode method_2_code 43 = .ok (.lxor, 1) := by decide +kernel
theorem d4_44 : decode method_2_code 44 = .ok (.lload_n 2, 1) := by decide +kernel
theorem d4_45 : decode method_2_code 45 = .ok (.bipush 60, 2) := by decide +kernel
theorem d4_47 : decode method_2_code 47 = .ok (.lushr, 1) := by decide +kernel
theorem d4_48 : decode method_2_code 48 = .ok (.lxor, 1) := by decide +kernel
theorem d4_49 : decode method_2_code 49 = .ok (.lstore_n 2, 1) := by decide +kernel
theorem d4_50 : decode method_2_code 50 = .ok (.lload_n 2, 1) := by decide +kernel
theorem d4_51 : decode method_2_code 51 = .ok (.lreturn, 1) := by decide +kernel
theorem pn_gallai_util_RandomStreamNextLongPinLaw : plainName "gallai/util/RandomStreamNextLongPinLaw" = true := by first | (simp [plainName, overriddenIn]; done) | decide +kernel
theorem ef_4 (m : MethodId) (q4_0 : Int64) : entryFrame m #[(.long q4_0)] 4 = mkF m 0 #[.val (.long q4_0), .second, .unset, .unset] [] := by first | (simp [entryFrame, mkF, argsToLocals, Value.category]; done) | rfl
def t4_13 (q4_0 : Int64) : Int64 := ((q4_0 ^^^ ((q4_0.toUInt64 >>> ((31 : Int32) &&& 0x3f).toInt64.toUInt64).toInt64)) ^^^ ((q4_0.toUInt64 >>> ((62 : Int32) &&& 0x3f).toInt64.toUInt64).toInt64))
def t4_19 (q4_0 : Int64) : Int64 := ((t4_13 q4_0) * (3573116690164977347 : Int64))
def t4_31 (q4_0 : Int64) : Int64 := (((t4_19 q4_0) ^^^ (((t4_19 q4_0).toUInt64 >>> ((27 : Int32) &&& 0x3f).toInt64.toUInt64).toInt64)) ^^^ (((t4_19 q4_0).toUInt64 >>> ((54 : Int32) &&& 0x3f).toInt64.toUInt64).toInt64))
def t4_37 (q4_0 : Int64) : Int64 := ((t4_31 q4_0) * (-7575587736534282103 : Int64))
def t4_49 (q4_0 : Int64) : Int64 := (((t4_37 q4_0) ^^^ (((t4_37 q4_0).toUInt64 >>> ((30 : Int32) &&& 0x3f).toInt64.toUInt64).toInt64)) ^^^ (((t4_37 q4_0).toUInt64 >>> ((60 : Int32) &&& 0x3f).toInt64.toUInt64).toInt64))
def r4 (q4_0 : Int64) : Int64 := (t4_49 q4_0)
def Q4 (Z : State) (q4_0 : Int64) (h0 : Heap) (n0 : Nat) (v : Option Value) (h : Heap) (L : List Loc) : Prop := v = some (.long (r4 q4_0)) ∧ Fr n0 L ∧ h = h0
set_option maxRecDepth 65536 in
set_option maxHeartbeats 40000000 in
theorem rm4 (l : Launch) (Z : State) (a0 : Array Value) (hw : ∀ d ∈ tables_1, d.before a0 Z = true) (ws : List Jvm.Cond) (q4_0 : Int64) (h0 : Heap) (n0 : Nat) (Z0 : n0 ≤ h0.size) :
    MetFree l (⟨"gallai/util/RandomStreamNextLongPinLaw", "unmix", "(J)J"⟩ : MethodName) (head1 (Jvm.Cond.code (⟨"gallai/util/RandomStreamNextLongPinLaw", "unmix", "(J)J"⟩ : MethodName) method_2_code 4 (some .long) :: ws) ({ frames := 0, cells := 0, slots := 0, locals := 0 } : Room)) (fun a U => a = #[(.long q4_0)] ∧ Z.Warmed39 U.vm ∧ U.heap = h0) (fun _ _ _ _ _ => True) (fun _ U o U' => ∃ v L, o = .returned v ∧ Q4 Z q4_0 h0 n0 v U'.heap L ∧ FrameEnd U o U' L ({ frames := 0, cells := 0, slots := 0, locals := 0 } : Room).cells ({ frames := 0, cells := 0, slots := 0, locals := 0 } : Room).slots) := by
  refine MetFree.of_bodySF (plainFor_of_name pn_gallai_util_RandomStreamNextLongPinLaw) hisR ?_
  intro p e s m args below meth c s₁ Bd hml0 hP hK
  obtain ⟨rfl, hZ, hh⟩ := hP
  have hx := Bd.exec
  have hby := Bd.bytes
  have hlk := Bd.notSynchronized
  have hret := Bd.returns
  have hml : c.maxLocals = 4 := hml0
  have hown : s.vm.findClass "gallai/util/RandomStreamNextLongPinLaw" = some m.cls := findClass_of_methodNamed Bd.named
  have hnm := (name_of_methodNamed Bd.named Bd.method).1
  have X0 : Stand p l e ({ frames := 0, cells := 0, slots := 0, locals := 0 } : Room) s m #[(.long q4_0)] below meth c s₁ [] 0 0 := Stand.of_body Bd
  have e0 : s₁.heap = h0 := by rw [← hh, Bd.state]; rfl
  have N0 := Fr.nil n0
  have K0 : Keep h0 h0 [] := Keep.refl _ _
  show own_G p e below s (Q4 Z q4_0 h0 n0) ({ frames := 0, cells := 0, slots := 0, locals := 0 } : Room).cells ({ frames := 0, cells := 0, slots := 0, locals := 0 } : Room).slots s₁ (entryFrame m #[(.long q4_0)] 4)
  have ww23 := hw _ (List.mem_of_getElem? (i := 23) rfl)
  have ww24 := hw _ (List.mem_of_getElem? (i := 24) rfl)
  refine own_cast (ef_4 m q4_0) ?_
  refine own_s (g' := (mkF m 1 #[.val (.long q4_0), .second, .unset, .unset] [(.long q4_0)])) (fun _ k => XS.lloadN X0.here hx rfl (hb hby d4_0) rfl k) ?_
  refine own_s (g' := (mkF m 2 #[.val (.long q4_0), .second, .val (.long q4_0), .second] [])) (fun _ k => XS.lstoreN X0.here hx rfl (hb hby d4_1) rfl (l' := #[.val (.long q4_0), .second, .val (.long q4_0), .second]) rfl k) ?_
  refine own_s (g' := (mkF m 3 #[.val (.long q4_0), .second, .val (.long q4_0), .second] [(.long q4_0)])) (fun _ k => XS.lloadN X0.here hx rfl (hb hby d4_2) rfl k) ?_
  refine own_s (g' := (mkF m 4 #[.val (.long q4_0), .second, .val (.long q4_0), .second] [(.long q4_0), (.long q4_0)])) (fun _ k => XS.lloadN X0.here hx rfl (hb hby d4_3) rfl k) ?_
  refine own_s (g' := (mkF m 6 #[.val (.long q4_0), .second, .val (.long q4_0), .second] [(.int 31), (.long q4_0), (.long q4_0)])) (fun _ k => XS.bipush X0.here hx rfl (hb hby d4_4) k) ?_
  refine own_s (g' := (mkF m 7 #[.val (.long q4_0), .second, .val (.long q4_0), .second] [(.long ((q4_0.toUInt64 >>> ((31 : Int32) &&& 0x3f).toInt64.toUInt64).toInt64)), (.long q4_0)])) (fun _ k => XS.lushr X0.here hx rfl (hb hby d4_6) rfl k) ?_
  refine own_s (g' := (mkF m 8 #[.val (.long q4_0), .second, .val (.long q4_0), .second] [(.long (q4_0 ^^^ ((q4_0.toUInt64 >>> ((31 : Int32) &&& 0x3f).toInt64.toUInt64).toInt64)))])) (fun _ k => XS.lxor X0.here hx rfl (hb hby d4_7) rfl k) ?_
  refine own_s (g' := (mkF m 9 #[.val (.long q4_0), .second, .val (.long q4_0), .second] [(.long q4_0), (.long (q4_0 ^^^ ((q4_0.toUInt64 >>> ((31 : Int32) &&& 0x3f).toInt64.toUInt64).toInt64)))])) (fun _ k => XS.lloadN X0.here hx rfl (hb hby d4_8) rfl k) ?_
  refine own_s (g' := (mkF m 11 #[.val (.long q4_0), .second, .val (.long q4_0), .second] [(.int 62), (.long q4_0), (.long (q4_0 ^^^ ((q4_0.toUInt64 >>> ((31 : Int32) &&& 0x3f).toInt64.toUInt64).toInt64)))])) (fun _ k => XS.bipush X0.here hx rfl (hb hby d4_9) k) ?_
  refine own_s (g' := (mkF m 12 #[.val (.long q4_0), .second, .val (.long q4_0), .second] [(.long ((q4_0.toUInt64 >>> ((62 : Int32) &&& 0x3f).toInt64.toUInt64).toInt64)), (.long (q4_0 ^^^ ((q4_0.toUInt64 >>> ((31 : Int32) &&& 0x3f).toInt64.toUInt64).toInt64)))])) (fun _ k => XS.lushr X0.here hx rfl (hb hby d4_11) rfl k) ?_
  refine own_s (g' := (mkF m 13 #[.val (.long q4_0), .second, .val (.long q4_0), .second] [(.long ((q4_0 ^^^ ((q4_0.toUInt64 >>> ((31 : Int32) &&& 0x3f).toInt64.toUInt64).toInt64)) ^^^ ((q4_0.toUInt64 >>> ((62 : Int32) &&& 0x3f).toInt64.toUInt64).toInt64)))])) (fun _ k => XS.lxor X0.here hx rfl (hb hby d4_12) rfl k) ?_
  refine own_s (g' := (mkF m 14 #[.val (.long q4_0), .second, .val (.long (t4_13 q4_0)), .second] [])) (fun _ k => XS.lstoreN X0.here hx rfl (hb hby d4_13) rfl (l' := #[.val (.long q4_0), .second, .val (.long (t4_13 q4_0)), .second]) rfl k) ?_
  refine own_s (g' := (mkF m 15 #[.val (.long q4_0), .second, .val (.long (t4_13 q4_0)), .second] [(.long (t4_13 q4_0))])) (fun _ k => XS.lloadN X0.here hx rfl (hb hby d4_14) rfl k) ?_
  refine own_s (g' := (mkF m 18 #[.val (.long q4_0), .second, .val (.long (t4_13 q4_0)), .second] [(.long 3573116690164977347), (.long (t4_13 q4_0))])) (X0.ldc2Long hx hown (mvT hZ ww23) (g := (mkF m 15 #[.val (.long q4_0), .second, .val (.long (t4_13 q4_0)), .second] [(.long (t4_13 q4_0))])) rfl (hb hby d4_15)) ?_
  refine own_s (g' := (mkF m 19 #[.val (.long q4_0), .second, .val (.long (t4_13 q4_0)), .second] [(.long ((t4_13 q4_0) * (3573116690164977347 : Int64)))])) (fun _ k => XS.lmul X0.here hx rfl (hb hby d4_18) rfl k) ?_
  refine own_s (g' := (mkF m 20 #[.val (.long q4_0), .second, .val (.long (t4_19 q4_0)), .second] [])) (fun _ k => XS.lstoreN X0.here hx rfl (hb hby d4_19) rfl (l' := #[.val (.long q4_0), .second, .val (.long (t4_19 q4_0)), .second]) rfl k) ?_
  refine own_s (g' := (mkF m 21 #[.val (.long q4_0), .second, .val (.long (t4_19 q4_0)), .second] [(.long (t4_19 q4_0))])) (fun _ k => XS.lloadN X0.here hx rfl (hb hby d4_20) rfl k) ?_
  refine own_s (g' := (mkF m 22 #[.val (.long q4_0), .second, .val (.long (t4_19 q4_0)), .second] [(.long (t4_19 q4_0)), (.long (t4_19 q4_0))])) (fun _ k => XS.lloadN X0.here hx rfl (hb hby d4_21) rfl k) ?_
  refine own_s (g' := (mkF m 24 #[.val (.long q4_0), .second, .val (.long (t4_19 q4_0)), .second] [(.int 27), (.long (t4_19 q4_0)), (.long (t4_19 q4_0))])) (fun _ k => XS.bipush X0.here hx rfl (hb hby d4_22) k) ?_
  refine own_s (g' := (mkF m 25 #[.val (.long q4_0), .second, .val (.long (t4_19 q4_0)), .second] [(.long (((t4_19 q4_0).toUInt64 >>> ((27 : Int32) &&& 0x3f).toInt64.toUInt64).toInt64)), (.long (t4_19 q4_0))])) (fun _ k => XS.lushr X0.here hx rfl (hb hby d4_24) rfl k) ?_
  refine own_s (g' := (mkF m 26 #[.val (.long q4_0), .second, .val (.long (t4_19 q4_0)), .second] [(.long ((t4_19 q4_0) ^^^ (((t4_19 q4_0).toUInt64 >>> ((27 : Int32) &&& 0x3f).toInt64.toUInt64).toInt64)))])) (fun _ k => XS.lxor X0.here hx rfl (hb hby d4_25) rfl k) ?_
  refine own_s (g' := (mkF m 27 #[.val (.long q4_0), .second, .val (.long (t4_19 q4_0)), .second] [(.long (t4_19 q4_0)), (.long ((t4_19 q4_0) ^^^ (((t4_19 q4_0).toUInt64 >>> ((27 : Int32) &&& 0x3f).toInt64.toUInt64).toInt64)))])) (fun _ k => XS.lloadN X0.here hx rfl (hb hby d4_26) rfl k) ?_
  refine own_s (g' := (mkF m 29 #[.val (.long q4_0), .second, .val (.long (t4_19 q4_0)), .second] [(.int 54), (.long (t4_19 q4_0)), (.long ((t4_19 q4_0) ^^^ (((t4_19 q4_0).toUInt64 >>> ((27 : Int32) &&& 0x3f).toInt64.toUInt64).toInt64)))])) (fun _ k => XS.bipush X0.here hx rfl (hb hby d4_27) k) ?_
  refine own_s (g' := (mkF m 30 #[.val (.long q4_0), .second, .val (.long (t4_19 q4_0)), .second] [(.long (((t4_19 q4_0).toUInt64 >>> ((54 : Int32) &&& 0x3f).toInt64.toUInt64).toInt64)), (.long ((t4_19 q4_0) ^^^ (((t4_19 q4_0).toUInt64 >>> ((27 : Int32) &&& 0x3f).toInt64.toUInt64).toInt64)))])) (fun _ k => XS.lushr X0.here hx rfl (hb hby d4_29) rfl k) ?_
  refine own_s (g' := (mkF m 31 #[.val (.long q4_0), .second, .val (.long (t4_19 q4_0)), .second] [(.long (((t4_19 q4_0) ^^^ (((t4_19 q4_0).toUInt64 >>> ((27 : Int32) &&& 0x3f).toInt64.toUInt64).toInt64)) ^^^ (((t4_19 q4_0).toUInt64 >>> ((54 : Int32) &&& 0x3f).toInt64.toUInt64).toInt64)))])) (fun _ k => XS.lxor X0.here hx rfl (hb hby d4_30) rfl k) ?_
  refine own_s (g' := (mkF m 32 #[.val (.long q4_0), .second, .val (.long (t4_31 q4_0)), .second] [])) (fun _ k => XS.lstoreN X0.here hx rfl (hb hby d4_31) rfl (l' := #[.val (.long q4_0), .second, .val (.long (t4_31 q4_0)), .second]) rfl k) ?_
  refine own_s (g' := (mkF m 33 #[.val (.long q4_0), .second, .val (.long (t4_31 q4_0)), .second] [(.long (t4_31 q4_0))])) (fun _ k => XS.lloadN X0.here hx rfl (hb hby d4_32) rfl k) ?_
  refine own_s (g' := (mkF m 36 #[.val (.long q4_0), .second, .val (.long (t4_31 q4_0)), .second] [(.long (-7575587736534282103)), (.long (t4_31 q4_0))])) (X0.ldc2Long hx hown (mvT hZ ww24) (g := (mkF m 33 #[.val (.long q4_0), .second, .val (.long (t4_31 q4_0)), .second] [(.long (t4_31 q4_0))])) rfl (hb hby d4_33)) ?_
  refine own_s (g' := (mkF m 37 #[.val (.long q4_0), .second, .val (.long (t4_31 q4_0)), .second] [(.long ((t4_31 q4_0) * (-7575587736534282103 : Int64)))])) (fun _ k => XS.lmul X0.here hx rfl (hb hby d4_36) rfl k) ?_
  refine own_s (g' := (mkF m 38 #[.val (.long q4_0), .second, .val (.long (t4_37 q4_0)), .second] [])) (fun _ k => XS.lstoreN X0.here hx rfl (hb hby d4_37) rfl (l' := #[.val (.long q4_0), .second, .val (.long (t4_37 q4_0)), .second]) rfl k) ?_
  refine own_s (g' := (mkF m 39 #[.val (.long q4_0), .second, .val (.long (t4_37 q4_0)), .second] [(.long (t4_37 q4_0))])) (fun _ k => XS.lloadN X0.here hx rfl (hb hby d4_38) rfl k) ?_
  refine own_s (g' := (mkF m 40 #[.val (.long q4_0), .second, .val (.long (t4_37 q4_0)), .second] [(.long (t4_37 q4_0)), (.long (t4_37 q4_0))])) (fun _ k => XS.lloadN X0.here hx rfl (hb hby d4_39) rfl k) ?_
  refine own_s (g' := (mkF m 42 #[.val (.long q4_0), .second, .val (.long (t4_37 q4_0)), .second] [(.int 30), (.long (t4_37 q4_0)), (.long (t4_37 q4_0))])) (fun _ k => XS.bipush X0.here hx rfl (hb hby d4_40) k) ?_
  refine own_s (g' := (mkF m 43 #[.val (.long q4_0), .second, .val (.long (t4_37 q4_0)), .second] [(.long (((t4_37 q4_0).toUInt64 >>> ((30 : Int32) &&& 0x3f).toInt64.toUInt64).toInt64)), (.long (t4_37 q4_0))])) (fun _ k => XS.lushr X0.here hx rfl (hb hby d4_42) rfl k) ?_
  refine own_s (g' := (mkF m 44 #[.val (.long q4_0), .second, .val (.long (t4_37 q4_0)), .second] [(.long ((t4_37 q4_0) ^^^ (((t4_37 q4_0).toUInt64 >>> ((30 : Int32) &&& 0x3f).toInt64.toUInt64).toInt64)))])) (fun _ k => XS.lxor X0.here hx rfl (hb hby d4_43) rfl k) ?_
  refine own_s (g' := (mkF m 45 #[.val (.long q4_0), .second, .val (.long (t4_37 q4_0)), .second] [(.long (t4_37 q4_0)), (.long ((t4_37 q4_0) ^^^ (((t4_37 q4_0).toUInt64 >>> ((30 : Int32) &&& 0x3f).toInt64.toUInt64).toInt64)))])) (fun _ k => XS.lloadN X0.here hx rfl (hb hby d4_44) rfl k) ?_
  refine own_s (g' := (mkF m 47 #[.val (.long q4_0), .second, .val (.long (t4_37 q4_0)), .second] [(.int 60), (.long (t4_37 q4_0)), (.long ((t4_37 q4_0) ^^^ (((t4_37 q4_0).toUInt64 >>> ((30 : Int32) &&& 0x3f).toInt64.toUInt64).toInt64)))])) (fun _ k => XS.bipush X0.here hx rfl (hb hby d4_45) k) ?_
  refine own_s (g' := (mkF m 48 #[.val (.long q4_0), .second, .val (.long (t4_37 q4_0)), .second] [(.long (((t4_37 q4_0).toUInt64 >>> ((60 : Int32) &&& 0x3f).toInt64.toUInt64).toInt64)), (.long ((t4_37 q4_0) ^^^ (((t4_37 q4_0).toUInt64 >>> ((30 : Int32) &&& 0x3f).toInt64.toUInt64).toInt64)))])) (fun _ k => XS.lushr X0.here hx rfl (hb hby d4_47) rfl k) ?_
  refine own_s (g' := (mkF m 49 #[.val (.long q4_0), .second, .val (.long (t4_37 q4_0)), .second] [(.long (((t4_37 q4_0) ^^^ (((t4_37 q4_0).toUInt64 >>> ((30 : Int32) &&& 0x3f).toInt64.toUInt64).toInt64)) ^^^ (((t4_37 q4_0).toUInt64 >>> ((60 : Int32) &&& 0x3f).toInt64.toUInt64).toInt64)))])) (fun _ k => XS.lxor X0.here hx rfl (hb hby d4_48) rfl k) ?_
  refine own_s (g' := (mkF m 50 #[.val (.long q4_0), .second, .val (.long (t4_49 q4_0)), .second] [])) (fun _ k => XS.lstoreN X0.here hx rfl (hb hby d4_49) rfl (l' := #[.val (.long q4_0), .second, .val (.long (t4_49 q4_0)), .second]) rfl k) ?_
  refine own_s (g' := (mkF m 51 #[.val (.long q4_0), .second, .val (.long (t4_49 q4_0)), .second] [(.long (t4_49 q4_0))])) (fun _ k => XS.lloadN X0.here hx rfl (hb hby d4_50) rfl k) ?_
  refine own_retJ X0 hx hlk hret (hb hby d4_51) (by decide) (by decide) ?_
  show Q4 Z q4_0 h0 n0 _ s₁.heap _
  rw [e0]
  exact ⟨rfl, N0, rfl⟩
theorem own_bv (x : BitVec 64) (k : Nat) (hk : 64 ≤ 3 * k) (h2 : 0 < k) : ((x ^^^ (x >>> k)) ^^^ ((x ^^^ (x >>> k)) >>> k)) ^^^ ((x ^^^ (x >>> k)) >>> (2 * k)) = x := by
  apply BitVec.eq_of_getLsbD_eq
  intro i hi
  simp only [BitVec.getLsbD_xor, BitVec.getLsbD_ushiftRight]
  have e : x.getLsbD (k + (2 * k + i)) = false := BitVec.getLsbD_of_ge _ _ (by omega)
  have e1 : k + (k + i) = 2 * k + i := by omega
  have e2 : 2 * k + i = k + (k + i) := by omega
  rw [e, e1]
  cases x.getLsbD i <;> cases x.getLsbD (k + i) <;> cases x.getLsbD (2 * k + i) <;> rfl
theorem own_sh (x : Int64) (q : Int32) (k : Nat) (hk : q.toBitVec.toNat % 64 = k) : ((x.toUInt64 >>> (q &&& 0x3f).toInt64.toUInt64).toInt64).toBitVec = x.toBitVec >>> k := by
  obtain ⟨h, hl⟩ := sm64 q k hk
  show x.toBitVec >>> ((q &&& 0x3f).toInt64.toBitVec % 64#64) = _
  rw [h]
  have e : (BitVec.ofNat 64 k % 64#64).toNat = k := by
    rw [BitVec.toNat_umod, BitVec.toNat_ofNat]
    have h64 : (64#64 : BitVec 64).toNat = 64 := by decide
    rw [h64, Nat.mod_eq_of_lt (Nat.lt_trans hl (by decide)), Nat.mod_eq_of_lt hl]
  show x.toBitVec >>> (BitVec.ofNat 64 k % 64#64).toNat = _
  rw [e]
theorem own_un (x : Int64) (q q2 : Int32) (k : Nat) (hk : q.toBitVec.toNat % 64 = k) (hk2 : q2.toBitVec.toNat % 64 = 2 * k) (h3 : 64 ≤ 3 * k) (h0 : 0 < k) (y : Int64) (hy : y = x ^^^ (x.toUInt64 >>> (q &&& 0x3f).toInt64.toUInt64).toInt64) :
    (y ^^^ (y.toUInt64 >>> (q &&& 0x3f).toInt64.toUInt64).toInt64) ^^^ (y.toUInt64 >>> (q2 &&& 0x3f).toInt64.toUInt64).toInt64 = x := by
  apply Int64.toBitVec_inj.mp
  rw [Int64.toBitVec_xor, Int64.toBitVec_xor, own_sh y q k hk, own_sh y q2 (2 * k) hk2, hy, Int64.toBitVec_xor, own_sh x q k hk]
  exact own_bv x.toBitVec k h3 h0
theorem own_mul (x a b : Int64) (h : a * b = 1) : x * a * b = x := by rw [Int64.mul_assoc, h, Int64.mul_one]
theorem own_inv (z : Int64) : r4 (r3 z) = z + (-7046029254386353131 : Int64) := by
  have e1 : t4_13 (r3 z) = t3_38 z := own_un (t3_38 z) 31 62 31 (by decide) (by decide) (by decide) (by decide) _ rfl
  have e2 : t4_19 (r3 z) = t3_27 z ^^^ ((t3_27 z).toUInt64 >>> ((27 : Int32) &&& 0x3f).toInt64.toUInt64).toInt64 := by
    show t4_13 (r3 z) * _ = _
    rw [e1]
    exact own_mul _ _ _ (by decide)
  have e3 : t4_31 (r3 z) = t3_27 z := own_un (t3_27 z) 27 54 27 (by decide) (by decide) (by decide) (by decide) _ e2
  have e4 : t4_37 (r3 z) = (z + (-7046029254386353131 : Int64)) ^^^ ((z + (-7046029254386353131 : Int64)).toUInt64 >>> ((30 : Int32) &&& 0x3f).toInt64.toUInt64).toInt64 := by
    show t4_31 (r3 z) * _ = _
    rw [e3]
    exact own_mul _ _ _ (by decide)
  exact own_un (z + (-7046029254386353131 : Int64)) 30 60 30 (by decide) (by decide) (by decide) (by decide) _ e4
theorem pd__J_V : parseMethodDescriptor "(J)V" = some ⟨[.long], none⟩ := by decide +kernel
theorem pd___J : parseMethodDescriptor "()J" = some ⟨[], some .long⟩ := by decide +kernel
theorem pd__J_J : parseMethodDescriptor "(J)J" = some ⟨[.long], some .long⟩ := by decide +kernel
theorem ef_0 (m : MethodId) (q0_0 : Int64) : entryFrame m #[(.long q0_0)] maxLocals = mkF m 0 #[.val (.long q0_0), .second, .unset, .unset, .unset, .unset, .unset] [] := by first | (simp [entryFrame, mkF, argsToLocals, Value.category, maxLocals]; done) | rfl
def Q0 (Z : State) (q0_0 : Int64) (h0 : Heap) (n0 : Nat) (v : Option Value) (h : Heap) (L : List Loc) : Prop := v = some (.int (1 : Int32)) ∧ Fr n0 L
set_option maxRecDepth 65536 in
set_option maxHeartbeats 40000000 in
theorem rm0 (l : Launch) (Z : State) (a0 : Array Value) (hw : ∀ d ∈ tables_1, d.before a0 Z = true) (ws : List Jvm.Cond) (q0_0 : Int64) (h0 : Heap) (n0 : Nat) (Z0 : n0 ≤ h0.size) :
    MetFree l x (head1 (Jvm.Cond.code x code maxLocals ret :: ws) room_1) (fun a U => a = #[(.long q0_0)] ∧ Z.Warmed39 U.vm ∧ U.heap = h0) (fun _ _ _ _ _ => True) (fun _ U o U' => ∃ v L, o = .returned v ∧ Q0 Z q0_0 h0 n0 v U'.heap L ∧ FrameEnd U o U' L 16 128) := by
  refine MetFree.of_bodySF (plainFor_of_name pn_gallai_util_RandomStreamNextLongPinLaw) hisR ?_
  intro p e s m args below meth c s₁ Bd hml0 hP hK
  obtain ⟨rfl, hZ, hh⟩ := hP
  have hx := Bd.exec
  have hby := Bd.bytes
  have hlk := Bd.notSynchronized
  have hret := Bd.returns
  have hml : c.maxLocals = 7 := hml0
  have hown : s.vm.findClass "gallai/util/RandomStreamNextLongPinLaw" = some m.cls := findClass_of_methodNamed Bd.named
  have hnm := (name_of_methodNamed Bd.named Bd.method).1
  have X0 : Stand p l e room_1 s m #[(.long q0_0)] below meth c s₁ [] 0 0 := Stand.of_body Bd
  have e0 : s₁.heap = h0 := by rw [← hh, Bd.state]; rfl
  have N0 := Fr.nil n0
  have K0 : Keep h0 h0 [] := Keep.refl _ _
  show own_G p e below s (Q0 Z q0_0 h0 n0) 16 128 s₁ (entryFrame m #[(.long q0_0)] maxLocals)
  have ww0 := hw _ (List.mem_of_getElem? (i := 0) rfl)
  have ww1 := hw _ (List.mem_of_getElem? (i := 1) rfl)
  have ww2 := hw _ (List.mem_of_getElem? (i := 2) rfl)
  have ww3 := hw _ (List.mem_of_getElem? (i := 3) rfl)
  have ww4 := hw _ (List.mem_of_getElem? (i := 4) rfl)
  have ww5 := hw _ (List.mem_of_getElem? (i := 5) rfl)
  have ww10 := hw _ (List.mem_of_getElem? (i := 10) rfl)
  have ww11 := hw _ (List.mem_of_getElem? (i := 11) rfl)
  have ww12 := hw _ (List.mem_of_getElem? (i := 12) rfl)
  have ww13 := hw _ (List.mem_of_getElem? (i := 13) rfl)
  have ww14 := hw _ (List.mem_of_getElem? (i := 14) rfl)
  have ww15 := hw _ (List.mem_of_getElem? (i := 15) rfl)
  have ww19 := hw _ (List.mem_of_getElem? (i := 19) rfl)
  have ww20 := hw _ (List.mem_of_getElem? (i := 20) rfl)
  have ww21 := hw _ (List.mem_of_getElem? (i := 21) rfl)
  have ww22 := hw _ (List.mem_of_getElem? (i := 22) rfl)
  have ww25 := hw _ (List.mem_of_getElem? (i := 25) rfl)
  refine own_cast (ef_0 m q0_0) ?_
  obtain ⟨T10, h10, X10, e10, E10, A10, D10, -, st10⟩ := newO X0 hx hZ hown ww0 ww1 ww2 e0 (g := (mkF m 0 #[.val (.long q0_0), .second, .unset, .unset, .unset, .unset, .unset] [])) rfl (hb hby at_0) (by decide) (by decide)
  obtain ⟨b10, ga10⟩ : ∃ z, z = h0.size := ⟨_, rfl⟩
  rw [← ga10] at A10 D10 st10
  have g_b10 := Nat.le_trans Z0 (Nat.le_of_eq ga10.symm)
  have sz_b10 := Nat.le_trans K0.1 (Nat.le_of_eq ga10.symm)
  have f10_counter : Fld Z h10 b10 "gallai/util/RandomStream" "counter" "J" (.long 0) := D10 (Or.inl ww10) (ty := .long) (by decide +kernel)
  have K10 := K0.ext E10
  refine own_s (g' := (mkF m 3 #[.val (.long q0_0), .second, .unset, .unset, .unset, .unset, .unset] [(.ref b10)])) st10 ?_
  refine own_s (g' := (mkF m 4 #[.val (.long q0_0), .second, .unset, .unset, .unset, .unset, .unset] [(.ref b10), (.ref b10)])) (fun _ k => XS.dup X10.here hx rfl (hb hby at_3) rfl rfl k) ?_
  refine own_s (g' := (mkF m 5 #[.val (.long q0_0), .second, .unset, .unset, .unset, .unset, .unset] [(.long q0_0), (.ref b10), (.ref b10)])) (fun _ k => XS.lloadN X10.here hx rfl (hb hby at_4) rfl k) ?_
  obtain ⟨_, _, ⟨T11, L11, k11, n11⟩, -, X11, ⟨Lc11, hQ11, l11, y11, z11⟩, st11⟩ := X10.specialBack hx (y := (⟨"gallai/util/RandomStream", "<init>", "(J)V"⟩ : MethodName)) rfl hown (mvT hZ ww3) (mvT hZ ww4) (mvT hZ ww5) (by decide) (backOf (W := 1) (rm1 l Z a0 hw [] b10 q0_0 (0 : Int64) h10 n0 (Nat.le_trans Z0 K10.1) f10_counter A10 g_b10) hZ ww5 ww2 (by decide) (by decide)) (g := (mkF m 5 #[.val (.long q0_0), .second, .unset, .unset, .unset, .unset, .unset] [(.long q0_0), (.ref b10), (.ref b10)])) rfl (by rw [hml]; rfl) (Steps.refl _) (a := b10) (argsL := [(.long q0_0)]) (rest := [(.ref b10)]) (lenOf pd__J_V rfl) rfl (by show 2 * 0 + _ ≤ _; exact Nat.le_of_eq rfl) (hb hby at_5) (fun _ _ => ⟨rfl, e10, (by decide : 1 + 0 ≤ _), (by decide : 1 + 0 ≤ _)⟩)
  dsimp only [Pt.U, Pt.locs, Pt.cells, Pt.slots] at X11 l11 y11 z11 st11 hQ11
  subst l11 y11 z11
  obtain ⟨rfl, N11q, K11q, f12, f13⟩ := hQ11
  have K11 := K10.trans K11q (allS (Or.inr sz_b10) all0)
  have N11 := Fr.app N0 N11q
  refine own_trans (g' := (mkF m 8 #[.val (.long q0_0), .second, .unset, .unset, .unset, .unset, .unset] [(.ref b10)])) st11 ?_
  refine own_s (g' := (mkF m 9 #[.val (.long q0_0), .second, .val (.ref b10), .unset, .unset, .unset, .unset] [])) (fun _ k => XS.astoreN X11.here hx rfl (hb hby at_8) rfl rfl (l' := #[.val (.long q0_0), .second, .val (.ref b10), .unset, .unset, .unset, .unset]) rfl k) ?_
  refine own_s (g' := (mkF m 10 #[.val (.long q0_0), .second, .val (.ref b10), .unset, .unset, .unset, .unset] [(.ref b10)])) (fun _ k => XS.aloadN X11.here hx rfl (hb hby at_9) rfl rfl k) ?_
  obtain ⟨cq14, kq14, q14a, q14b, q14c⟩ := isOf hZ rfl f12
  obtain ⟨_, _, ⟨T14, L14, k14, n14⟩, -, X14, ⟨Lc14, hQ14, l14, y14, z14⟩, st14⟩ := X11.virtualBack hx (y := (⟨"gallai/util/RandomStream", "nextLong", "()J"⟩ : MethodName)) (z := (⟨"gallai/util/RandomStream", "nextLong", "()J"⟩ : MethodName)) hown (mvT hZ ww11) (mvT hZ ww12) (notFace_of_selects (args := #[]) (mvT hZ ww14)) (mvT hZ ww14) (mvT hZ ww13) (by decide) (backOf (W := 0) (rm3 l Z a0 hw [] b10 q0_0 T11.heap n0 (Nat.le_trans Z0 K11.1) f13 f12 g_b10) hZ ww15 ww2 (by decide) (by decide)) q14a q14c (g := (mkF m 10 #[.val (.long q0_0), .second, .val (.ref b10), .unset, .unset, .unset, .unset] [(.ref b10)])) rfl (by rw [hml]; rfl) (Steps.refl _) (argsL := []) (rest := []) (lenOf pd___J rfl) rfl (by show 2 * 0 + _ ≤ _; exact Nat.le_of_eq rfl) (hb hby at_10) (fun _ _ => ⟨rfl, rfl, (by decide : 1 + 0 ≤ _), (by decide : 1 + 0 ≤ _)⟩)
  dsimp only [Pt.U, Pt.locs, Pt.cells, Pt.slots] at X14 l14 y14 z14 st14 hQ14
  subst l14 y14 z14
  obtain ⟨rfl, N14q, K14q, f15, f16⟩ := hQ14
  have K14 := K11.trans K14q (allS (Or.inr sz_b10) all0)
  have N14 := Fr.app N11 N14q
  refine own_trans (g' := (mkF m 13 #[.val (.long q0_0), .second, .val (.ref b10), .unset, .unset, .unset, .unset] [(.long (r3 q0_0))])) st14 ?_
  refine own_s (g' := (mkF m 14 #[.val (.long q0_0), .second, .val (.ref b10), .val (.long (r3 q0_0)), .second, .unset, .unset] [])) (fun _ k => XS.lstoreN X14.here hx rfl (hb hby at_13) rfl (l' := #[.val (.long q0_0), .second, .val (.ref b10), .val (.long (r3 q0_0)), .second, .unset, .unset]) rfl k) ?_
  refine own_s (g' := (mkF m 15 #[.val (.long q0_0), .second, .val (.ref b10), .val (.long (r3 q0_0)), .second, .unset, .unset] [(.ref b10)])) (fun _ k => XS.aloadN X14.here hx rfl (hb hby at_14) rfl rfl k) ?_
  obtain ⟨cq17, kq17, q17a, q17b, q17c⟩ := isOf hZ rfl f15
  obtain ⟨_, _, ⟨T17, L17, k17, n17⟩, -, X17, ⟨Lc17, hQ17, l17, y17, z17⟩, st17⟩ := X14.virtualBack hx (y := (⟨"gallai/util/RandomStream", "nextLong", "()J"⟩ : MethodName)) (z := (⟨"gallai/util/RandomStream", "nextLong", "()J"⟩ : MethodName)) hown (mvT hZ ww11) (mvT hZ ww12) (notFace_of_selects (args := #[]) (mvT hZ ww14)) (mvT hZ ww14) (mvT hZ ww13) (by decide) (backOf (W := 0) (rm3 l Z a0 hw [] b10 (q0_0 + (-7046029254386353131 : Int64)) T14.heap n0 (Nat.le_trans Z0 K14.1) f16 f15 g_b10) hZ ww15 ww2 (by decide) (by decide)) q17a q17c (g := (mkF m 15 #[.val (.long q0_0), .second, .val (.ref b10), .val (.long (r3 q0_0)), .second, .unset, .unset] [(.ref b10)])) rfl (by rw [hml]; rfl) (Steps.refl _) (argsL := []) (rest := []) (lenOf pd___J rfl) rfl (by show 2 * 0 + _ ≤ _; exact Nat.le_of_eq rfl) (hb hby at_15) (fun _ _ => ⟨rfl, rfl, (by decide : 1 + 0 ≤ _), (by decide : 1 + 0 ≤ _)⟩)
  dsimp only [Pt.U, Pt.locs, Pt.cells, Pt.slots] at X17 l17 y17 z17 st17 hQ17
  subst l17 y17 z17
  obtain ⟨rfl, N17q, K17q, f18, f19⟩ := hQ17
  have K17 := K14.trans K17q (allS (Or.inr sz_b10) all0)
  have N17 := Fr.app N14 N17q
  refine own_trans (g' := (mkF m 18 #[.val (.long q0_0), .second, .val (.ref b10), .val (.long (r3 q0_0)), .second, .unset, .unset] [(.long (r3 (q0_0 + (-7046029254386353131 : Int64))))])) st17 ?_
  refine own_s (g' := (mkF m 20 #[.val (.long q0_0), .second, .val (.ref b10), .val (.long (r3 q0_0)), .second, .val (.long (r3 (q0_0 + (-7046029254386353131 : Int64)))), .second] [])) (fun _ k => XS.lstore X17.here hx rfl (hb hby at_18) rfl (l' := #[.val (.long q0_0), .second, .val (.ref b10), .val (.long (r3 q0_0)), .second, .val (.long (r3 (q0_0 + (-7046029254386353131 : Int64)))), .second]) rfl k) ?_
  refine own_s (g' := (mkF m 21 #[.val (.long q0_0), .second, .val (.ref b10), .val (.long (r3 q0_0)), .second, .val (.long (r3 (q0_0 + (-7046029254386353131 : Int64)))), .second] [(.long (r3 q0_0))])) (fun _ k => XS.lloadN X17.here hx rfl (hb hby at_20) rfl k) ?_
  obtain ⟨_, _, ⟨T20, L20, k20, n20⟩, -, X20, ⟨Lc20, hQ20, l20, y20, z20⟩, st20⟩ := Jvm.LawKit.callS X17 hx (y := (⟨"gallai/util/RandomStreamNextLongPinLaw", "unmix", "(J)J"⟩ : MethodName)) hown (mvT hZ ww19) (mvT hZ ww20) (mvT hZ ww21) (mvT hZ ww22) (by decide) (backOf (W := 0) (rm4 l Z a0 hw [] (r3 q0_0) T17.heap n0 (Nat.le_trans Z0 K17.1) ) hZ ww22 ww21 (by decide) (by decide)) (g := (mkF m 21 #[.val (.long q0_0), .second, .val (.ref b10), .val (.long (r3 q0_0)), .second, .val (.long (r3 (q0_0 + (-7046029254386353131 : Int64)))), .second] [(.long (r3 q0_0))])) rfl (by rw [hml]; rfl) (argsL := [(.long (r3 q0_0))]) (rest := []) (lenOf pd__J_J rfl) rfl (by show 2 * 0 + _ ≤ _; exact Nat.le_of_eq rfl) (hb hby at_21) (fun _ _ => ⟨rfl, rfl, (by decide : 1 + 0 ≤ _), (by decide : 1 + 0 ≤ _)⟩)
  dsimp only [Pt.U, Pt.locs, Pt.cells, Pt.slots] at X20 l20 y20 z20 st20 hQ20
  subst l20 y20 z20
  obtain ⟨rfl, N20q, eh20⟩ := hQ20
  have N20 := Fr.app N17 N20q
  refine own_s (g' := (mkF m 24 #[.val (.long q0_0), .second, .val (.ref b10), .val (.long (r3 q0_0)), .second, .val (.long (r3 (q0_0 + (-7046029254386353131 : Int64)))), .second] [(.long (r4 (r3 q0_0)))])) st20 ?_
  refine own_s (g' := (mkF m 25 #[.val (.long q0_0), .second, .val (.ref b10), .val (.long (r3 q0_0)), .second, .val (.long (r3 (q0_0 + (-7046029254386353131 : Int64)))), .second] [(.long q0_0), (.long (r4 (r3 q0_0)))])) (fun _ k => XS.lloadN X20.here hx rfl (hb hby at_24) rfl k) ?_
  refine own_s (g' := (mkF m 28 #[.val (.long q0_0), .second, .val (.ref b10), .val (.long (r3 q0_0)), .second, .val (.long (r3 (q0_0 + (-7046029254386353131 : Int64)))), .second] [(.long (-7046029254386353131)), (.long q0_0), (.long (r4 (r3 q0_0)))])) (X20.ldc2Long hx hown (mvT hZ ww25) (g := (mkF m 25 #[.val (.long q0_0), .second, .val (.ref b10), .val (.long (r3 q0_0)), .second, .val (.long (r3 (q0_0 + (-7046029254386353131 : Int64)))), .second] [(.long q0_0), (.long (r4 (r3 q0_0)))])) rfl (hb hby at_25)) ?_
  refine own_s (g' := (mkF m 29 #[.val (.long q0_0), .second, .val (.ref b10), .val (.long (r3 q0_0)), .second, .val (.long (r3 (q0_0 + (-7046029254386353131 : Int64)))), .second] [(.long (q0_0 + (-7046029254386353131 : Int64))), (.long (r4 (r3 q0_0)))])) (fun _ k => XS.ladd X20.here hx rfl (hb hby at_28) rfl k) ?_
  refine own_s (g' := (mkF m 30 #[.val (.long q0_0), .second, .val (.ref b10), .val (.long (r3 q0_0)), .second, .val (.long (r3 (q0_0 + (-7046029254386353131 : Int64)))), .second] [(.int (lcmpW (r4 (r3 q0_0)) (q0_0 + (-7046029254386353131 : Int64))))])) (fun _ k => XS.lcmp X20.here hx rfl (hb hby at_29) rfl k) ?_
  refine own_s (g' := (mkF m 33 #[.val (.long q0_0), .second, .val (.ref b10), .val (.long (r3 q0_0)), .second, .val (.long (r3 (q0_0 + (-7046029254386353131 : Int64)))), .second] [])) (fun _ k => XS.ifNo X20.here hx rfl (hb hby at_30) rfl ((if0 _ _).trans (teq ((lw_eq (r4 (r3 q0_0)) (q0_0 + (-7046029254386353131 : Int64))).mpr (own_inv _))).2) k) ?_
  refine own_s (g' := (mkF m 35 #[.val (.long q0_0), .second, .val (.ref b10), .val (.long (r3 q0_0)), .second, .val (.long (r3 (q0_0 + (-7046029254386353131 : Int64)))), .second] [(.long (r3 (q0_0 + (-7046029254386353131 : Int64))))])) (fun _ k => XS.lload X20.here hx rfl (hb hby at_33) rfl k) ?_
  obtain ⟨_, _, ⟨T21, L21, k21, n21⟩, -, X21, ⟨Lc21, hQ21, l21, y21, z21⟩, st21⟩ := Jvm.LawKit.callS X20 hx (y := (⟨"gallai/util/RandomStreamNextLongPinLaw", "unmix", "(J)J"⟩ : MethodName)) hown (mvT hZ ww19) (mvT hZ ww20) (mvT hZ ww21) (mvT hZ ww22) (by decide) (backOf (W := 0) (rm4 l Z a0 hw [] (r3 (q0_0 + (-7046029254386353131 : Int64))) T17.heap n0 (Nat.le_trans Z0 K17.1) ) hZ ww22 ww21 (by decide) (by decide)) (g := (mkF m 35 #[.val (.long q0_0), .second, .val (.ref b10), .val (.long (r3 q0_0)), .second, .val (.long (r3 (q0_0 + (-7046029254386353131 : Int64)))), .second] [(.long (r3 (q0_0 + (-7046029254386353131 : Int64))))])) rfl (by rw [hml]; rfl) (argsL := [(.long (r3 (q0_0 + (-7046029254386353131 : Int64))))]) (rest := []) (lenOf pd__J_J rfl) rfl (by show 2 * 0 + _ ≤ _; exact Nat.le_of_eq rfl) (hb hby at_35) (fun _ _ => ⟨rfl, eh20, (by decide : 1 + 0 ≤ _), (by decide : 1 + 0 ≤ _)⟩)
  dsimp only [Pt.U, Pt.locs, Pt.cells, Pt.slots] at X21 l21 y21 z21 st21 hQ21
  subst l21 y21 z21
  obtain ⟨rfl, N21q, eh21⟩ := hQ21
  have N21 := Fr.app N20 N21q
  refine own_s (g' := (mkF m 38 #[.val (.long q0_0), .second, .val (.ref b10), .val (.long (r3 q0_0)), .second, .val (.long (r3 (q0_0 + (-7046029254386353131 : Int64)))), .second] [(.long (r4 (r3 (q0_0 + (-7046029254386353131 : Int64)))))])) st21 ?_
  refine own_s (g' := (mkF m 39 #[.val (.long q0_0), .second, .val (.ref b10), .val (.long (r3 q0_0)), .second, .val (.long (r3 (q0_0 + (-7046029254386353131 : Int64)))), .second] [(.long q0_0), (.long (r4 (r3 (q0_0 + (-7046029254386353131 : Int64)))))])) (fun _ k => XS.lloadN X21.here hx rfl (hb hby at_38) rfl k) ?_
  refine own_s (g' := (mkF m 42 #[.val (.long q0_0), .second, .val (.ref b10), .val (.long (r3 q0_0)), .second, .val (.long (r3 (q0_0 + (-7046029254386353131 : Int64)))), .second] [(.long (-7046029254386353131)), (.long q0_0), (.long (r4 (r3 (q0_0 + (-7046029254386353131 : Int64)))))])) (X21.ldc2Long hx hown (mvT hZ ww25) (g := (mkF m 39 #[.val (.long q0_0), .second, .val (.ref b10), .val (.long (r3 q0_0)), .second, .val (.long (r3 (q0_0 + (-7046029254386353131 : Int64)))), .second] [(.long q0_0), (.long (r4 (r3 (q0_0 + (-7046029254386353131 : Int64)))))])) rfl (hb hby at_39)) ?_
  refine own_s (g' := (mkF m 43 #[.val (.long q0_0), .second, .val (.ref b10), .val (.long (r3 q0_0)), .second, .val (.long (r3 (q0_0 + (-7046029254386353131 : Int64)))), .second] [(.long (q0_0 + (-7046029254386353131 : Int64))), (.long (r4 (r3 (q0_0 + (-7046029254386353131 : Int64)))))])) (fun _ k => XS.ladd X21.here hx rfl (hb hby at_42) rfl k) ?_
  refine own_s (g' := (mkF m 46 #[.val (.long q0_0), .second, .val (.ref b10), .val (.long (r3 q0_0)), .second, .val (.long (r3 (q0_0 + (-7046029254386353131 : Int64)))), .second] [(.long (-7046029254386353131)), (.long (q0_0 + (-7046029254386353131 : Int64))), (.long (r4 (r3 (q0_0 + (-7046029254386353131 : Int64)))))])) (X21.ldc2Long hx hown (mvT hZ ww25) (g := (mkF m 43 #[.val (.long q0_0), .second, .val (.ref b10), .val (.long (r3 q0_0)), .second, .val (.long (r3 (q0_0 + (-7046029254386353131 : Int64)))), .second] [(.long (q0_0 + (-7046029254386353131 : Int64))), (.long (r4 (r3 (q0_0 + (-7046029254386353131 : Int64)))))])) rfl (hb hby at_43)) ?_
  refine own_s (g' := (mkF m 47 #[.val (.long q0_0), .second, .val (.ref b10), .val (.long (r3 q0_0)), .second, .val (.long (r3 (q0_0 + (-7046029254386353131 : Int64)))), .second] [(.long ((q0_0 + (-7046029254386353131 : Int64)) + (-7046029254386353131 : Int64))), (.long (r4 (r3 (q0_0 + (-7046029254386353131 : Int64)))))])) (fun _ k => XS.ladd X21.here hx rfl (hb hby at_46) rfl k) ?_
  refine own_s (g' := (mkF m 48 #[.val (.long q0_0), .second, .val (.ref b10), .val (.long (r3 q0_0)), .second, .val (.long (r3 (q0_0 + (-7046029254386353131 : Int64)))), .second] [(.int (lcmpW (r4 (r3 (q0_0 + (-7046029254386353131 : Int64)))) ((q0_0 + (-7046029254386353131 : Int64)) + (-7046029254386353131 : Int64))))])) (fun _ k => XS.lcmp X21.here hx rfl (hb hby at_47) rfl k) ?_
  refine own_s (g' := (mkF m 51 #[.val (.long q0_0), .second, .val (.ref b10), .val (.long (r3 q0_0)), .second, .val (.long (r3 (q0_0 + (-7046029254386353131 : Int64)))), .second] [])) (fun _ k => XS.ifNo X21.here hx rfl (hb hby at_48) rfl ((if0 _ _).trans (teq ((lw_eq (r4 (r3 (q0_0 + (-7046029254386353131 : Int64)))) ((q0_0 + (-7046029254386353131 : Int64)) + (-7046029254386353131 : Int64))).mpr (own_inv _))).2) k) ?_
  refine own_s (g' := (mkF m 52 #[.val (.long q0_0), .second, .val (.ref b10), .val (.long (r3 q0_0)), .second, .val (.long (r3 (q0_0 + (-7046029254386353131 : Int64)))), .second] [(.int 1)])) (fun _ k => XS.iconst X21.here hx rfl (hb hby at_51) k) ?_
  refine own_s (g' := (mkF m 56 #[.val (.long q0_0), .second, .val (.ref b10), .val (.long (r3 q0_0)), .second, .val (.long (r3 (q0_0 + (-7046029254386353131 : Int64)))), .second] [(.int 1)])) (fun _ k => XS.goto X21.here hx rfl (pc0 := 52) (pc' := 56) rfl (hb hby at_52) (by decide) (by decide) k) ?_
  refine own_retN X21 hx hlk (t := .boolean) hret (by simp) (hb hby at_56) (z' := (1 : Int32)) (by decide) (by decide) (by decide) ?_
  show Q0 Z q0_0 h0 n0 _ T21.heap _
  rw [eh21]
  exact ⟨rfl, N21⟩
set_option maxRecDepth 65536 in
set_option maxHeartbeats 40000000 in
theorem comes_1 {Post : Tables → Env → Array Value → State → Outcome → State → Prop} (hpost : ∀ tb e args s v u, (limb_1_1.after args s (.returned v) u = true ∧ limb_1_2.after args s (.returned v) u = true ∧ True) → FrameEnd s (.returned v) u (Jvm.fieldLocs frame_1_writes args s ++ Jvm.arrayLocs frame_1_arrays args s ++ Jvm.staticLocs frame_1_statics s) 16 128 → Post tb e args s (.returned v) u) :
    ArmFor flags0 classFile x code maxLocals ret World_1 tables_1 room_1 Calls_1 rest_1 Pre_1 Post := by
  intro l hfl _ _ p e ha hc hk s m args below hf hA hF happ hP
  obtain ⟨hcalls, hrest, hpre⟩ := hP
  obtain ⟨-, -, -, hnamed, -, -, -, hat⟩ := (Spec.applies_iff hf).mp happ
  obtain ⟨hg, hn⟩ := and_e (Cond.before_iff.mp (show (Jvm.Cond.and given_1 narrow_1).before args s = true from hpre))
  obtain ⟨gc, hg⟩ := and_e hg
  obtain ⟨w0, rfl⟩ : ∃ w0 : Value, args = #[w0] := by
    have hs : args.size = 1 := by simpa [Cond.value, given_1] using gc
    obtain ⟨L⟩ := args
    match L, hs with
    | [w0], _ => exact ⟨w0, rfl⟩
  have hw := fun d (hd : d ∈ tables_1) => atoms_spec (ws := Jvm.Cond.code x code maxLocals ret :: tables_1) hat d (List.mem_cons_of_mem _ hd)
  obtain ⟨i0, ei0⟩ := isL_v hg
  obtain rfl : w0 = (.long i0) := Option.some.inj ei0
  obtain ⟨n, o, h1, h2, h3, _, L, rfl, ⟨rfl, N⟩, hq⟩ := rm0 l s _ hw tables_1 i0 s.heap s.heap.size (Nat.le_refl _)  p e ha hc hk s m _ below hf ((Spec.applies_iff_loose hf).mp happ).1 ⟨rfl, State.Warmed39.refl s, rfl⟩ trivial
  refine ⟨n, _, h1, h2, h3, hpost _ _ _ _ _ _ ⟨Cond.after_iff.mpr rfl, Cond.after_iff.mpr (eq_i res_at (Term.int_eval (1)) rfl), trivial⟩ ⟨hq.1, hq.2.1, (hq.2.2.sift fun y hy => Or.inr (N y hy)).mono (by decide) (by decide)⟩⟩
theorem main_1_1 : Claimed_1_1 := comes_1 fun _ _ _ _ _ _ h hF => ⟨h.1, hF⟩
theorem main_1_2 : Claimed_1_2 := comes_1 fun _ _ _ _ _ _ h hF => ⟨h.2.1, hF⟩
end Jvm.Pilot.@@N@@
namespace Jvm.Pilot.@@N@@
open Jvm Jvm.ClassFile Sem Op Lib Jvm.Free Jvm.Stand Jvm.Pilot.@@N@@.Jvm.D
/-! MADE BY PROGRAM (witnessworld.py) out of the Statement's table words and the real class files: 10 classes; the members and pool entries that the words name. The judged class is class 1, her method 2. -/
namespace start1
open Jvm.ClassFile
def u (s : String) : CpInfo := .utf8 (stringToUtf16 s)
/-- a pool by its gaps: so many unusable entries, then the entry; so many at the end -/
def gap : Nat → List CpInfo → List CpInfo
  | 0, r => r
  | n + 1, r => .unusable :: gap n r
def poolList (es : List (Nat × CpInfo)) (last : Nat) : List CpInfo := es.foldr (fun e r => gap e.1 (e.2 :: r)) (gap last [])
def pool (es : List (Nat × CpInfo)) (last : Nat) : Array CpInfo := ⟨poolList es last⟩
def fileOf (pool : Array CpInfo) (this : Nat) (attrs : Array Attribute := #[]) (ms : Array MethodInfo := #[]) (fl : Nat := 33) (sup : Nat := 0) (ifs : Array Nat := #[]) (fds : Array FieldInfo := #[]) : ClassFile where
  minorVersion := 0
  majorVersion := 65
  constantPool := pool
  accessFlags := fl
  thisClass := this
  superClass := sup
  interfaces := ifs
  fields := fds
  methods := ms
  attributes := attrs
def plain (name : String) (sup : Option ClassId) : Class where
  name := name
  kind := .ordinary
  loader := none
  accessFlags := 33
  super := sup
  interfaces := #[]
  cf := none
  fields := #[]
  methods := #[]
  instanceTypes := #[]
  staticTypes := #[]
  resolved := #[]
  callSites := []
  init := .initialized
  statics := none
  mirror := none

def pool0 : Array CpInfo := pool [(5, u "<init>"), (0, u "()V"), (1, .class_ 10), (1, u "java/lang/Object")] 113

def k0c0 : Code := { maxStack := 0, maxLocals := 1, code := object_method_1_code, exceptionTable := #[], attributes := #[] }
def k0m0 : Method := { name := "<init>", desc := "()V", sig := { parameters := [], returnType := none }, accessFlags := 1, code := some k0c0 }
/-- java/lang/Object -/
def k0 : Class := { plain "java/lang/Object" none with
  accessFlags := 33
  interfaces := #[]
  cf := some (fileOf pool0 8 #[] #[{ accessFlags := 1, nameIndex := 5, descriptorIndex := 6, attributes := #[] }] 33 0 #[] #[])
  fields := #[]
  methods := #[k0m0]
  instanceTypes := #[]
  staticTypes := #[]
  resolved := Array.replicate 124 none
  statics := none }

def pool1 : Array CpInfo := pool [(2, .class_ 4), (1, u "java/lang/Object"), (0, u "<init>"), (0, u "()V"), (0, .long 3573116690164977347), (1, .long 10871156337175269513), (1, .class_ 12), (0, u "gallai/util/RandomStream"), (0, .methodref 11 14), (0, .nameAndType 5 15), (0, u "(J)V"), (0, .methodref 11 17), (0, .nameAndType 18 19), (0, u "nextLong"), (0, u "()J"), (0, .methodref 21 22), (0, .class_ 23), (0, .nameAndType 24 25), (0, u "gallai/util/RandomStreamNextLongPinLaw"), (0, u "unmix"), (0, u "(J)J"), (0, .long 11400714819323198485), (1, u "G"), (0, u "J"), (3, u "law"), (0, u "(J)Z")] 3

def k1m0 : Method := { name := "<init>", desc := "()V", sig := { parameters := [], returnType := none }, accessFlags := 1, code := none }
def k1c1 : Code := { maxStack := 5, maxLocals := 4, code := method_2_code, exceptionTable := #[], attributes := #[] }
def k1m1 : Method := { name := "unmix", desc := "(J)J", sig := { parameters := [.long], returnType := some .long }, accessFlags := 10, code := some k1c1 }
def k1c2 : Code := { maxStack := 6, maxLocals := 7, code := code, exceptionTable := #[], attributes := #[] }
def k1m2 : Method := { name := "law", desc := "(J)Z", sig := { parameters := [.long], returnType := some .boolean }, accessFlags := 9, code := some k1c2 }
/-- gallai/util/RandomStreamNextLongPinLaw -/
def k1 : Class := { plain "gallai/util/RandomStreamNextLongPinLaw" (some 0) with
  accessFlags := 49
  interfaces := #[]
  cf := some (fileOf pool1 21 #[] #[{ accessFlags := 1, nameIndex := 5, descriptorIndex := 6, attributes := #[] }, { accessFlags := 10, nameIndex := 24, descriptorIndex := 25, attributes := #[] }, { accessFlags := 9, nameIndex := 33, descriptorIndex := 34, attributes := #[] }] 49 2 #[] #[{ accessFlags := 26, nameIndex := 28, descriptorIndex := 29, attributes := #[] }])
  fields := #[{ name := "G", type := .long, accessFlags := 26, slot := 0, constantValue := 0 }]
  methods := #[k1m0, k1m1, k1m2]
  instanceTypes := #[]
  staticTypes := #[.long]
  resolved := Array.replicate 38 none
  statics := none }

def pool2 : Array CpInfo := pool [(7, .class_ 8), (0, u "java/util/random/RandomGenerator"), (199, .class_ 209), (0, u "java/lang/Object"), (52, .class_ 263), (0, u "java/util/random/RandomGenerator$ArbitrarilyJumpableGenerator"), (0, .class_ 265), (0, u "java/util/random/RandomGenerator$LeapableGenerator"), (0, .class_ 267), (0, u "java/util/random/RandomGenerator$JumpableGenerator"), (0, .class_ 269), (0, u "java/util/random/RandomGenerator$SplittableGenerator"), (0, .class_ 271), (0, u "java/util/random/RandomGenerator$StreamableGenerator")] 36

/-- java/util/random/RandomGenerator -/
def k2 : Class := { plain "java/util/random/RandomGenerator" (some 0) with
  accessFlags := 1537
  interfaces := #[]
  cf := some (fileOf pool2 7 #[.nestMembers #[262, 264, 266, 268, 270]] #[] 1537 208 #[] #[])
  fields := #[]
  methods := #[]
  instanceTypes := #[]
  staticTypes := #[]
  resolved := Array.replicate 308 none
  statics := none }

def pool3 : Array CpInfo := pool [(1, .methodref 2 3), (0, .class_ 4), (0, .nameAndType 5 6), (0, u "java/lang/Object"), (0, u "<init>"), (0, u "()V"), (0, .fieldref 8 9), (0, .class_ 10), (0, .nameAndType 11 12), (0, u "gallai/util/RandomStream"), (0, u "counter"), (0, u "J"), (0, .long 11400714819323198485), (1, .long 13787848793156543929), (1, .long 10723151780598845931), (12, u "nextLong"), (0, u "()J"), (0, .class_ 33), (0, u "java/util/random/RandomGenerator"), (0, u "GAMMA"), (1, u "(J)V")] 21

def k3c0 : Code := { maxStack := 3, maxLocals := 3, code := prog_70_method_1_code, exceptionTable := #[], attributes := #[] }
def k3m0 : Method := { name := "<init>", desc := "(J)V", sig := { parameters := [.long], returnType := none }, accessFlags := 1, code := some k3c0 }
def k3c1 : Code := { maxStack := 5, maxLocals := 3, code := prog_70_method_2_code, exceptionTable := #[], attributes := #[] }
def k3m1 : Method := { name := "nextLong", desc := "()J", sig := { parameters := [], returnType := some .long }, accessFlags := 1, code := some k3c1 }
/-- gallai/util/RandomStream -/
def k3 : Class := { plain "gallai/util/RandomStream" (some 0) with
  accessFlags := 49
  interfaces := #[2]
  cf := some (fileOf pool3 8 #[] #[{ accessFlags := 1, nameIndex := 5, descriptorIndex := 36, attributes := #[] }, { accessFlags := 1, nameIndex := 30, descriptorIndex := 31, attributes := #[] }] 49 2 #[32] #[{ accessFlags := 26, nameIndex := 34, descriptorIndex := 12, attributes := #[] }, { accessFlags := 2, nameIndex := 11, descriptorIndex := 12, attributes := #[] }])
  fields := #[{ name := "GAMMA", type := .long, accessFlags := 26, slot := 0, constantValue := 0 }, { name := "counter", type := .long, accessFlags := 2, slot := 0, constantValue := 0 }]
  methods := #[k3m0, k3m1]
  instanceTypes := #[.long]
  staticTypes := #[.long]
  resolved := Array.replicate 58 none
  statics := none }

def pool4 : Array CpInfo := pool [(1, u "java/lang/Cloneable"), (0, .class_ 1), (0, u "java/lang/Object"), (0, .class_ 3)] 3

/-- java/lang/Cloneable -/
def k4 : Class := { plain "java/lang/Cloneable" (some 0) with
  accessFlags := 1537
  interfaces := #[]
  cf := some (fileOf pool4 2 #[] #[] 1537 4 #[] #[])
  fields := #[]
  methods := #[]
  instanceTypes := #[]
  staticTypes := #[]
  resolved := Array.replicate 8 none
  statics := none }

def pool5 : Array CpInfo := pool [(1, u "java/io/Serializable"), (0, .class_ 1), (0, u "java/lang/Object"), (0, .class_ 3)] 3

/-- java/io/Serializable -/
def k5 : Class := { plain "java/io/Serializable" (some 0) with
  accessFlags := 1537
  interfaces := #[]
  cf := some (fileOf pool5 2 #[] #[] 1537 4 #[] #[])
  fields := #[]
  methods := #[]
  instanceTypes := #[]
  staticTypes := #[]
  resolved := Array.replicate 8 none
  statics := none }

/-- the primitive byte -/
def k6 : Class := { plain "byte" none with kind := .primitive 'B', accessFlags := 0x411 }
/-- [B -/
def k7 : Class := { plain "[B" (some 0) with kind := .array 6 .byte, interfaces := #[4, 5], accessFlags := 1041 }

/-- the primitive int -/
def k8 : Class := { plain "int" none with kind := .primitive 'I', accessFlags := 0x411 }
/-- [I -/
def k9 : Class := { plain "[I" (some 0) with kind := .array 8 .int, interfaces := #[4, 5], accessFlags := 1041 }

def heap : Heap := #[]
def classes : Array Class := #[k0, k1, k2, k3, k4, k5, k6, k7, k8, k9]
def interned : List (Array UInt16 × Addr) := []
def slotsUsed : Nat := 0
def theMethod : MethodId := ⟨1, 2⟩
def args0 : Array Value := #[.long 7]
def aboutOver (below : List Frame) : State where
  vm := { classes := classes, interned := interned.toArray }
  heap := heap
  slotsUsed := slotsUsed
  threads := #[{ frames := .invoking theMethod args0 :: below }]
def below0 : List Frame := [.native { method := ⟨0, 0⟩, args := #[] }]
def about1 : State := aboutOver below0
def p0 : Program := .bare "" "" ""
def e0 : Env := launch0.env 0 0 0
theorem w_frames : about1.frames = Frame.invoking theMethod args0 :: below0 := rfl
set_option maxRecDepth 65536 in
theorem w_args : argsFit about1.vm theMethod args0 = true := by decide +kernel
set_option maxRecDepth 65536 in
theorem w_heap : heapFits about1 = true := by decide +kernel
set_option maxRecDepth 65536 in
theorem w_runnable : about1.curStatus? = some .runnable := by decide +kernel
set_option maxRecDepth 65536 in
theorem w_alone : about1.alone = true := by decide +kernel
set_option maxRecDepth 65536 in
theorem w_named : about1.methodNamed? x = some theMethod := by decide +kernel
set_option maxRecDepth 65536 in
theorem w_hears : about1.hears theMethod below0 = true := by decide +kernel
set_option maxRecDepth 65536 in
theorem w_ripe : about1.ripe theMethod args0 below0 = true := by decide +kernel
theorem w_running : about1.status = .running := rfl
set_option maxRecDepth 65536 in
theorem w_room : about1.hasRoom e0.platform room_1 = true :=
  launch0.hasRoom_least _ room_1 (by decide +kernel) (by decide +kernel) (by decide +kernel) (by decide +kernel) (by decide +kernel) (by decide +kernel)
theorem allAtoms_all (ts : List Jvm.Cond) (a : Array Jvm.Value) (st : Jvm.State) : (allAtoms ts).before a st = ts.all (fun c => c.before a st) := by
  induction ts with
  | nil => rfl
  | cons c t ih =>
    show (Jvm.Cond.and c (allAtoms t)).before a st = _
    rw [Jvm.Cond.before_and, ih, List.all_cons]
def words1 : List Jvm.Cond := Jvm.Cond.code x code maxLocals ret :: tables_1
/-- a 'code' word, met by the world's own term for the bytes: nothing is compared byte by byte -/
theorem code_word {y : MethodName} {bytes : ByteArray} {mx : Nat} {rt : Option FieldType} {a : Array Value} {s : State} {m : MethodId} {meth : Method} {c : Code} (h1 : s.methodNamed? y = some m) (h2 : s.vm.method? m = some meth) (h3 : meth.code = some c) (h4 : c.code = bytes)
    (h5 : (c.maxLocals == mx && c.exceptionTable.isEmpty && decide (c.maxStack ≤ mostOperands) && decide (meth.sig.returnType = rt) && !meth.locks && decide (parseMethodDescriptor y.desc = some meth.sig)) = true) : (Jvm.Cond.code y bytes mx rt).before a s = true := by
  simp only [Bool.and_eq_true, beq_iff_eq, Bool.not_eq_true', decide_eq_true_eq] at h5
  obtain ⟨⟨⟨⟨⟨g1, g2⟩, g3⟩, g4⟩, g5⟩, g6⟩ := h5
  simp [Cond.before, Cond.holds, Cond.value, h1, h2, h3, h4, g1, g2, g3, g4, g5, g6]
def isCode : Jvm.Cond → Bool
  | .code _ _ _ _ => true
  | _ => false
theorem all_split {L : List Jvm.Cond} {P : Jvm.Cond → Bool} (h1 : L.all (fun c => isCode c || P c) = true) (h2 : ∀ c ∈ L.filter isCode, P c = true) : L.all P = true := by
  refine List.all_eq_true.mpr fun c hc => ?_
  have h := List.all_eq_true.mp h1 c hc
  rcases Bool.eq_false_or_eq_true (isCode c) with hi | hi
  · exact h2 c (List.mem_filter.mpr ⟨hc, hi⟩)
  · simpa [hi] using h
set_option maxRecDepth 65536 in
theorem w_c0 : (Jvm.Cond.code x code maxLocals ret).before args0 about1 = true := code_word (m := ⟨1, 2⟩) (meth := k1m2) (c := k1c2) (by decide +kernel) rfl rfl rfl (by decide +kernel)
set_option maxRecDepth 65536 in
theorem w_c1 : (Jvm.Cond.code ({ cls := "gallai/util/RandomStream", name := "<init>", desc := "(J)V" } : Jvm.MethodName) prog_70_method_1_code (3 : Nat) (Option.none : Option Jvm.ClassFile.FieldType)).before args0 about1 = true := code_word (m := ⟨3, 0⟩) (meth := k3m0) (c := k3c0) (by decide +kernel) rfl rfl rfl (by decide +kernel)
set_option maxRecDepth 65536 in
theorem w_c2 : (Jvm.Cond.code ({ cls := "java/lang/Object", name := "<init>", desc := "()V" } : Jvm.MethodName) object_method_1_code (1 : Nat) (Option.none : Option Jvm.ClassFile.FieldType)).before args0 about1 = true := code_word (m := ⟨0, 0⟩) (meth := k0m0) (c := k0c0) (by decide +kernel) rfl rfl rfl (by decide +kernel)
set_option maxRecDepth 65536 in
theorem w_c3 : (Jvm.Cond.code ({ cls := "gallai/util/RandomStream", name := "nextLong", desc := "()J" } : Jvm.MethodName) prog_70_method_2_code (3 : Nat) (Option.some Jvm.ClassFile.FieldType.long)).before args0 about1 = true := code_word (m := ⟨3, 1⟩) (meth := k3m1) (c := k3c1) (by decide +kernel) rfl rfl rfl (by decide +kernel)
set_option maxRecDepth 65536 in
theorem w_c4 : (Jvm.Cond.code ({ cls := "gallai/util/RandomStreamNextLongPinLaw", name := "unmix", desc := "(J)J" } : Jvm.MethodName) method_2_code (4 : Nat) (Option.some Jvm.ClassFile.FieldType.long)).before args0 about1 = true := code_word (m := ⟨1, 1⟩) (meth := k1m1) (c := k1c1) (by decide +kernel) rfl rfl rfl (by decide +kernel)
def codes1 : List Jvm.Cond := [Jvm.Cond.code x code maxLocals ret, Jvm.Cond.code ({ cls := "gallai/util/RandomStream", name := "<init>", desc := "(J)V" } : Jvm.MethodName) prog_70_method_1_code (3 : Nat) (Option.none : Option Jvm.ClassFile.FieldType), Jvm.Cond.code ({ cls := "java/lang/Object", name := "<init>", desc := "()V" } : Jvm.MethodName) object_method_1_code (1 : Nat) (Option.none : Option Jvm.ClassFile.FieldType), Jvm.Cond.code ({ cls := "gallai/util/RandomStream", name := "nextLong", desc := "()J" } : Jvm.MethodName) prog_70_method_2_code (3 : Nat) (Option.some Jvm.ClassFile.FieldType.long), Jvm.Cond.code ({ cls := "gallai/util/RandomStreamNextLongPinLaw", name := "unmix", desc := "(J)J" } : Jvm.MethodName) method_2_code (4 : Nat) (Option.some Jvm.ClassFile.FieldType.long)]
set_option maxRecDepth 65536 in
theorem codes_eq : words1.filter isCode = codes1 := rfl
theorem w_codes : ∀ c ∈ words1.filter isCode, c.before args0 about1 = true := by
  rw [codes_eq]
  intro c hc
  simp only [codes1, List.mem_cons, List.not_mem_nil, or_false] at hc
  rcases hc with rfl | rfl | rfl | rfl | rfl
  · exact w_c0
  · exact w_c1
  · exact w_c2
  · exact w_c3
  · exact w_c4
set_option maxRecDepth 65536 in
theorem w_t1 : (words1.take 24).all (fun c => isCode c || c.before args0 about1) = true := by decide +kernel
set_option maxRecDepth 65536 in
theorem w_t2 : (words1.drop 24).all (fun c => isCode c || c.before args0 about1) = true := by decide +kernel
theorem w_tables : (allAtoms (Jvm.Cond.code x code maxLocals ret :: tables_1)).before args0 about1 = true := by
  rw [allAtoms_all]
  show words1.all (fun c => c.before args0 about1) = true
  refine all_split ?_ w_codes
  rw [← List.take_append_drop 24 words1, List.all_append, w_t1, w_t2]
  rfl
set_option maxRecDepth 65536 in
theorem w_case : (Jvm.Cond.and given_1 narrow_1).before args0 about1 = true := by decide +kernel
theorem w_applies : (headSpec (Jvm.Cond.code x code maxLocals ret :: tables_1) room_1).applies x e0.platform about1 = true :=
  (Spec.applies_iff w_frames).mpr ⟨w_running, w_runnable, w_alone, w_named, w_hears, w_ripe, w_room, w_tables⟩
theorem atStart : AtStart classFile x code maxLocals ret World_1 tables_1 room_1 Calls_1 rest_1 Pre_1 launch0 p0 e0 about1 theMethod args0 below0 :=
  ⟨lists_1, trivial, launch0.admits_env _ _ _, launch0.least_env, fairChoices_fair.cas, fairChoices_fair.clock, w_frames, w_args, w_heap, w_applies, trivial, trivial, w_case⟩
end start1
theorem witness_1 : WitnessClaimed_1 := ⟨start1.p0, start1.e0, start1.about1, start1.theMethod, start1.args0, start1.below0, start1.atStart⟩
end Jvm.Pilot.@@N@@
