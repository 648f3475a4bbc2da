import JvmDerived
import JvmDerived.Pilot.@@N@@Statement
import JvmDerived.Pilot.@@N@@Code
set_option linter.unusedVariables false
set_option linter.unusedSimpArgs false
namespace Jvm.Pilot.@@N@@
open Jvm Jvm.ClassFile Sem Op Lib Jvm.Free Jvm.Stand Jvm.LawKit Jvm.RoadKit Bundle Jvm.Pilot.@@N@@.Jvm.D
/-- what is left of a walk: from the frame g on, the run ends as K says -/
def own_G (p : Program) (e : Env) (below : List Frame) (s : State) (K : Option Value → Heap → List Loc → Prop) (nc ns : Nat) (T : State) (g : JFrame) : Prop :=
  ∃ s₂ o, Steps p.tables e below (T.setTop g) s₂ ∧ s₂.status = .running ∧ Ended s₂ below o ∧ ∃ v L, o = .returned v ∧ K v s₂.heap L ∧ FrameEnd s o s₂ L nc ns
section Own
variable {p : Program} {l : Launch} {e : Env} {R : Room} {s : State} {m : MethodId} {args : Array Value} {below : List Frame} {meth : Method} {c : Code} {T T' : State} {locs : List Loc} {cells slots : Nat} {K : Option Value → Heap → List Loc → Prop} {nc ns : Nat} {g g' : JFrame}
theorem own_s (h : ∀ t, Steps p.tables e below (T'.setTop g') t → Steps p.tables e below (T.setTop g) t) (k : own_G p e below s K nc ns T' g') : own_G p e below s K nc ns T g := by
  obtain ⟨s₂, o, h1, r⟩ := k
  exact ⟨s₂, o, h _ h1, r⟩
theorem own_trans (h : Steps p.tables e below (T.setTop g) (T'.setTop g')) (k : own_G p e below s K nc ns T' g') : own_G p e below s K nc ns T g := by
  obtain ⟨s₂, o, h1, r⟩ := k
  exact ⟨s₂, o, h.trans h1, r⟩
theorem own_cast (q : g = g') (k : own_G p e below s K nc ns T g') : own_G p e below s K nc ns T g := q ▸ k
theorem own_leave (X : Stand p l e R s m args below meth c T locs cells slots) {v : Option Value} (hlk : meth.locks = false) (hv : meth.sig.returnType = none → v = none) (hc : cells ≤ nc) (hn : slots ≤ ns) (hq : K v T.heap locs)
    (st : ∀ fs, (∀ (f : JFrame) (acts : List Action), f.method = m → f.locked = none → f.entered = [] → (doReturn e (T.setTop f) acts v).1 = T.setFrames fs) → Steps p.tables e below (T.setTop g) (T.setFrames fs)) : own_G p e below s K nc ns T g := by
  obtain ⟨fs, hr, hrun, hended, hW, hsame⟩ := X.leave (v := v) hv hlk
  exact ⟨_, _, st fs hr, hrun, hended, _, _, rfl, hq, ⟨_, rfl⟩, hW, hsame.mono hc hn⟩
theorem own_retN (X : Stand p l e R s m args below meth c T locs cells slots) (hx : p.tables.exec = Jvm.exec) (hlk : meth.locks = false) {pc : Nat} {Ls : Array Slot} {z z' : Int32} {t : FieldType} {rest : List Value} (hret : meth.sig.returnType = some t) (ht : t = .boolean ∨ t = .byte ∨ t = .char ∨ t = .short)
    (hd : decode c.code pc = .ok (.ireturn, 1)) (hz : nar t z = z') (hc : cells ≤ nc) (hn : slots ≤ ns) (hq : K (some (.int z')) T.heap locs) : own_G p e below s K nc ns T (mkF m pc Ls (.int z :: rest)) := by
  subst hz
  exact own_leave X hlk (fun h => by rw [hret] at h; cases h) hc hn hq fun fs hr => retN X hx hret ht hd hr
theorem own_retI (X : Stand p l e R s m args below meth c T locs cells slots) (hx : p.tables.exec = Jvm.exec) (hlk : meth.locks = false) {pc : Nat} {Ls : Array Slot} {z : Int32} {rest : List Value} (hret : meth.sig.returnType = some .int)
    (hd : decode c.code pc = .ok (.ireturn, 1)) (hc : cells ≤ nc) (hn : slots ≤ ns) (hq : K (some (.int z)) T.heap locs) : own_G p e below s K nc ns T (mkF m pc Ls (.int z :: rest)) :=
  own_leave X hlk (fun h => by rw [hret] at h; cases h) hc hn hq fun fs hr => retOut X hx hret rfl (Or.inl ⟨rfl, Or.inl rfl, _, rfl⟩) hd hr
theorem own_retJ (X : Stand p l e R s m args below meth c T locs cells slots) (hx : p.tables.exec = Jvm.exec) (hlk : meth.locks = false) {pc : Nat} {Ls : Array Slot} {z : Int64} {rest : List Value} (hret : meth.sig.returnType = some .long)
    (hd : decode c.code pc = .ok (.lreturn, 1)) (hc : cells ≤ nc) (hn : slots ≤ ns) (hq : K (some (.long z)) T.heap locs) : own_G p e below s K nc ns T (mkF m pc Ls (.long z :: rest)) :=
  own_leave X hlk (fun h => by rw [hret] at h; cases h) hc hn hq fun fs hr => retOut X hx hret rfl (Or.inr (Or.inl ⟨rfl, rfl, _, rfl⟩)) hd hr
theorem own_retR (X : Stand p l e R s m args below meth c T locs cells slots) (hx : p.tables.exec = Jvm.exec) (hlk : meth.locks = false) {pc : Nat} {Ls : Array Slot} {v : Value} {t : FieldType} {rest : List Value} (hret : meth.sig.returnType = some t) (ht : t.isReference = true) (hv : v.isRef = true) (hnv : narrow t v = v)
    (hd : decode c.code pc = .ok (.areturn, 1)) (hc : cells ≤ nc) (hn : slots ≤ ns) (hq : K (some v) T.heap locs) : own_G p e below s K nc ns T (mkF m pc Ls (v :: rest)) :=
  own_leave X hlk (fun h => by rw [hret] at h; cases h) hc hn hq fun fs hr => retOut X hx hret hnv (Or.inr (Or.inr (Or.inr (Or.inr ⟨rfl, ht, hv⟩)))) hd hr
theorem own_retV (X : Stand p l e R s m args below meth c T locs cells slots) (hx : p.tables.exec = Jvm.exec) (hlk : meth.locks = false) {pc : Nat} {Ls : Array Slot} (hret : meth.sig.returnType = none)
    (hd : decode c.code pc = .ok (.return_, 1)) (hc : cells ≤ nc) (hn : slots ≤ ns) (hq : K none T.heap locs) : own_G p e below s K nc ns T (mkF m pc Ls []) :=
  own_leave X hlk (fun _ => rfl) hc hn hq fun fs hr => X.returnOut hx hret hd hr
theorem own_selp {s : State} {args : Array Value} {y : MethodName} {n : Nat} (wi : (Jvm.Cond.instantiable y.cls n).before args s = true) (hp : (Jvm.Cond.privateMethod y).before args s = true) (hi : (Jvm.Cond.instanceMethod y).before args s = true)
    (hy : y.cls ≠ "java/lang/invoke/MethodHandle" ∧ y.cls ≠ "java/lang/invoke/VarHandle") : (Jvm.Cond.selects y.cls y y).before args s = true := by
  obtain ⟨c, k, h1, h2, h3, h4, -⟩ := Cond.instantiable_spec wi
  exact Jvm.Stand.selects_self_of_private h1 h2 (Bool.or_eq_false_iff.mp h4).1 (Cond.privateMethod_at hp) hi hy
theorem own_miss {k : Int32} (i : Int) (n : Int32) (e : n.toInt = i) (hc : ¬ k = n) : i ≠ k.toInt := fun h => hc (Int32.toInt_inj.mp (h.symm.trans e.symm))
theorem own_posI {x : Int32} (h : (0 : Int32) < x) : x ≠ 0 := fun q => by rw [q] at h; exact absurd h (by decide)
theorem own_posJ {x : Int64} (h : (0 : Int64) < x) : x ≠ 0 := fun q => by rw [q] at h; exact absurd h (by decide)
theorem own_asI {x y : Int32} (h : y < x) : ¬ x < y := fun q => Int32.lt_irrefl (Int32.lt_trans h q)
theorem own_asJ {x y : Int64} (h : y < x) : ¬ x < y := fun q => Int64.lt_irrefl (Int64.lt_trans h q)
theorem own_eqltI {x y : Int32} (h : x = y) : ¬ x < y := fun q => by rw [h] at q; exact Int32.lt_irrefl q
theorem own_eqltJ {x y : Int64} (h : x = y) : ¬ x < y := fun q => by rw [h] at q; exact Int64.lt_irrefl q
theorem own_triI {x y : Int32} (h : ¬ x = y) (q : ¬ y < x) : x < y := by
  rw [Int32.lt_iff_toInt_lt] at *
  rw [← Int32.toInt_inj] at h
  omega
theorem own_triJ {x y : Int64} (h : ¬ x = y) (q : ¬ y < x) : x < y := by
  rw [Int64.lt_iff_toInt_lt] at *
  rw [← Int64.toInt_inj] at h
  omega
theorem own_ltneI {x y : Int32} (h : x < y) : ¬ x = y := fun q => by rw [q] at h; exact Int32.lt_irrefl h
theorem own_ltneJ {x y : Int64} (h : x < y) : ¬ x = y := fun q => by rw [q] at h; exact Int64.lt_irrefl h
theorem own_ltne'I {x y : Int32} (h : y < x) : ¬ x = y := fun q => by rw [q] at h; exact Int32.lt_irrefl h
theorem own_ltne'J {x y : Int64} (h : y < x) : ¬ x = y := fun q => by rw [q] at h; exact Int64.lt_irrefl h
theorem own_nnI {x y : Int32} (h : ¬ x < y) (q : ¬ y < x) : x = y := by
  rw [Int32.lt_iff_toInt_lt] at *
  rw [← Int32.toInt_inj]
  omega
theorem own_nnJ {x y : Int64} (h : ¬ x < y) (q : ¬ y < x) : x = y := by
  rw [Int64.lt_iff_toInt_lt] at *
  rw [← Int64.toInt_inj]
  omega
end Own
theorem own_sn_18_11 {Z : State} {a0 : Array Value} (hw : ∀ d ∈ tables_1, d.before a0 Z = true) : Jvm.RoadKit.slotOf Z "com/example/burn_to_balance/burntobalance/io/LineCount" "afterReturn" "Z" ≠ Jvm.RoadKit.slotOf Z "com/example/burn_to_balance/burntobalance/io/LineCount" "line" "J" := slot_ne (Or.inl (hw _ (List.mem_of_getElem? (i := 18) rfl))) (Or.inl (hw _ (List.mem_of_getElem? (i := 11) rfl))) (by decide) (t := .boolean) (t' := .long) (by decide) (by decide)
theorem d1_0 : decode prog_24_method_1_code 0 = .ok (.aload_n 0, 1) := by decide +kernel
theorem d1_1 : decode prog_24_method_1_code 1 = .ok (.invokespecial 1, 3) := by decide +kernel
theorem d1_4 : decode prog_24_method_1_code 4 = .ok (.aload_n 0, 1) := by decide +kernel
theorem d1_5 : decode prog_24_method_1_code 5 = .ok (.lconst 1, 1) := by decide +kernel
theorem d1_6 : decode prog_24_method_1_code 6 = .ok (.putfield 7, 3) := by decide +kernel
theorem d1_9 : decode prog_24_method_1_code 9 = .ok (.return_, 1) := by decide +kernel
theorem pn_com_example_burn_to_balance_burntobalance_io_LineCount : plainName "com/example/burn_to_balance/burntobalance/io/LineCount" = true := by first | (simp [plainName, overriddenIn]; done) | decide +kernel
theorem ef_1 (m : MethodId) (a1_0 : Addr) : entryFrame m #[(.ref a1_0)] 1 = mkF m 0 #[.val (.ref a1_0)] [] := by first | (simp [entryFrame, mkF, argsToLocals, Value.category]; done) | rfl
def Q1 (Z : State) (a1_0 : Addr) (v1_line : Int64) (u1_afterReturn : Int32) (h0 : Heap) (n0 : Nat) (v : Option Value) (h : Heap) (L : List Loc) : Prop := v = none ∧ Fr n0 L ∧ Keep h0 h [a1_0] ∧ Exa Z h a1_0 "com/example/burn_to_balance/burntobalance/io/LineCount" ∧ Fld Z h a1_0 "com/example/burn_to_balance/burntobalance/io/LineCount" "afterReturn" "Z" (.int u1_afterReturn) ∧ Fld Z h a1_0 "com/example/burn_to_balance/burntobalance/io/LineCount" "line" "J" (.long 1)
set_option maxRecDepth 65536 in
set_option maxHeartbeats 40000000 in
theorem rm1 (l : Launch) (Z : State) (a0 : Array Value) (hw : ∀ d ∈ tables_1, d.before a0 Z = true) (ws : List Jvm.Cond) (a1_0 : Addr) (v1_line : Int64) (u1_afterReturn : Int32) (h0 : Heap) (n0 : Nat) (Z0 : n0 ≤ h0.size) (F_line_a1_0 : Fld Z h0 a1_0 "com/example/burn_to_balance/burntobalance/io/LineCount" "line" "J" (.long v1_line)) (F_afterReturn_a1_0 : Fld Z h0 a1_0 "com/example/burn_to_balance/burntobalance/io/LineCount" "afterReturn" "Z" (.int u1_afterReturn)) (E_a1_0 : Exa Z h0 a1_0 "com/example/burn_to_balance/burntobalance/io/LineCount") (g_a1_0 : n0 ≤ a1_0) :
    MetFree l (⟨"com/example/burn_to_balance/burntobalance/io/LineCount", "<init>", "()V"⟩ : MethodName) (head1 (Jvm.Cond.code (⟨"com/example/burn_to_balance/burntobalance/io/LineCount", "<init>", "()V"⟩ : MethodName) prog_24_method_1_code 1 none :: ws) ({ frames := 1, cells := 0, slots := 0, locals := 12 } : Room)) (fun a U => a = #[(.ref a1_0)] ∧ Z.Warmed39 U.vm ∧ U.heap = h0) (fun _ _ _ _ _ => True) (fun _ U o U' => ∃ v L, o = .returned v ∧ Q1 Z a1_0 v1_line u1_afterReturn h0 n0 v U'.heap L ∧ FrameEnd U o U' L ({ frames := 1, cells := 0, slots := 0, locals := 12 } : Room).cells ({ frames := 1, cells := 0, slots := 0, locals := 12 } : Room).slots) := by
  refine MetFree.of_bodySF (plainFor_of_name pn_com_example_burn_to_balance_burntobalance_io_LineCount) hisR ?_
  intro p e s m args below meth c s₁ Bd hml0 hP hK
  obtain ⟨rfl, hZ, hh⟩ := hP
  have hx := Bd.exec
  have hby := Bd.bytes
  have hlk := Bd.notSynchronized
  have hret := Bd.returns
  have hml : c.maxLocals = 1 := hml0
  have hown : s.vm.findClass "com/example/burn_to_balance/burntobalance/io/LineCount" = some m.cls := findClass_of_methodNamed Bd.named
  have hnm := (name_of_methodNamed Bd.named Bd.method).1
  have X0 : Stand p l e ({ frames := 1, cells := 0, slots := 0, locals := 12 } : Room) s m #[(.ref a1_0)] below meth c s₁ [] 0 0 := Stand.of_body Bd
  have e0 : s₁.heap = h0 := by rw [← hh, Bd.state]; rfl
  have N0 := Fr.nil n0
  have K0 : Keep h0 h0 [a1_0] := Keep.refl _ _
  show own_G p e below s (Q1 Z a1_0 v1_line u1_afterReturn h0 n0) ({ frames := 1, cells := 0, slots := 0, locals := 12 } : Room).cells ({ frames := 1, cells := 0, slots := 0, locals := 12 } : Room).slots s₁ (entryFrame m #[(.ref a1_0)] 1)
  have ww2 := hw _ (List.mem_of_getElem? (i := 2) rfl)
  have ww7 := hw _ (List.mem_of_getElem? (i := 7) rfl)
  have ww8 := hw _ (List.mem_of_getElem? (i := 8) rfl)
  have ww9 := hw _ (List.mem_of_getElem? (i := 9) rfl)
  have ww10 := hw _ (List.mem_of_getElem? (i := 10) rfl)
  have ww11 := hw _ (List.mem_of_getElem? (i := 11) rfl)
  refine own_cast (ef_1 m a1_0) ?_
  refine own_s (g' := (mkF m 1 #[.val (.ref a1_0)] [(.ref a1_0)])) (fun _ k => XS.aloadN X0.here hx rfl (hb hby d1_0) rfl rfl k) ?_
  obtain ⟨T1, X1, e1, st1⟩ := initO X0 hx hZ hown ww7 ww8 ww9 e0 (g := (mkF m 1 #[.val (.ref a1_0)] [(.ref a1_0)])) rfl (by rw [hml]; rfl) rfl (hb hby d1_1) (by decide) (W := 0) (by show 2 * 0 + _ ≤ _; exact Nat.le_of_eq rfl) (by decide)
  refine own_s (g' := (mkF m 4 #[.val (.ref a1_0)] [])) st1 ?_
  refine own_s (g' := (mkF m 5 #[.val (.ref a1_0)] [(.ref a1_0)])) (fun _ k => XS.aloadN X1.here hx rfl (hb hby d1_4) rfl rfl k) ?_
  refine own_s (g' := (mkF m 6 #[.val (.ref a1_0)] [(.long 1), (.ref a1_0)])) (fun _ k => XS.lconst X1.here hx rfl (hb hby d1_5) k) ?_
  obtain ⟨T2, h2, X2, e2, W2, st2⟩ := putF X1 hx hZ hown (host := "") (Or.inl ww10) Via.refl e1 F_line_a1_0 E_a1_0 (Or.inl ww11) ww2 (ty := .long) (by decide) rfl rfl (g := (mkF m 6 #[.val (.ref a1_0)] [(.long 1), (.ref a1_0)])) rfl rfl (hb hby d1_6)
  have f3 := F_line_a1_0.same W2
  have K2 := K0.wr W2 (Or.inl (List.mem_of_getElem? (i := 0) rfl))
  have N2 := Fr.snoc X2 N0 g_a1_0
  refine own_s (g' := (mkF m 9 #[.val (.ref a1_0)] [])) st2 ?_
  have f4 := (F_afterReturn_a1_0.other W2 (Or.inr (own_sn_18_11 hw)))
  have f5 := (E_a1_0.wr W2)
  refine own_retV X2 hx hlk hret (hb hby d1_9) (by decide) (by decide) ?_
  show Q1 Z a1_0 v1_line u1_afterReturn h0 n0 _ T2.heap _
  rw [e2]
  exact ⟨rfl, N2, K2, f5, f4, f3⟩
theorem d4_0 : decode prog_24_method_4_code 0 = .ok (.aload_n 0, 1) := by decide +kernel
theorem d4_1 : decode prog_24_method_4_code 1 = .ok (.getfield 7, 3) := by decide +kernel
theorem d4_4 : decode prog_24_method_4_code 4 = .ok (.lreturn, 1) := by decide +kernel
theorem ef_4 (m : MethodId) (a4_0 : Addr) : entryFrame m #[(.ref a4_0)] 1 = mkF m 0 #[.val (.ref a4_0)] [] := by first | (simp [entryFrame, mkF, argsToLocals, Value.category]; done) | rfl
def Q4 (Z : State) (a4_0 : Addr) (v4_line : Int64) (h0 : Heap) (n0 : Nat) (v : Option Value) (h : Heap) (L : List Loc) : Prop := v = some (.long v4_line) ∧ Fr n0 L ∧ h = h0
set_option maxRecDepth 65536 in
set_option maxHeartbeats 40000000 in
theorem rm4 (l : Launch) (Z : State) (a0 : Array Value) (hw : ∀ d ∈ tables_1, d.before a0 Z = true) (ws : List Jvm.Cond) (a4_0 : Addr) (v4_line : Int64) (h0 : Heap) (n0 : Nat) (Z0 : n0 ≤ h0.size) (F_line_a4_0 : Fld Z h0 a4_0 "com/example/burn_to_balance/burntobalance/io/LineCount" "line" "J" (.long v4_line)) :
    MetFree l (⟨"com/example/burn_to_balance/burntobalance/io/LineCount", "line", "()J"⟩ : MethodName) (head1 (Jvm.Cond.code (⟨"com/example/burn_to_balance/burntobalance/io/LineCount", "line", "()J"⟩ : MethodName) prog_24_method_4_code 1 (some .long) :: ws) ({ frames := 0, cells := 0, slots := 0, locals := 0 } : Room)) (fun a U => a = #[(.ref a4_0)] ∧ Z.Warmed39 U.vm ∧ U.heap = h0) (fun _ _ _ _ _ => True) (fun _ U o U' => ∃ v L, o = .returned v ∧ Q4 Z a4_0 v4_line h0 n0 v U'.heap L ∧ FrameEnd U o U' L ({ frames := 0, cells := 0, slots := 0, locals := 0 } : Room).cells ({ frames := 0, cells := 0, slots := 0, locals := 0 } : Room).slots) := by
  refine MetFree.of_bodySF (plainFor_of_name pn_com_example_burn_to_balance_burntobalance_io_LineCount) hisR ?_
  intro p e s m args below meth c s₁ Bd hml0 hP hK
  obtain ⟨rfl, hZ, hh⟩ := hP
  have hx := Bd.exec
  have hby := Bd.bytes
  have hlk := Bd.notSynchronized
  have hret := Bd.returns
  have hml : c.maxLocals = 1 := hml0
  have hown : s.vm.findClass "com/example/burn_to_balance/burntobalance/io/LineCount" = some m.cls := findClass_of_methodNamed Bd.named
  have hnm := (name_of_methodNamed Bd.named Bd.method).1
  have X0 : Stand p l e ({ frames := 0, cells := 0, slots := 0, locals := 0 } : Room) s m #[(.ref a4_0)] below meth c s₁ [] 0 0 := Stand.of_body Bd
  have e0 : s₁.heap = h0 := by rw [← hh, Bd.state]; rfl
  have N0 := Fr.nil n0
  have K0 : Keep h0 h0 [] := Keep.refl _ _
  show own_G p e below s (Q4 Z a4_0 v4_line h0 n0) ({ frames := 0, cells := 0, slots := 0, locals := 0 } : Room).cells ({ frames := 0, cells := 0, slots := 0, locals := 0 } : Room).slots s₁ (entryFrame m #[(.ref a4_0)] 1)
  have ww10 := hw _ (List.mem_of_getElem? (i := 10) rfl)
  refine own_cast (ef_4 m a4_0) ?_
  refine own_s (g' := (mkF m 1 #[.val (.ref a4_0)] [(.ref a4_0)])) (fun _ k => XS.aloadN X0.here hx rfl (hb hby d4_0) rfl rfl k) ?_
  obtain ⟨T6, X6, e6, st6⟩ := getF X0 hx hZ hown (host := "") (Or.inl ww10) Via.refl e0 F_line_a4_0 (g := (mkF m 1 #[.val (.ref a4_0)] [(.ref a4_0)])) rfl rfl (hb hby d4_1)
  refine own_s (g' := (mkF m 4 #[.val (.ref a4_0)] [(.long v4_line)])) st6 ?_
  refine own_retJ X6 hx hlk hret (hb hby d4_4) (by decide) (by decide) ?_
  show Q4 Z a4_0 v4_line h0 n0 _ T6.heap _
  rw [e6]
  exact ⟨rfl, N0, rfl⟩
theorem d5_0 : decode prog_24_method_2_code 0 = .ok (.iload_n 0, 1) := by decide +kernel
theorem d5_1 : decode prog_24_method_2_code 1 = .ok (.bipush 13, 2) := by decide +kernel
theorem d5_3 : decode prog_24_method_2_code 3 = .ok (.if_icmp .eq 9, 3) := by decide +kernel
theorem d5_6 : decode prog_24_method_2_code 6 = .ok (.iload_n 0, 1) := by decide +kernel
theorem d5_7 : decode prog_24_method_2_code 7 = .ok (.bipush 10, 2) := by decide +kernel
theorem d5_9 : decode prog_24_method_2_code 9 = .ok (.if_icmp .ne 7, 3) := by decide +kernel
theorem d5_12 : decode prog_24_method_2_code 12 = .ok (.iconst 1, 1) := by decide +kernel
theorem d5_13 : decode prog_24_method_2_code 13 = .ok (.goto 4, 3) := by decide +kernel
theorem d5_16 : decode prog_24_method_2_code 16 = .ok (.iconst 0, 1) := by decide +kernel
theorem d5_17 : decode prog_24_method_2_code 17 = .ok (.ireturn, 1) := by decide +kernel
theorem ef_5 (m : MethodId) (p5_0 : Int32) : entryFrame m #[(.int p5_0)] 1 = mkF m 0 #[.val (.int p5_0)] [] := by first | (simp [entryFrame, mkF, argsToLocals, Value.category]; done) | rfl
def r5 (p5_0 : Int32) : Int32 := (if p5_0 = (13 : Int32) then (1 : Int32) else (if p5_0 = (10 : Int32) then (1 : Int32) else (0 : Int32)))
def Q5 (Z : State) (p5_0 : Int32) (h0 : Heap) (n0 : Nat) (v : Option Value) (h : Heap) (L : List Loc) : Prop := v = some (.int (r5 p5_0)) ∧ Fr n0 L ∧ h = h0
set_option maxRecDepth 65536 in
set_option maxHeartbeats 40000000 in
theorem rm5 (l : Launch) (Z : State) (a0 : Array Value) (hw : ∀ d ∈ tables_1, d.before a0 Z = true) (ws : List Jvm.Cond) (p5_0 : Int32) (h0 : Heap) (n0 : Nat) (Z0 : n0 ≤ h0.size) :
    MetFree l (⟨"com/example/burn_to_balance/burntobalance/io/LineCount", "isBreak", "(I)Z"⟩ : MethodName) (head1 (Jvm.Cond.code (⟨"com/example/burn_to_balance/burntobalance/io/LineCount", "isBreak", "(I)Z"⟩ : MethodName) prog_24_method_2_code 1 (some .boolean) :: ws) ({ frames := 0, cells := 0, slots := 0, locals := 0 } : Room)) (fun a U => a = #[(.int p5_0)] ∧ Z.Warmed39 U.vm ∧ U.heap = h0) (fun _ _ _ _ _ => True) (fun _ U o U' => ∃ v L, o = .returned v ∧ Q5 Z p5_0 h0 n0 v U'.heap L ∧ FrameEnd U o U' L ({ frames := 0, cells := 0, slots := 0, locals := 0 } : Room).cells ({ frames := 0, cells := 0, slots := 0, locals := 0 } : Room).slots) := by
  refine MetFree.of_bodySF (plainFor_of_name pn_com_example_burn_to_balance_burntobalance_io_LineCount) hisR ?_
  intro p e s m args below meth c s₁ Bd hml0 hP hK
  obtain ⟨rfl, hZ, hh⟩ := hP
  have hx := Bd.exec
  have hby := Bd.bytes
  have hlk := Bd.notSynchronized
  have hret := Bd.returns
  have hml : c.maxLocals = 1 := hml0
  have hown : s.vm.findClass "com/example/burn_to_balance/burntobalance/io/LineCount" = some m.cls := findClass_of_methodNamed Bd.named
  have hnm := (name_of_methodNamed Bd.named Bd.method).1
  have X0 : Stand p l e ({ frames := 0, cells := 0, slots := 0, locals := 0 } : Room) s m #[(.int p5_0)] below meth c s₁ [] 0 0 := Stand.of_body Bd
  have e0 : s₁.heap = h0 := by rw [← hh, Bd.state]; rfl
  have N0 := Fr.nil n0
  have K0 : Keep h0 h0 [] := Keep.refl _ _
  show own_G p e below s (Q5 Z p5_0 h0 n0) ({ frames := 0, cells := 0, slots := 0, locals := 0 } : Room).cells ({ frames := 0, cells := 0, slots := 0, locals := 0 } : Room).slots s₁ (entryFrame m #[(.int p5_0)] 1)
  refine own_cast (ef_5 m p5_0) ?_
  refine own_s (g' := (mkF m 1 #[.val (.int p5_0)] [(.int p5_0)])) (fun _ k => XS.iloadN X0.here hx rfl (hb hby d5_0) rfl k) ?_
  refine own_s (g' := (mkF m 3 #[.val (.int p5_0)] [(.int 13), (.int p5_0)])) (fun _ k => XS.bipush X0.here hx rfl (hb hby d5_1) k) ?_
  by_cases c7 : p5_0 = (13 : Int32)
  ·skip
   refine own_s (g' := (mkF m 12 #[.val (.int p5_0)] [])) (fun _ k => XS.icmpYes X0.here hx rfl (pc0 := 3) (pc' := 12) rfl (hb hby d5_3) rfl (teq c7).1 (by decide) (by decide) k) ?_
   refine own_s (g' := (mkF m 13 #[.val (.int p5_0)] [(.int 1)])) (fun _ k => XS.iconst X0.here hx rfl (hb hby d5_12) k) ?_
   refine own_s (g' := (mkF m 17 #[.val (.int p5_0)] [(.int 1)])) (fun _ k => XS.goto X0.here hx rfl (pc0 := 13) (pc' := 17) rfl (hb hby d5_13) (by decide) (by decide) k) ?_
   refine own_retN X0 hx hlk (t := .boolean) hret (by simp) (hb hby d5_17) (z' := (1 : Int32)) (by decide) (by decide) (by decide) ?_
   show Q5 Z p5_0 h0 n0 _ s₁.heap _
   rw [e0]
   exact ⟨(congrArg (fun z => some (Value.int z)) (show (1 : Int32) = (r5 p5_0) from (Eq.symm (if_pos c7)))), N0, rfl⟩
  ·skip
   refine own_s (g' := (mkF m 6 #[.val (.int p5_0)] [])) (fun _ k => XS.icmpNo X0.here hx rfl (hb hby d5_3) rfl (feq c7).1 k) ?_
   refine own_s (g' := (mkF m 7 #[.val (.int p5_0)] [(.int p5_0)])) (fun _ k => XS.iloadN X0.here hx rfl (hb hby d5_6) rfl k) ?_
   refine own_s (g' := (mkF m 9 #[.val (.int p5_0)] [(.int 10), (.int p5_0)])) (fun _ k => XS.bipush X0.here hx rfl (hb hby d5_7) k) ?_
   by_cases c8 : p5_0 = (10 : Int32)
   ·skip
    refine own_s (g' := (mkF m 12 #[.val (.int p5_0)] [])) (fun _ k => XS.icmpNo X0.here hx rfl (hb hby d5_9) rfl (teq c8).2 k) ?_
    refine own_s (g' := (mkF m 13 #[.val (.int p5_0)] [(.int 1)])) (fun _ k => XS.iconst X0.here hx rfl (hb hby d5_12) k) ?_
    refine own_s (g' := (mkF m 17 #[.val (.int p5_0)] [(.int 1)])) (fun _ k => XS.goto X0.here hx rfl (pc0 := 13) (pc' := 17) rfl (hb hby d5_13) (by decide) (by decide) k) ?_
    refine own_retN X0 hx hlk (t := .boolean) hret (by simp) (hb hby d5_17) (z' := (1 : Int32)) (by decide) (by decide) (by decide) ?_
    show Q5 Z p5_0 h0 n0 _ s₁.heap _
    rw [e0]
    exact ⟨(congrArg (fun z => some (Value.int z)) (show (1 : Int32) = (r5 p5_0) from (Eq.symm ((if_neg c7).trans (if_pos c8))))), N0, rfl⟩
   ·skip
    refine own_s (g' := (mkF m 16 #[.val (.int p5_0)] [])) (fun _ k => XS.icmpYes X0.here hx rfl (pc0 := 9) (pc' := 16) rfl (hb hby d5_9) rfl (feq c8).2 (by decide) (by decide) k) ?_
    refine own_s (g' := (mkF m 17 #[.val (.int p5_0)] [(.int 0)])) (fun _ k => XS.iconst X0.here hx rfl (hb hby d5_16) k) ?_
    refine own_retN X0 hx hlk (t := .boolean) hret (by simp) (hb hby d5_17) (z' := (0 : Int32)) (by decide) (by decide) (by decide) ?_
    show Q5 Z p5_0 h0 n0 _ s₁.heap _
    rw [e0]
    exact ⟨(congrArg (fun z => some (Value.int z)) (show (0 : Int32) = (r5 p5_0) from (Eq.symm ((if_neg c7).trans (if_neg c8))))), N0, rfl⟩
theorem own_sn_11_18 {Z : State} {a0 : Array Value} (hw : ∀ d ∈ tables_1, d.before a0 Z = true) : Jvm.RoadKit.slotOf Z "com/example/burn_to_balance/burntobalance/io/LineCount" "line" "J" ≠ Jvm.RoadKit.slotOf Z "com/example/burn_to_balance/burntobalance/io/LineCount" "afterReturn" "Z" := slot_ne (Or.inl (hw _ (List.mem_of_getElem? (i := 11) rfl))) (Or.inl (hw _ (List.mem_of_getElem? (i := 18) rfl))) (by decide) (t := .long) (t' := .boolean) (by decide) (by decide)
theorem d3_0 : decode prog_24_method_3_code 0 = .ok (.iload_n 1, 1) := by decide +kernel
theorem d3_1 : decode prog_24_method_3_code 1 = .ok (.bipush 13, 2) := by decide +kernel
theorem d3_3 : decode prog_24_method_3_code 3 = .ok (.if_icmp .eq 16, 3) := by decide +kernel
theorem d3_6 : decode prog_24_method_3_code 6 = .ok (.iload_n 1, 1) := by decide +kernel
theorem d3_7 : decode prog_24_method_3_code 7 = .ok (.bipush 10, 2) := by decide +kernel
theorem d3_9 : decode prog_24_method_3_code 9 = .ok (.if_icmp .ne 20, 3) := by decide +kernel
theorem d3_12 : decode prog_24_method_3_code 12 = .ok (.aload_n 0, 1) := by decide +kernel
theorem d3_13 : decode prog_24_method_3_code 13 = .ok (.getfield 13, 3) := by decide +kernel
theorem d3_16 : decode prog_24_method_3_code 16 = .ok (.ifCond .ne 13, 3) := by decide +kernel
theorem d3_19 : decode prog_24_method_3_code 19 = .ok (.aload_n 0, 1) := by decide +kernel
theorem d3_20 : decode prog_24_method_3_code 20 = .ok (.dup, 1) := by decide +kernel
theorem d3_21 : decode prog_24_method_3_code 21 = .ok (.getfield 7, 3) := by decide +kernel
theorem d3_24 : decode prog_24_method_3_code 24 = .ok (.lconst 1, 1) := by decide +kernel
theorem d3_25 : decode prog_24_method_3_code 25 = .ok (.ladd, 1) := by decide +kernel
theorem d3_26 : decode prog_24_method_3_code 26 = .ok (.putfield 7, 3) := by decide +kernel
theorem d3_29 : decode prog_24_method_3_code 29 = .ok (.aload_n 0, 1) := by decide +kernel
theorem d3_30 : decode prog_24_method_3_code 30 = .ok (.iload_n 1, 1) := by decide +kernel
theorem d3_31 : decode prog_24_method_3_code 31 = .ok (.bipush 13, 2) := by decide +kernel
theorem d3_33 : decode prog_24_method_3_code 33 = .ok (.if_icmp .ne 7, 3) := by decide +kernel
theorem d3_36 : decode prog_24_method_3_code 36 = .ok (.iconst 1, 1) := by decide +kernel
theorem d3_37 : decode prog_24_method_3_code 37 = .ok (.goto 4, 3) := by decide +kernel
theorem d3_40 : decode prog_24_method_3_code 40 = .ok (.iconst 0, 1) := by decide +kernel
theorem d3_41 : decode prog_24_method_3_code 41 = .ok (.putfield 13, 3) := by decide +kernel
theorem d3_44 : decode prog_24_method_3_code 44 = .ok (.return_, 1) := by decide +kernel
theorem ef_3 (m : MethodId) (a3_0 : Addr) (p3_1 : Int32) : entryFrame m #[(.ref a3_0), (.int p3_1)] 2 = mkF m 0 #[.val (.ref a3_0), .val (.int p3_1)] [] := by first | (simp [entryFrame, mkF, argsToLocals, Value.category]; done) | rfl
def w3_line (p3_1 : Int32) (v3_line : Int64) (u3_afterReturn : Int32) : Int64 := (if p3_1 = (13 : Int32) then (v3_line + (1 : Int64)) else (if p3_1 = (10 : Int32) then (if u3_afterReturn = (0 : Int32) then (v3_line + (1 : Int64)) else v3_line) else v3_line))
def w3_afterReturn (p3_1 : Int32) (u3_afterReturn : Int32) : Int32 := (if p3_1 = (13 : Int32) then (1 : Int32) else (if p3_1 = (10 : Int32) then (if u3_afterReturn = (0 : Int32) then (0 : Int32) else (0 : Int32)) else (0 : Int32)))
def Q3 (Z : State) (a3_0 : Addr) (p3_1 : Int32) (v3_line : Int64) (u3_afterReturn : Int32) (h0 : Heap) (n0 : Nat) (v : Option Value) (h : Heap) (L : List Loc) : Prop := v = none ∧ Fr n0 L ∧ Keep h0 h [a3_0] ∧ Exa Z h a3_0 "com/example/burn_to_balance/burntobalance/io/LineCount" ∧ Fld Z h a3_0 "com/example/burn_to_balance/burntobalance/io/LineCount" "line" "J" (.long (w3_line p3_1 v3_line u3_afterReturn)) ∧ Fld Z h a3_0 "com/example/burn_to_balance/burntobalance/io/LineCount" "afterReturn" "Z" (.int (w3_afterReturn p3_1 u3_afterReturn))
set_option maxRecDepth 65536 in
set_option maxHeartbeats 40000000 in
theorem rm3 (l : Launch) (Z : State) (a0 : Array Value) (hw : ∀ d ∈ tables_1, d.before a0 Z = true) (ws : List Jvm.Cond) (a3_0 : Addr) (p3_1 : Int32) (v3_line : Int64) (u3_afterReturn : Int32) (h0 : Heap) (n0 : Nat) (Z0 : n0 ≤ h0.size) (F_line_a3_0 : Fld Z h0 a3_0 "com/example/burn_to_balance/burntobalance/io/LineCount" "line" "J" (.long v3_line)) (F_afterReturn_a3_0 : Fld Z h0 a3_0 "com/example/burn_to_balance/burntobalance/io/LineCount" "afterReturn" "Z" (.int u3_afterReturn)) (E_a3_0 : Exa Z h0 a3_0 "com/example/burn_to_balance/burntobalance/io/LineCount") (g_a3_0 : n0 ≤ a3_0) :
    MetFree l (⟨"com/example/burn_to_balance/burntobalance/io/LineCount", "take", "(C)V"⟩ : MethodName) (head1 (Jvm.Cond.code (⟨"com/example/burn_to_balance/burntobalance/io/LineCount", "take", "(C)V"⟩ : MethodName) prog_24_method_3_code 2 none :: ws) ({ frames := 0, cells := 0, slots := 0, locals := 0 } : Room)) (fun a U => a = #[(.ref a3_0), (.int p3_1)] ∧ Z.Warmed39 U.vm ∧ U.heap = h0) (fun _ _ _ _ _ => True) (fun _ U o U' => ∃ v L, o = .returned v ∧ Q3 Z a3_0 p3_1 v3_line u3_afterReturn h0 n0 v U'.heap L ∧ FrameEnd U o U' L ({ frames := 0, cells := 0, slots := 0, locals := 0 } : Room).cells ({ frames := 0, cells := 0, slots := 0, locals := 0 } : Room).slots) := by
  refine MetFree.of_bodySF (plainFor_of_name pn_com_example_burn_to_balance_burntobalance_io_LineCount) hisR ?_
  intro p e s m args below meth c s₁ Bd hml0 hP hK
  obtain ⟨rfl, hZ, hh⟩ := hP
  have hx := Bd.exec
  have hby := Bd.bytes
  have hlk := Bd.notSynchronized
  have hret := Bd.returns
  have hml : c.maxLocals = 2 := hml0
  have hown : s.vm.findClass "com/example/burn_to_balance/burntobalance/io/LineCount" = some m.cls := findClass_of_methodNamed Bd.named
  have hnm := (name_of_methodNamed Bd.named Bd.method).1
  have X0 : Stand p l e ({ frames := 0, cells := 0, slots := 0, locals := 0 } : Room) s m #[(.ref a3_0), (.int p3_1)] below meth c s₁ [] 0 0 := Stand.of_body Bd
  have e0 : s₁.heap = h0 := by rw [← hh, Bd.state]; rfl
  have N0 := Fr.nil n0
  have K0 : Keep h0 h0 [a3_0] := Keep.refl _ _
  show own_G p e below s (Q3 Z a3_0 p3_1 v3_line u3_afterReturn h0 n0) ({ frames := 0, cells := 0, slots := 0, locals := 0 } : Room).cells ({ frames := 0, cells := 0, slots := 0, locals := 0 } : Room).slots s₁ (entryFrame m #[(.ref a3_0), (.int p3_1)] 2)
  have ww2 := hw _ (List.mem_of_getElem? (i := 2) rfl)
  have ww10 := hw _ (List.mem_of_getElem? (i := 10) rfl)
  have ww11 := hw _ (List.mem_of_getElem? (i := 11) rfl)
  have ww17 := hw _ (List.mem_of_getElem? (i := 17) rfl)
  have ww18 := hw _ (List.mem_of_getElem? (i := 18) rfl)
  refine own_cast (ef_3 m a3_0 p3_1) ?_
  refine own_s (g' := (mkF m 1 #[.val (.ref a3_0), .val (.int p3_1)] [(.int p3_1)])) (fun _ k => XS.iloadN X0.here hx rfl (hb hby d3_0) rfl k) ?_
  refine own_s (g' := (mkF m 3 #[.val (.ref a3_0), .val (.int p3_1)] [(.int 13), (.int p3_1)])) (fun _ k => XS.bipush X0.here hx rfl (hb hby d3_1) k) ?_
  by_cases c9 : p3_1 = (13 : Int32)
  ·skip
   refine own_s (g' := (mkF m 19 #[.val (.ref a3_0), .val (.int p3_1)] [])) (fun _ k => XS.icmpYes X0.here hx rfl (pc0 := 3) (pc' := 19) rfl (hb hby d3_3) rfl (teq c9).1 (by decide) (by decide) k) ?_
   refine own_s (g' := (mkF m 20 #[.val (.ref a3_0), .val (.int p3_1)] [(.ref a3_0)])) (fun _ k => XS.aloadN X0.here hx rfl (hb hby d3_19) rfl rfl k) ?_
   refine own_s (g' := (mkF m 21 #[.val (.ref a3_0), .val (.int p3_1)] [(.ref a3_0), (.ref a3_0)])) (fun _ k => XS.dup X0.here hx rfl (hb hby d3_20) rfl rfl k) ?_
   obtain ⟨T10, X10, e10, st10⟩ := getF X0 hx hZ hown (host := "") (Or.inl ww10) Via.refl e0 F_line_a3_0 (g := (mkF m 21 #[.val (.ref a3_0), .val (.int p3_1)] [(.ref a3_0), (.ref a3_0)])) rfl rfl (hb hby d3_21)
   refine own_s (g' := (mkF m 24 #[.val (.ref a3_0), .val (.int p3_1)] [(.long v3_line), (.ref a3_0)])) st10 ?_
   refine own_s (g' := (mkF m 25 #[.val (.ref a3_0), .val (.int p3_1)] [(.long 1), (.long v3_line), (.ref a3_0)])) (fun _ k => XS.lconst X10.here hx rfl (hb hby d3_24) k) ?_
   refine own_s (g' := (mkF m 26 #[.val (.ref a3_0), .val (.int p3_1)] [(.long (v3_line + (1 : Int64))), (.ref a3_0)])) (fun _ k => XS.ladd X10.here hx rfl (hb hby d3_25) rfl k) ?_
   obtain ⟨T11, h11, X11, e11, W11, st11⟩ := putF X10 hx hZ hown (host := "") (Or.inl ww10) Via.refl e10 F_line_a3_0 E_a3_0 (Or.inl ww11) ww2 (ty := .long) (by decide) rfl rfl (g := (mkF m 26 #[.val (.ref a3_0), .val (.int p3_1)] [(.long (v3_line + (1 : Int64))), (.ref a3_0)])) rfl rfl (hb hby d3_26)
   have f12 := F_line_a3_0.same W11
   have K11 := K0.wr W11 (Or.inl (List.mem_of_getElem? (i := 0) rfl))
   have N11 := Fr.snoc X11 N0 g_a3_0
   refine own_s (g' := (mkF m 29 #[.val (.ref a3_0), .val (.int p3_1)] [])) st11 ?_
   refine own_s (g' := (mkF m 30 #[.val (.ref a3_0), .val (.int p3_1)] [(.ref a3_0)])) (fun _ k => XS.aloadN X11.here hx rfl (hb hby d3_29) rfl rfl k) ?_
   refine own_s (g' := (mkF m 31 #[.val (.ref a3_0), .val (.int p3_1)] [(.int p3_1), (.ref a3_0)])) (fun _ k => XS.iloadN X11.here hx rfl (hb hby d3_30) rfl k) ?_
   refine own_s (g' := (mkF m 33 #[.val (.ref a3_0), .val (.int p3_1)] [(.int 13), (.int p3_1), (.ref a3_0)])) (fun _ k => XS.bipush X11.here hx rfl (hb hby d3_31) k) ?_
   refine own_s (g' := (mkF m 36 #[.val (.ref a3_0), .val (.int p3_1)] [(.ref a3_0)])) (fun _ k => XS.icmpNo X11.here hx rfl (hb hby d3_33) rfl (teq c9).2 k) ?_
   refine own_s (g' := (mkF m 37 #[.val (.ref a3_0), .val (.int p3_1)] [(.int 1), (.ref a3_0)])) (fun _ k => XS.iconst X11.here hx rfl (hb hby d3_36) k) ?_
   refine own_s (g' := (mkF m 41 #[.val (.ref a3_0), .val (.int p3_1)] [(.int 1), (.ref a3_0)])) (fun _ k => XS.goto X11.here hx rfl (pc0 := 37) (pc' := 41) rfl (hb hby d3_37) (by decide) (by decide) k) ?_
   have f13 := (E_a3_0.wr W11)
   have f14 := (F_afterReturn_a3_0.other W11 (Or.inr (own_sn_18_11 hw)))
   obtain ⟨T15, h15, X15, e15, W15, st15⟩ := putFN X11 hx hZ hown ww17 Via.refl e11 f14 f13 (Or.inl ww18) ww2 (ty := .boolean) (v' := (.int (1 : Int32))) (by decide) rfl (by decide) (g := (mkF m 41 #[.val (.ref a3_0), .val (.int p3_1)] [(.int 1), (.ref a3_0)])) rfl rfl (hb hby d3_41)
   have f16 := f14.same W15
   have K15 := K11.wr W15 (Or.inl (List.mem_of_getElem? (i := 0) rfl))
   have N15 := Fr.snoc X15 N11 g_a3_0
   refine own_s (g' := (mkF m 44 #[.val (.ref a3_0), .val (.int p3_1)] [])) st15 ?_
   have f17 := (f13.wr W15)
   have f18 := (f12.other W15 (Or.inr (own_sn_11_18 hw)))
   refine own_retV X15 hx hlk hret (hb hby d3_44) (by decide) (by decide) ?_
   show Q3 Z a3_0 p3_1 v3_line u3_afterReturn h0 n0 _ T15.heap _
   rw [e15]
   exact ⟨rfl, N15, K15, f17, (show Fld Z _ a3_0 "com/example/burn_to_balance/burntobalance/io/LineCount" "line" "J" (.long (w3_line p3_1 v3_line u3_afterReturn)) from (by rw [show (w3_line p3_1 v3_line u3_afterReturn) = (v3_line + (1 : Int64)) from (if_pos c9)]; exact f18)), (show Fld Z _ a3_0 "com/example/burn_to_balance/burntobalance/io/LineCount" "afterReturn" "Z" (.int (w3_afterReturn p3_1 u3_afterReturn)) from (by rw [show (w3_afterReturn p3_1 u3_afterReturn) = (1 : Int32) from (if_pos c9)]; exact f16))⟩
  ·skip
   refine own_s (g' := (mkF m 6 #[.val (.ref a3_0), .val (.int p3_1)] [])) (fun _ k => XS.icmpNo X0.here hx rfl (hb hby d3_3) rfl (feq c9).1 k) ?_
   refine own_s (g' := (mkF m 7 #[.val (.ref a3_0), .val (.int p3_1)] [(.int p3_1)])) (fun _ k => XS.iloadN X0.here hx rfl (hb hby d3_6) rfl k) ?_
   refine own_s (g' := (mkF m 9 #[.val (.ref a3_0), .val (.int p3_1)] [(.int 10), (.int p3_1)])) (fun _ k => XS.bipush X0.here hx rfl (hb hby d3_7) k) ?_
   by_cases c19 : p3_1 = (10 : Int32)
   ·skip
    refine own_s (g' := (mkF m 12 #[.val (.ref a3_0), .val (.int p3_1)] [])) (fun _ k => XS.icmpNo X0.here hx rfl (hb hby d3_9) rfl (teq c19).2 k) ?_
    refine own_s (g' := (mkF m 13 #[.val (.ref a3_0), .val (.int p3_1)] [(.ref a3_0)])) (fun _ k => XS.aloadN X0.here hx rfl (hb hby d3_12) rfl rfl k) ?_
    obtain ⟨T20, X20, e20, st20⟩ := getF X0 hx hZ hown (host := "") (Or.inl ww17) Via.refl e0 F_afterReturn_a3_0 (g := (mkF m 13 #[.val (.ref a3_0), .val (.int p3_1)] [(.ref a3_0)])) rfl rfl (hb hby d3_13)
    refine own_s (g' := (mkF m 16 #[.val (.ref a3_0), .val (.int p3_1)] [(.int u3_afterReturn)])) st20 ?_
    by_cases c21 : u3_afterReturn = (0 : Int32)
    ·skip
     refine own_s (g' := (mkF m 19 #[.val (.ref a3_0), .val (.int p3_1)] [])) (fun _ k => XS.ifNo X20.here hx rfl (hb hby d3_16) rfl ((if0 _ _).trans (teq c21).2) k) ?_
     refine own_s (g' := (mkF m 20 #[.val (.ref a3_0), .val (.int p3_1)] [(.ref a3_0)])) (fun _ k => XS.aloadN X20.here hx rfl (hb hby d3_19) rfl rfl k) ?_
     refine own_s (g' := (mkF m 21 #[.val (.ref a3_0), .val (.int p3_1)] [(.ref a3_0), (.ref a3_0)])) (fun _ k => XS.dup X20.here hx rfl (hb hby d3_20) rfl rfl k) ?_
     obtain ⟨T22, X22, e22, st22⟩ := getF X20 hx hZ hown (host := "") (Or.inl ww10) Via.refl e20 F_line_a3_0 (g := (mkF m 21 #[.val (.ref a3_0), .val (.int p3_1)] [(.ref a3_0), (.ref a3_0)])) rfl rfl (hb hby d3_21)
     refine own_s (g' := (mkF m 24 #[.val (.ref a3_0), .val (.int p3_1)] [(.long v3_line), (.ref a3_0)])) st22 ?_
     refine own_s (g' := (mkF m 25 #[.val (.ref a3_0), .val (.int p3_1)] [(.long 1), (.long v3_line), (.ref a3_0)])) (fun _ k => XS.lconst X22.here hx rfl (hb hby d3_24) k) ?_
     refine own_s (g' := (mkF m 26 #[.val (.ref a3_0), .val (.int p3_1)] [(.long (v3_line + (1 : Int64))), (.ref a3_0)])) (fun _ k => XS.ladd X22.here hx rfl (hb hby d3_25) rfl k) ?_
     obtain ⟨T23, h23, X23, e23, W23, st23⟩ := putF X22 hx hZ hown (host := "") (Or.inl ww10) Via.refl e22 F_line_a3_0 E_a3_0 (Or.inl ww11) ww2 (ty := .long) (by decide) rfl rfl (g := (mkF m 26 #[.val (.ref a3_0), .val (.int p3_1)] [(.long (v3_line + (1 : Int64))), (.ref a3_0)])) rfl rfl (hb hby d3_26)
     have f24 := F_line_a3_0.same W23
     have K23 := K0.wr W23 (Or.inl (List.mem_of_getElem? (i := 0) rfl))
     have N23 := Fr.snoc X23 N0 g_a3_0
     refine own_s (g' := (mkF m 29 #[.val (.ref a3_0), .val (.int p3_1)] [])) st23 ?_
     refine own_s (g' := (mkF m 30 #[.val (.ref a3_0), .val (.int p3_1)] [(.ref a3_0)])) (fun _ k => XS.aloadN X23.here hx rfl (hb hby d3_29) rfl rfl k) ?_
     refine own_s (g' := (mkF m 31 #[.val (.ref a3_0), .val (.int p3_1)] [(.int p3_1), (.ref a3_0)])) (fun _ k => XS.iloadN X23.here hx rfl (hb hby d3_30) rfl k) ?_
     refine own_s (g' := (mkF m 33 #[.val (.ref a3_0), .val (.int p3_1)] [(.int 13), (.int p3_1), (.ref a3_0)])) (fun _ k => XS.bipush X23.here hx rfl (hb hby d3_31) k) ?_
     refine own_s (g' := (mkF m 40 #[.val (.ref a3_0), .val (.int p3_1)] [(.ref a3_0)])) (fun _ k => XS.icmpYes X23.here hx rfl (pc0 := 33) (pc' := 40) rfl (hb hby d3_33) rfl (feq c9).2 (by decide) (by decide) k) ?_
     refine own_s (g' := (mkF m 41 #[.val (.ref a3_0), .val (.int p3_1)] [(.int 0), (.ref a3_0)])) (fun _ k => XS.iconst X23.here hx rfl (hb hby d3_40) k) ?_
     have f25 := (E_a3_0.wr W23)
     have f26 := (F_afterReturn_a3_0.other W23 (Or.inr (own_sn_18_11 hw)))
     obtain ⟨T27, h27, X27, e27, W27, st27⟩ := putFN X23 hx hZ hown ww17 Via.refl e23 f26 f25 (Or.inl ww18) ww2 (ty := .boolean) (v' := (.int (0 : Int32))) (by decide) rfl (by decide) (g := (mkF m 41 #[.val (.ref a3_0), .val (.int p3_1)] [(.int 0), (.ref a3_0)])) rfl rfl (hb hby d3_41)
     have f28 := f26.same W27
     have K27 := K23.wr W27 (Or.inl (List.mem_of_getElem? (i := 0) rfl))
     have N27 := Fr.snoc X27 N23 g_a3_0
     refine own_s (g' := (mkF m 44 #[.val (.ref a3_0), .val (.int p3_1)] [])) st27 ?_
     have f29 := (f25.wr W27)
     have f30 := (f24.other W27 (Or.inr (own_sn_11_18 hw)))
     refine own_retV X27 hx hlk hret (hb hby d3_44) (by decide) (by decide) ?_
     show Q3 Z a3_0 p3_1 v3_line u3_afterReturn h0 n0 _ T27.heap _
     rw [e27]
     exact ⟨rfl, N27, K27, f29, (show Fld Z _ a3_0 "com/example/burn_to_balance/burntobalance/io/LineCount" "line" "J" (.long (w3_line p3_1 v3_line u3_afterReturn)) from (by rw [show (w3_line p3_1 v3_line u3_afterReturn) = (v3_line + (1 : Int64)) from ((if_neg c9).trans ((if_pos c19).trans (if_pos c21)))]; exact f30)), (show Fld Z _ a3_0 "com/example/burn_to_balance/burntobalance/io/LineCount" "afterReturn" "Z" (.int (w3_afterReturn p3_1 u3_afterReturn)) from (by rw [show (w3_afterReturn p3_1 u3_afterReturn) = (0 : Int32) from ((if_neg c9).trans ((if_pos c19).trans (if_pos c21)))]; exact f28))⟩
    ·skip
     refine own_s (g' := (mkF m 29 #[.val (.ref a3_0), .val (.int p3_1)] [])) (fun _ k => XS.ifYes X20.here hx rfl (pc0 := 16) (pc' := 29) rfl (hb hby d3_16) rfl ((if0 _ _).trans (feq c21).2) (by decide) (by decide) k) ?_
     refine own_s (g' := (mkF m 30 #[.val (.ref a3_0), .val (.int p3_1)] [(.ref a3_0)])) (fun _ k => XS.aloadN X20.here hx rfl (hb hby d3_29) rfl rfl k) ?_
     refine own_s (g' := (mkF m 31 #[.val (.ref a3_0), .val (.int p3_1)] [(.int p3_1), (.ref a3_0)])) (fun _ k => XS.iloadN X20.here hx rfl (hb hby d3_30) rfl k) ?_
     refine own_s (g' := (mkF m 33 #[.val (.ref a3_0), .val (.int p3_1)] [(.int 13), (.int p3_1), (.ref a3_0)])) (fun _ k => XS.bipush X20.here hx rfl (hb hby d3_31) k) ?_
     refine own_s (g' := (mkF m 40 #[.val (.ref a3_0), .val (.int p3_1)] [(.ref a3_0)])) (fun _ k => XS.icmpYes X20.here hx rfl (pc0 := 33) (pc' := 40) rfl (hb hby d3_33) rfl (feq c9).2 (by decide) (by decide) k) ?_
     refine own_s (g' := (mkF m 41 #[.val (.ref a3_0), .val (.int p3_1)] [(.int 0), (.ref a3_0)])) (fun _ k => XS.iconst X20.here hx rfl (hb hby d3_40) k) ?_
     obtain ⟨T31, h31, X31, e31, W31, st31⟩ := putFN X20 hx hZ hown ww17 Via.refl e20 F_afterReturn_a3_0 E_a3_0 (Or.inl ww18) ww2 (ty := .boolean) (v' := (.int (0 : Int32))) (by decide) rfl (by decide) (g := (mkF m 41 #[.val (.ref a3_0), .val (.int p3_1)] [(.int 0), (.ref a3_0)])) rfl rfl (hb hby d3_41)
     have f32 := F_afterReturn_a3_0.same W31
     have K31 := K0.wr W31 (Or.inl (List.mem_of_getElem? (i := 0) rfl))
     have N31 := Fr.snoc X31 N0 g_a3_0
     refine own_s (g' := (mkF m 44 #[.val (.ref a3_0), .val (.int p3_1)] [])) st31 ?_
     have f33 := (F_line_a3_0.other W31 (Or.inr (own_sn_11_18 hw)))
     have f34 := (E_a3_0.wr W31)
     refine own_retV X31 hx hlk hret (hb hby d3_44) (by decide) (by decide) ?_
     show Q3 Z a3_0 p3_1 v3_line u3_afterReturn h0 n0 _ T31.heap _
     rw [e31]
     exact ⟨rfl, N31, K31, f34, (show Fld Z _ a3_0 "com/example/burn_to_balance/burntobalance/io/LineCount" "line" "J" (.long (w3_line p3_1 v3_line u3_afterReturn)) from (by rw [show (w3_line p3_1 v3_line u3_afterReturn) = v3_line from ((if_neg c9).trans ((if_pos c19).trans (if_neg c21)))]; exact f33)), (show Fld Z _ a3_0 "com/example/burn_to_balance/burntobalance/io/LineCount" "afterReturn" "Z" (.int (w3_afterReturn p3_1 u3_afterReturn)) from (by rw [show (w3_afterReturn p3_1 u3_afterReturn) = (0 : Int32) from ((if_neg c9).trans ((if_pos c19).trans (if_neg c21)))]; exact f32))⟩
   ·skip
    refine own_s (g' := (mkF m 29 #[.val (.ref a3_0), .val (.int p3_1)] [])) (fun _ k => XS.icmpYes X0.here hx rfl (pc0 := 9) (pc' := 29) rfl (hb hby d3_9) rfl (feq c19).2 (by decide) (by decide) k) ?_
    refine own_s (g' := (mkF m 30 #[.val (.ref a3_0), .val (.int p3_1)] [(.ref a3_0)])) (fun _ k => XS.aloadN X0.here hx rfl (hb hby d3_29) rfl rfl k) ?_
    refine own_s (g' := (mkF m 31 #[.val (.ref a3_0), .val (.int p3_1)] [(.int p3_1), (.ref a3_0)])) (fun _ k => XS.iloadN X0.here hx rfl (hb hby d3_30) rfl k) ?_
    refine own_s (g' := (mkF m 33 #[.val (.ref a3_0), .val (.int p3_1)] [(.int 13), (.int p3_1), (.ref a3_0)])) (fun _ k => XS.bipush X0.here hx rfl (hb hby d3_31) k) ?_
    refine own_s (g' := (mkF m 40 #[.val (.ref a3_0), .val (.int p3_1)] [(.ref a3_0)])) (fun _ k => XS.icmpYes X0.here hx rfl (pc0 := 33) (pc' := 40) rfl (hb hby d3_33) rfl (feq c9).2 (by decide) (by decide) k) ?_
    refine own_s (g' := (mkF m 41 #[.val (.ref a3_0), .val (.int p3_1)] [(.int 0), (.ref a3_0)])) (fun _ k => XS.iconst X0.here hx rfl (hb hby d3_40) k) ?_
    obtain ⟨T35, h35, X35, e35, W35, st35⟩ := putFN X0 hx hZ hown ww17 Via.refl e0 F_afterReturn_a3_0 E_a3_0 (Or.inl ww18) ww2 (ty := .boolean) (v' := (.int (0 : Int32))) (by decide) rfl (by decide) (g := (mkF m 41 #[.val (.ref a3_0), .val (.int p3_1)] [(.int 0), (.ref a3_0)])) rfl rfl (hb hby d3_41)
    have f36 := F_afterReturn_a3_0.same W35
    have K35 := K0.wr W35 (Or.inl (List.mem_of_getElem? (i := 0) rfl))
    have N35 := Fr.snoc X35 N0 g_a3_0
    refine own_s (g' := (mkF m 44 #[.val (.ref a3_0), .val (.int p3_1)] [])) st35 ?_
    have f37 := (F_line_a3_0.other W35 (Or.inr (own_sn_11_18 hw)))
    have f38 := (E_a3_0.wr W35)
    refine own_retV X35 hx hlk hret (hb hby d3_44) (by decide) (by decide) ?_
    show Q3 Z a3_0 p3_1 v3_line u3_afterReturn h0 n0 _ T35.heap _
    rw [e35]
    exact ⟨rfl, N35, K35, f38, (show Fld Z _ a3_0 "com/example/burn_to_balance/burntobalance/io/LineCount" "line" "J" (.long (w3_line p3_1 v3_line u3_afterReturn)) from (by rw [show (w3_line p3_1 v3_line u3_afterReturn) = v3_line from ((if_neg c9).trans (if_neg c19))]; exact f37)), (show Fld Z _ a3_0 "com/example/burn_to_balance/burntobalance/io/LineCount" "afterReturn" "Z" (.int (w3_afterReturn p3_1 u3_afterReturn)) from (by rw [show (w3_afterReturn p3_1 u3_afterReturn) = (0 : Int32) from ((if_neg c9).trans (if_neg c19))]; exact f36))⟩
theorem own_i2c (x : Int32) (h0 : ¬ x < (0 : Int32)) (h1 : ¬ (65535 : Int32) < x) : x.toUInt32.toUInt16.toUInt32.toInt32 = x := by
  have h := c_i2c x
  rw [Int32.lt_iff_toInt_lt] at h0 h1
  have k0 : (0 : Int32).toInt = 0 := by decide
  have k1 : (65535 : Int32).toInt = 65535 := by decide
  refine Int32.toInt_inj.mp ?_
  omega
theorem own_lo (x : Int32) (h : x < (0 : Int32)) : r5 x = (0 : Int32) := by
  unfold r5
  rw [if_neg (fun q => by rw [q] at h; exact absurd h (by decide)), if_neg (fun q => by rw [q] at h; exact absurd h (by decide))]
theorem own_hi (x : Int32) (h : (65535 : Int32) < x) : r5 x = (0 : Int32) := by
  unfold r5
  rw [if_neg (fun q => by rw [q] at h; exact absurd h (by decide)), if_neg (fun q => by rw [q] at h; exact absurd h (by decide))]
theorem own_yes (c : Int32) (h : (w3_line c (1 : Int64) (0 : Int32)) = (2 : Int64)) : r5 c = (1 : Int32) := by
  unfold w3_line at h
  unfold r5
  by_cases c1 : c = (13 : Int32)
  · rw [if_pos c1]
  · rw [if_neg c1] at *
    by_cases c2 : c = (10 : Int32)
    · rw [if_pos c2]
    · rw [if_neg c2] at h; exact absurd h (by decide)
theorem own_no (c : Int32) (h : ¬ (w3_line c (1 : Int64) (0 : Int32)) = (2 : Int64)) : r5 c = (0 : Int32) := by
  unfold w3_line at h
  unfold r5
  by_cases c1 : c = (13 : Int32)
  · rw [if_pos c1] at h; exact absurd (by decide) h
  · rw [if_neg c1] at *
    by_cases c2 : c = (10 : Int32)
    · rw [if_pos c2, if_pos (rfl : (0 : Int32) = 0)] at h; exact absurd (by decide) h
    · rw [if_neg c2]
theorem pd__I_Z : parseMethodDescriptor "(I)Z" = some ⟨[.int], some .boolean⟩ := by decide +kernel
theorem pd___V : parseMethodDescriptor "()V" = some ⟨[], none⟩ := by decide +kernel
theorem pd__C_V : parseMethodDescriptor "(C)V" = some ⟨[.char], none⟩ := by decide +kernel
theorem pd___J : parseMethodDescriptor "()J" = some ⟨[], some .long⟩ := by decide +kernel
theorem pn_com_example_burn_to_balance_burntobalance_io_LineCountIsBreakPinLaw : plainName "com/example/burn_to_balance/burntobalance/io/LineCountIsBreakPinLaw" = true := by first | (simp [plainName, overriddenIn]; done) | decide +kernel
theorem ef_0 (m : MethodId) (p0_0 : Int32) : entryFrame m #[(.int p0_0)] maxLocals = mkF m 0 #[.val (.int p0_0), .unset, .unset, .unset] [] := by first | (simp [entryFrame, mkF, argsToLocals, Value.category, maxLocals]; done) | rfl
def Q0 (Z : State) (p0_0 : Int32) (h0 : Heap) (n0 : Nat) (v : Option Value) (h : Heap) (L : List Loc) : Prop := v = some (.int (1 : Int32)) ∧ Fr n0 L
set_option maxRecDepth 65536 in
set_option maxHeartbeats 40000000 in
theorem rm0 (l : Launch) (Z : State) (a0 : Array Value) (hw : ∀ d ∈ tables_1, d.before a0 Z = true) (ws : List Jvm.Cond) (p0_0 : Int32) (h0 : Heap) (n0 : Nat) (Z0 : n0 ≤ h0.size) :
    MetFree l x (head1 (Jvm.Cond.code x code maxLocals ret :: ws) room_1) (fun a U => a = #[(.int p0_0)] ∧ Z.Warmed39 U.vm ∧ U.heap = h0) (fun _ _ _ _ _ => True) (fun _ U o U' => ∃ v L, o = .returned v ∧ Q0 Z p0_0 h0 n0 v U'.heap L ∧ FrameEnd U o U' L 16 128) := by
  refine MetFree.of_bodySF (plainFor_of_name pn_com_example_burn_to_balance_burntobalance_io_LineCountIsBreakPinLaw) hisR ?_
  intro p e s m args below meth c s₁ Bd hml0 hP hK
  obtain ⟨rfl, hZ, hh⟩ := hP
  have hx := Bd.exec
  have hby := Bd.bytes
  have hlk := Bd.notSynchronized
  have hret := Bd.returns
  have hml : c.maxLocals = 4 := hml0
  have hown : s.vm.findClass "com/example/burn_to_balance/burntobalance/io/LineCountIsBreakPinLaw" = some m.cls := findClass_of_methodNamed Bd.named
  have hnm := (name_of_methodNamed Bd.named Bd.method).1
  have X0 : Stand p l e room_1 s m #[(.int p0_0)] below meth c s₁ [] 0 0 := Stand.of_body Bd
  have e0 : s₁.heap = h0 := by rw [← hh, Bd.state]; rfl
  have N0 := Fr.nil n0
  have K0 : Keep h0 h0 [] := Keep.refl _ _
  show own_G p e below s (Q0 Z p0_0 h0 n0) 16 128 s₁ (entryFrame m #[(.int p0_0)] maxLocals)
  have ww0 := hw _ (List.mem_of_getElem? (i := 0) rfl)
  have ww1 := hw _ (List.mem_of_getElem? (i := 1) rfl)
  have ww2 := hw _ (List.mem_of_getElem? (i := 2) rfl)
  have ww3 := hw _ (List.mem_of_getElem? (i := 3) rfl)
  have ww4 := hw _ (List.mem_of_getElem? (i := 4) rfl)
  have ww5 := hw _ (List.mem_of_getElem? (i := 5) rfl)
  have ww6 := hw _ (List.mem_of_getElem? (i := 6) rfl)
  have ww11 := hw _ (List.mem_of_getElem? (i := 11) rfl)
  have ww12 := hw _ (List.mem_of_getElem? (i := 12) rfl)
  have ww13 := hw _ (List.mem_of_getElem? (i := 13) rfl)
  have ww14 := hw _ (List.mem_of_getElem? (i := 14) rfl)
  have ww15 := hw _ (List.mem_of_getElem? (i := 15) rfl)
  have ww16 := hw _ (List.mem_of_getElem? (i := 16) rfl)
  have ww18 := hw _ (List.mem_of_getElem? (i := 18) rfl)
  have ww19 := hw _ (List.mem_of_getElem? (i := 19) rfl)
  have ww20 := hw _ (List.mem_of_getElem? (i := 20) rfl)
  have ww21 := hw _ (List.mem_of_getElem? (i := 21) rfl)
  have ww22 := hw _ (List.mem_of_getElem? (i := 22) rfl)
  have ww23 := hw _ (List.mem_of_getElem? (i := 23) rfl)
  have ww24 := hw _ (List.mem_of_getElem? (i := 24) rfl)
  have ww25 := hw _ (List.mem_of_getElem? (i := 25) rfl)
  have ww26 := hw _ (List.mem_of_getElem? (i := 26) rfl)
  have ww27 := hw _ (List.mem_of_getElem? (i := 27) rfl)
  refine own_cast (ef_0 m p0_0) ?_
  refine own_s (g' := (mkF m 1 #[.val (.int p0_0), .unset, .unset, .unset] [(.int p0_0)])) (fun _ k => XS.iloadN X0.here hx rfl (hb hby at_0) rfl k) ?_
  by_cases c39 : p0_0 < (0 : Int32)
  ·skip
   refine own_s (g' := (mkF m 10 #[.val (.int p0_0), .unset, .unset, .unset] [])) (fun _ k => XS.ifYes X0.here hx rfl (pc0 := 1) (pc' := 10) rfl (hb hby at_1) rfl ((if0 _ _).trans (tlt c39).1) (by decide) (by decide) k) ?_
   refine own_s (g' := (mkF m 11 #[.val (.int p0_0), .unset, .unset, .unset] [(.int p0_0)])) (fun _ k => XS.iloadN X0.here hx rfl (hb hby at_10) rfl k) ?_
   obtain ⟨_, _, ⟨T40, L40, k40, n40⟩, -, X40, ⟨Lc40, hQ40, l40, y40, z40⟩, st40⟩ := Jvm.LawKit.callS X0 hx (y := (⟨"com/example/burn_to_balance/burntobalance/io/LineCount", "isBreak", "(I)Z"⟩ : MethodName)) hown (mvT hZ ww25) (mvT hZ ww26) (mvT hZ ww3) (mvT hZ ww27) (by decide) (backOf (W := 0) (rm5 l Z a0 hw [] p0_0 h0 n0 Z0 ) hZ ww27 ww3 (by decide) (by decide)) (g := (mkF m 11 #[.val (.int p0_0), .unset, .unset, .unset] [(.int p0_0)])) rfl (by rw [hml]; rfl) (argsL := [(.int p0_0)]) (rest := []) (lenOf pd__I_Z rfl) rfl (by show 2 * 0 + _ ≤ _; exact Nat.le_of_eq rfl) (hb hby at_11) (fun _ _ => ⟨rfl, e0, (by decide : 0 + 0 ≤ _), (by decide : 0 + 0 ≤ _)⟩)
   dsimp only [Pt.U, Pt.locs, Pt.cells, Pt.slots] at X40 l40 y40 z40 st40 hQ40
   subst l40 y40 z40
   obtain ⟨rfl, N40q, eh40⟩ := hQ40
   have N40 := Fr.app N0 N40q
   refine own_s (g' := (mkF m 14 #[.val (.int p0_0), .unset, .unset, .unset] [(.int (r5 p0_0))])) st40 ?_
   refine own_s (g' := (mkF m 17 #[.val (.int p0_0), .unset, .unset, .unset] [])) (fun _ k => XS.ifNo X40.here hx rfl (hb hby at_14) rfl ((if0 _ _).trans (teq ((own_lo _ c39) : (r5 p0_0) = (0 : Int32))).2) k) ?_
   refine own_s (g' := (mkF m 18 #[.val (.int p0_0), .unset, .unset, .unset] [(.int 1)])) (fun _ k => XS.iconst X40.here hx rfl (hb hby at_17) k) ?_
   refine own_s (g' := (mkF m 22 #[.val (.int p0_0), .unset, .unset, .unset] [(.int 1)])) (fun _ k => XS.goto X40.here hx rfl (pc0 := 18) (pc' := 22) rfl (hb hby at_18) (by decide) (by decide) k) ?_
   refine own_retN X40 hx hlk (t := .boolean) hret (by simp) (hb hby at_22) (z' := (1 : Int32)) (by decide) (by decide) (by decide) ?_
   show Q0 Z p0_0 h0 n0 _ T40.heap _
   rw [eh40]
   exact ⟨rfl, N40⟩
  ·skip
   refine own_s (g' := (mkF m 4 #[.val (.int p0_0), .unset, .unset, .unset] [])) (fun _ k => XS.ifNo X0.here hx rfl (hb hby at_1) rfl ((if0 _ _).trans (flt c39).1) k) ?_
   refine own_s (g' := (mkF m 5 #[.val (.int p0_0), .unset, .unset, .unset] [(.int p0_0)])) (fun _ k => XS.iloadN X0.here hx rfl (hb hby at_4) rfl k) ?_
   refine own_s (g' := (mkF m 7 #[.val (.int p0_0), .unset, .unset, .unset] [(.int 65535), (.int p0_0)])) (X0.ldcInt hx hown (mvT hZ ww0) (g := (mkF m 5 #[.val (.int p0_0), .unset, .unset, .unset] [(.int p0_0)])) rfl (hb hby at_5)) ?_
   by_cases c41 : (65535 : Int32) < p0_0
   ·skip
    refine own_s (g' := (mkF m 10 #[.val (.int p0_0), .unset, .unset, .unset] [])) (fun _ k => XS.icmpNo X0.here hx rfl (hb hby at_7) rfl (tlt c41).2.2.2 k) ?_
    refine own_s (g' := (mkF m 11 #[.val (.int p0_0), .unset, .unset, .unset] [(.int p0_0)])) (fun _ k => XS.iloadN X0.here hx rfl (hb hby at_10) rfl k) ?_
    obtain ⟨_, _, ⟨T42, L42, k42, n42⟩, -, X42, ⟨Lc42, hQ42, l42, y42, z42⟩, st42⟩ := Jvm.LawKit.callS X0 hx (y := (⟨"com/example/burn_to_balance/burntobalance/io/LineCount", "isBreak", "(I)Z"⟩ : MethodName)) hown (mvT hZ ww25) (mvT hZ ww26) (mvT hZ ww3) (mvT hZ ww27) (by decide) (backOf (W := 0) (rm5 l Z a0 hw [] p0_0 h0 n0 Z0 ) hZ ww27 ww3 (by decide) (by decide)) (g := (mkF m 11 #[.val (.int p0_0), .unset, .unset, .unset] [(.int p0_0)])) rfl (by rw [hml]; rfl) (argsL := [(.int p0_0)]) (rest := []) (lenOf pd__I_Z rfl) rfl (by show 2 * 0 + _ ≤ _; exact Nat.le_of_eq rfl) (hb hby at_11) (fun _ _ => ⟨rfl, e0, (by decide : 0 + 0 ≤ _), (by decide : 0 + 0 ≤ _)⟩)
    dsimp only [Pt.U, Pt.locs, Pt.cells, Pt.slots] at X42 l42 y42 z42 st42 hQ42
    subst l42 y42 z42
    obtain ⟨rfl, N42q, eh42⟩ := hQ42
    have N42 := Fr.app N0 N42q
    refine own_s (g' := (mkF m 14 #[.val (.int p0_0), .unset, .unset, .unset] [(.int (r5 p0_0))])) st42 ?_
    refine own_s (g' := (mkF m 17 #[.val (.int p0_0), .unset, .unset, .unset] [])) (fun _ k => XS.ifNo X42.here hx rfl (hb hby at_14) rfl ((if0 _ _).trans (teq ((own_hi _ c41) : (r5 p0_0) = (0 : Int32))).2) k) ?_
    refine own_s (g' := (mkF m 18 #[.val (.int p0_0), .unset, .unset, .unset] [(.int 1)])) (fun _ k => XS.iconst X42.here hx rfl (hb hby at_17) k) ?_
    refine own_s (g' := (mkF m 22 #[.val (.int p0_0), .unset, .unset, .unset] [(.int 1)])) (fun _ k => XS.goto X42.here hx rfl (pc0 := 18) (pc' := 22) rfl (hb hby at_18) (by decide) (by decide) k) ?_
    refine own_retN X42 hx hlk (t := .boolean) hret (by simp) (hb hby at_22) (z' := (1 : Int32)) (by decide) (by decide) (by decide) ?_
    show Q0 Z p0_0 h0 n0 _ T42.heap _
    rw [eh42]
    exact ⟨rfl, N42⟩
   ·skip
    refine own_s (g' := (mkF m 23 #[.val (.int p0_0), .unset, .unset, .unset] [])) (fun _ k => XS.icmpYes X0.here hx rfl (pc0 := 7) (pc' := 23) rfl (hb hby at_7) rfl (flt c41).2.2.2 (by decide) (by decide) k) ?_
    refine own_s (g' := (mkF m 24 #[.val (.int p0_0), .unset, .unset, .unset] [(.int p0_0)])) (fun _ k => XS.iloadN X0.here hx rfl (hb hby at_23) rfl k) ?_
    refine own_s (g' := (mkF m 25 #[.val (.int p0_0), .unset, .unset, .unset] [(.int p0_0.toUInt32.toUInt16.toUInt32.toInt32)])) (fun _ k => XS.i2c X0.here hx rfl (hb hby at_24) rfl k) ?_
    rw [show p0_0.toUInt32.toUInt16.toUInt32.toInt32 = p0_0 from (own_i2c p0_0 c39 c41)]
    refine own_s (g' := (mkF m 26 #[.val (.int p0_0), .val (.int p0_0), .unset, .unset] [])) (fun _ k => XS.istoreN X0.here hx rfl (hb hby at_25) rfl (l' := #[.val (.int p0_0), .val (.int p0_0), .unset, .unset]) rfl k) ?_
    obtain ⟨T43, h43, X43, e43, E43, A43, D43, -, st43⟩ := newO X0 hx hZ hown ww1 ww2 ww3 e0 (g := (mkF m 26 #[.val (.int p0_0), .val (.int p0_0), .unset, .unset] [])) rfl (hb hby at_26) (by decide) (by decide)
    obtain ⟨b43, ga43⟩ : ∃ z, z = h0.size := ⟨_, rfl⟩
    rw [← ga43] at A43 D43 st43
    have g_b43 := Nat.le_trans Z0 (Nat.le_of_eq ga43.symm)
    have sz_b43 := Nat.le_trans K0.1 (Nat.le_of_eq ga43.symm)
    have f43_line : Fld Z h43 b43 "com/example/burn_to_balance/burntobalance/io/LineCount" "line" "J" (.long 0) := D43 (Or.inl ww11) (ty := .long) (by decide)
    have f43_afterReturn : Fld Z h43 b43 "com/example/burn_to_balance/burntobalance/io/LineCount" "afterReturn" "Z" (.int 0) := D43 (Or.inl ww18) (ty := .boolean) (by decide)
    have K43 := K0.ext E43
    refine own_s (g' := (mkF m 29 #[.val (.int p0_0), .val (.int p0_0), .unset, .unset] [(.ref b43)])) st43 ?_
    refine own_s (g' := (mkF m 30 #[.val (.int p0_0), .val (.int p0_0), .unset, .unset] [(.ref b43), (.ref b43)])) (fun _ k => XS.dup X43.here hx rfl (hb hby at_29) rfl rfl k) ?_
    obtain ⟨_, _, ⟨T44, L44, k44, n44⟩, -, X44, ⟨Lc44, hQ44, l44, y44, z44⟩, st44⟩ := X43.specialBack hx (y := (⟨"com/example/burn_to_balance/burntobalance/io/LineCount", "<init>", "()V"⟩ : MethodName)) rfl hown (mvT hZ ww4) (mvT hZ ww5) (mvT hZ ww6) (by decide) (backOf (W := 1) (rm1 l Z a0 hw [] b43 (0 : Int64) (0 : Int32) h43 n0 (Nat.le_trans Z0 K43.1) f43_line f43_afterReturn A43 g_b43) hZ ww6 ww3 (by decide) (by decide)) (g := (mkF m 30 #[.val (.int p0_0), .val (.int p0_0), .unset, .unset] [(.ref b43), (.ref b43)])) rfl (by rw [hml]; rfl) (Steps.refl _) (a := b43) (argsL := []) (rest := [(.ref b43)]) (lenOf pd___V rfl) rfl (by show 2 * 0 + _ ≤ _; exact Nat.le_of_eq rfl) (hb hby at_30) (fun _ _ => ⟨rfl, e43, (by decide : 1 + 0 ≤ _), (by decide : 2 + 0 ≤ _)⟩)
    dsimp only [Pt.U, Pt.locs, Pt.cells, Pt.slots] at X44 l44 y44 z44 st44 hQ44
    subst l44 y44 z44
    obtain ⟨rfl, N44q, K44q, f45, f46, f47⟩ := hQ44
    have K44 := K43.trans K44q (allS (Or.inr sz_b43) all0)
    have N44 := Fr.app N0 N44q
    refine own_trans (g' := (mkF m 33 #[.val (.int p0_0), .val (.int p0_0), .unset, .unset] [(.ref b43)])) st44 ?_
    refine own_s (g' := (mkF m 34 #[.val (.int p0_0), .val (.int p0_0), .val (.ref b43), .unset] [])) (fun _ k => XS.astoreN X44.here hx rfl (hb hby at_33) rfl rfl (l' := #[.val (.int p0_0), .val (.int p0_0), .val (.ref b43), .unset]) rfl k) ?_
    refine own_s (g' := (mkF m 35 #[.val (.int p0_0), .val (.int p0_0), .val (.ref b43), .unset] [(.ref b43)])) (fun _ k => XS.aloadN X44.here hx rfl (hb hby at_34) rfl rfl k) ?_
    refine own_s (g' := (mkF m 36 #[.val (.int p0_0), .val (.int p0_0), .val (.ref b43), .unset] [(.int p0_0), (.ref b43)])) (fun _ k => XS.iloadN X44.here hx rfl (hb hby at_35) rfl k) ?_
    obtain ⟨cq48, kq48, q48a, q48b, q48c⟩ := isOf hZ rfl f45
    obtain ⟨_, _, ⟨T48, L48, k48, n48⟩, -, X48, ⟨Lc48, hQ48, l48, y48, z48⟩, st48⟩ := X44.virtualBack hx (y := (⟨"com/example/burn_to_balance/burntobalance/io/LineCount", "take", "(C)V"⟩ : MethodName)) (z := (⟨"com/example/burn_to_balance/burntobalance/io/LineCount", "take", "(C)V"⟩ : MethodName)) hown (mvT hZ ww12) (mvT hZ ww13) (notFace_of_selects (args := #[]) (mvT hZ ww15)) (mvT hZ ww15) (mvT hZ ww14) (by decide) (backOf (W := 0) (rm3 l Z a0 hw [] b43 p0_0 (1 : Int64) (0 : Int32) T44.heap n0 (Nat.le_trans Z0 K44.1) f47 f46 f45 g_b43) hZ ww16 ww3 (by decide) (by decide)) q48a q48c (g := (mkF m 36 #[.val (.int p0_0), .val (.int p0_0), .val (.ref b43), .unset] [(.int p0_0), (.ref b43)])) rfl (by rw [hml]; rfl) (Steps.refl _) (argsL := [(.int p0_0)]) (rest := []) (lenOf pd__C_V rfl) rfl (by show 2 * 0 + _ ≤ _; exact Nat.le_of_eq rfl) (hb hby at_36) (fun _ _ => ⟨rfl, rfl, (by decide : 1 + 0 ≤ _), (by decide : 2 + 0 ≤ _)⟩)
    dsimp only [Pt.U, Pt.locs, Pt.cells, Pt.slots] at X48 l48 y48 z48 st48 hQ48
    subst l48 y48 z48
    obtain ⟨rfl, N48q, K48q, f49, f50, f51⟩ := hQ48
    have K48 := K44.trans K48q (allS (Or.inr sz_b43) all0)
    have N48 := Fr.app N44 N48q
    refine own_trans (g' := (mkF m 39 #[.val (.int p0_0), .val (.int p0_0), .val (.ref b43), .unset] [])) st48 ?_
    refine own_s (g' := (mkF m 40 #[.val (.int p0_0), .val (.int p0_0), .val (.ref b43), .unset] [(.ref b43)])) (fun _ k => XS.aloadN X48.here hx rfl (hb hby at_39) rfl rfl k) ?_
    obtain ⟨cq52, kq52, q52a, q52b, q52c⟩ := isOf hZ rfl f49
    obtain ⟨_, _, ⟨T52, L52, k52, n52⟩, -, X52, ⟨Lc52, hQ52, l52, y52, z52⟩, st52⟩ := X48.virtualBack hx (y := (⟨"com/example/burn_to_balance/burntobalance/io/LineCount", "line", "()J"⟩ : MethodName)) (z := (⟨"com/example/burn_to_balance/burntobalance/io/LineCount", "line", "()J"⟩ : MethodName)) hown (mvT hZ ww19) (mvT hZ ww20) (notFace_of_selects (args := #[]) (mvT hZ ww22)) (mvT hZ ww22) (mvT hZ ww21) (by decide) (backOf (W := 0) (rm4 l Z a0 hw [] b43 (w3_line p0_0 (1 : Int64) (0 : Int32)) T48.heap n0 (Nat.le_trans Z0 K48.1) f50) hZ ww23 ww3 (by decide) (by decide)) q52a q52c (g := (mkF m 40 #[.val (.int p0_0), .val (.int p0_0), .val (.ref b43), .unset] [(.ref b43)])) rfl (by rw [hml]; rfl) (Steps.refl _) (argsL := []) (rest := []) (lenOf pd___J rfl) rfl (by show 2 * 0 + _ ≤ _; exact Nat.le_of_eq rfl) (hb hby at_40) (fun _ _ => ⟨rfl, rfl, (by decide : 1 + 0 ≤ _), (by decide : 2 + 0 ≤ _)⟩)
    dsimp only [Pt.U, Pt.locs, Pt.cells, Pt.slots] at X52 l52 y52 z52 st52 hQ52
    subst l52 y52 z52
    obtain ⟨rfl, N52q, eh52⟩ := hQ52
    have N52 := Fr.app N48 N52q
    refine own_trans (g' := (mkF m 43 #[.val (.int p0_0), .val (.int p0_0), .val (.ref b43), .unset] [(.long (w3_line p0_0 (1 : Int64) (0 : Int32)))])) st52 ?_
    refine own_s (g' := (mkF m 46 #[.val (.int p0_0), .val (.int p0_0), .val (.ref b43), .unset] [(.long 2), (.long (w3_line p0_0 (1 : Int64) (0 : Int32)))])) (X52.ldc2Long hx hown (mvT hZ ww24) (g := (mkF m 43 #[.val (.int p0_0), .val (.int p0_0), .val (.ref b43), .unset] [(.long (w3_line p0_0 (1 : Int64) (0 : Int32)))])) rfl (hb hby at_43)) ?_
    refine own_s (g' := (mkF m 47 #[.val (.int p0_0), .val (.int p0_0), .val (.ref b43), .unset] [(.int (lcmpW (w3_line p0_0 (1 : Int64) (0 : Int32)) (2 : Int64)))])) (fun _ k => XS.lcmp X52.here hx rfl (hb hby at_46) rfl k) ?_
    by_cases c53 : (w3_line p0_0 (1 : Int64) (0 : Int32)) = (2 : Int64)
    ·skip
     refine own_s (g' := (mkF m 50 #[.val (.int p0_0), .val (.int p0_0), .val (.ref b43), .unset] [])) (fun _ k => XS.ifNo X52.here hx rfl (hb hby at_47) rfl ((if0 _ _).trans (teq ((lw_eq (w3_line p0_0 (1 : Int64) (0 : Int32)) (2 : Int64)).mpr c53)).2) k) ?_
     refine own_s (g' := (mkF m 51 #[.val (.int p0_0), .val (.int p0_0), .val (.ref b43), .unset] [(.int 1)])) (fun _ k => XS.iconst X52.here hx rfl (hb hby at_50) k) ?_
     refine own_s (g' := (mkF m 55 #[.val (.int p0_0), .val (.int p0_0), .val (.ref b43), .unset] [(.int 1)])) (fun _ k => XS.goto X52.here hx rfl (pc0 := 51) (pc' := 55) rfl (hb hby at_51) (by decide) (by decide) k) ?_
     refine own_s (g' := (mkF m 56 #[.val (.int p0_0), .val (.int p0_0), .val (.ref b43), .val (.int 1)] [])) (fun _ k => XS.istoreN X52.here hx rfl (hb hby at_55) rfl (l' := #[.val (.int p0_0), .val (.int p0_0), .val (.ref b43), .val (.int 1)]) rfl k) ?_
     refine own_s (g' := (mkF m 57 #[.val (.int p0_0), .val (.int p0_0), .val (.ref b43), .val (.int 1)] [(.int p0_0)])) (fun _ k => XS.iloadN X52.here hx rfl (hb hby at_56) rfl k) ?_
     obtain ⟨_, _, ⟨T54, L54, k54, n54⟩, -, X54, ⟨Lc54, hQ54, l54, y54, z54⟩, st54⟩ := Jvm.LawKit.callS X52 hx (y := (⟨"com/example/burn_to_balance/burntobalance/io/LineCount", "isBreak", "(I)Z"⟩ : MethodName)) hown (mvT hZ ww25) (mvT hZ ww26) (mvT hZ ww3) (mvT hZ ww27) (by decide) (backOf (W := 0) (rm5 l Z a0 hw [] p0_0 T48.heap n0 (Nat.le_trans Z0 K48.1) ) hZ ww27 ww3 (by decide) (by decide)) (g := (mkF m 57 #[.val (.int p0_0), .val (.int p0_0), .val (.ref b43), .val (.int 1)] [(.int p0_0)])) rfl (by rw [hml]; rfl) (argsL := [(.int p0_0)]) (rest := []) (lenOf pd__I_Z rfl) rfl (by show 2 * 0 + _ ≤ _; exact Nat.le_of_eq rfl) (hb hby at_57) (fun _ _ => ⟨rfl, eh52, (by decide : 1 + 0 ≤ _), (by decide : 2 + 0 ≤ _)⟩)
     dsimp only [Pt.U, Pt.locs, Pt.cells, Pt.slots] at X54 l54 y54 z54 st54 hQ54
     subst l54 y54 z54
     obtain ⟨rfl, N54q, eh54⟩ := hQ54
     have N54 := Fr.app N52 N54q
     refine own_s (g' := (mkF m 60 #[.val (.int p0_0), .val (.int p0_0), .val (.ref b43), .val (.int 1)] [(.int (r5 p0_0))])) st54 ?_
     refine own_s (g' := (mkF m 61 #[.val (.int p0_0), .val (.int p0_0), .val (.ref b43), .val (.int 1)] [(.int 1), (.int (r5 p0_0))])) (fun _ k => XS.iloadN X54.here hx rfl (hb hby at_60) rfl k) ?_
     refine own_s (g' := (mkF m 64 #[.val (.int p0_0), .val (.int p0_0), .val (.ref b43), .val (.int 1)] [])) (fun _ k => XS.icmpNo X54.here hx rfl (hb hby at_61) rfl (teq ((own_yes _ c53) : (r5 p0_0) = (1 : Int32))).2 k) ?_
     refine own_s (g' := (mkF m 65 #[.val (.int p0_0), .val (.int p0_0), .val (.ref b43), .val (.int 1)] [(.int 1)])) (fun _ k => XS.iconst X54.here hx rfl (hb hby at_64) k) ?_
     refine own_s (g' := (mkF m 69 #[.val (.int p0_0), .val (.int p0_0), .val (.ref b43), .val (.int 1)] [(.int 1)])) (fun _ k => XS.goto X54.here hx rfl (pc0 := 65) (pc' := 69) rfl (hb hby at_65) (by decide) (by decide) k) ?_
     refine own_retN X54 hx hlk (t := .boolean) hret (by simp) (hb hby at_69) (z' := (1 : Int32)) (by decide) (by decide) (by decide) ?_
     show Q0 Z p0_0 h0 n0 _ T54.heap _
     rw [eh54]
     exact ⟨rfl, N54⟩
    ·skip
     refine own_s (g' := (mkF m 54 #[.val (.int p0_0), .val (.int p0_0), .val (.ref b43), .unset] [])) (fun _ k => XS.ifYes X52.here hx rfl (pc0 := 47) (pc' := 54) rfl (hb hby at_47) rfl ((if0 _ _).trans (feq (mt (lw_eq (w3_line p0_0 (1 : Int64) (0 : Int32)) (2 : Int64)).mp c53)).2) (by decide) (by decide) k) ?_
     refine own_s (g' := (mkF m 55 #[.val (.int p0_0), .val (.int p0_0), .val (.ref b43), .unset] [(.int 0)])) (fun _ k => XS.iconst X52.here hx rfl (hb hby at_54) k) ?_
     refine own_s (g' := (mkF m 56 #[.val (.int p0_0), .val (.int p0_0), .val (.ref b43), .val (.int 0)] [])) (fun _ k => XS.istoreN X52.here hx rfl (hb hby at_55) rfl (l' := #[.val (.int p0_0), .val (.int p0_0), .val (.ref b43), .val (.int 0)]) rfl k) ?_
     refine own_s (g' := (mkF m 57 #[.val (.int p0_0), .val (.int p0_0), .val (.ref b43), .val (.int 0)] [(.int p0_0)])) (fun _ k => XS.iloadN X52.here hx rfl (hb hby at_56) rfl k) ?_
     obtain ⟨_, _, ⟨T55, L55, k55, n55⟩, -, X55, ⟨Lc55, hQ55, l55, y55, z55⟩, st55⟩ := Jvm.LawKit.callS X52 hx (y := (⟨"com/example/burn_to_balance/burntobalance/io/LineCount", "isBreak", "(I)Z"⟩ : MethodName)) hown (mvT hZ ww25) (mvT hZ ww26) (mvT hZ ww3) (mvT hZ ww27) (by decide) (backOf (W := 0) (rm5 l Z a0 hw [] p0_0 T48.heap n0 (Nat.le_trans Z0 K48.1) ) hZ ww27 ww3 (by decide) (by decide)) (g := (mkF m 57 #[.val (.int p0_0), .val (.int p0_0), .val (.ref b43), .val (.int 0)] [(.int p0_0)])) rfl (by rw [hml]; rfl) (argsL := [(.int p0_0)]) (rest := []) (lenOf pd__I_Z rfl) rfl (by show 2 * 0 + _ ≤ _; exact Nat.le_of_eq rfl) (hb hby at_57) (fun _ _ => ⟨rfl, eh52, (by decide : 1 + 0 ≤ _), (by decide : 2 + 0 ≤ _)⟩)
     dsimp only [Pt.U, Pt.locs, Pt.cells, Pt.slots] at X55 l55 y55 z55 st55 hQ55
     subst l55 y55 z55
     obtain ⟨rfl, N55q, eh55⟩ := hQ55
     have N55 := Fr.app N52 N55q
     refine own_s (g' := (mkF m 60 #[.val (.int p0_0), .val (.int p0_0), .val (.ref b43), .val (.int 0)] [(.int (r5 p0_0))])) st55 ?_
     refine own_s (g' := (mkF m 61 #[.val (.int p0_0), .val (.int p0_0), .val (.ref b43), .val (.int 0)] [(.int 0), (.int (r5 p0_0))])) (fun _ k => XS.iloadN X55.here hx rfl (hb hby at_60) rfl k) ?_
     refine own_s (g' := (mkF m 64 #[.val (.int p0_0), .val (.int p0_0), .val (.ref b43), .val (.int 0)] [])) (fun _ k => XS.icmpNo X55.here hx rfl (hb hby at_61) rfl (teq ((own_no _ c53) : (r5 p0_0) = (0 : Int32))).2 k) ?_
     refine own_s (g' := (mkF m 65 #[.val (.int p0_0), .val (.int p0_0), .val (.ref b43), .val (.int 0)] [(.int 1)])) (fun _ k => XS.iconst X55.here hx rfl (hb hby at_64) k) ?_
     refine own_s (g' := (mkF m 69 #[.val (.int p0_0), .val (.int p0_0), .val (.ref b43), .val (.int 0)] [(.int 1)])) (fun _ k => XS.goto X55.here hx rfl (pc0 := 65) (pc' := 69) rfl (hb hby at_65) (by decide) (by decide) k) ?_
     refine own_retN X55 hx hlk (t := .boolean) hret (by simp) (hb hby at_69) (z' := (1 : Int32)) (by decide) (by decide) (by decide) ?_
     show Q0 Z p0_0 h0 n0 _ T55.heap _
     rw [eh55]
     exact ⟨rfl, N55⟩
set_option maxRecDepth 65536 in
set_option maxHeartbeats 40000000 in
theorem comes_1 {Post : Tables → Env → Array Value → State → Outcome → State → Prop} (hpost : ∀ tb e args s v u, (limb_1_1.after args s (.returned v) u = true ∧ limb_1_2.after args s (.returned v) u = true ∧ True) → FrameEnd s (.returned v) u (Jvm.fieldLocs frame_1_writes args s ++ Jvm.arrayLocs frame_1_arrays args s ++ Jvm.staticLocs frame_1_statics s) 16 128 → Post tb e args s (.returned v) u) :
    ArmFor flags0 classFile x code maxLocals ret World_1 tables_1 room_1 Calls_1 rest_1 Pre_1 Post := by
  intro l hfl _ _ p e ha hc hk s m args below hf hA hF happ hP
  obtain ⟨hcalls, hrest, hpre⟩ := hP
  obtain ⟨-, -, -, hnamed, -, -, -, hat⟩ := (Spec.applies_iff hf).mp happ
  obtain ⟨hg, hn⟩ := and_e (Cond.before_iff.mp (show (Jvm.Cond.and given_1 narrow_1).before args s = true from hpre))
  obtain ⟨gc, hg⟩ := and_e hg
  obtain ⟨w0, rfl⟩ : ∃ w0 : Value, args = #[w0] := by
    have hs : args.size = 1 := by simpa [Cond.value, given_1] using gc
    obtain ⟨L⟩ := args
    match L, hs with
    | [w0], _ => exact ⟨w0, rfl⟩
  have hw := fun d (hd : d ∈ tables_1) => atoms_spec (ws := Jvm.Cond.code x code maxLocals ret :: tables_1) hat d (List.mem_cons_of_mem _ hd)
  obtain ⟨i0, ei0⟩ := is_v hg
  obtain rfl : w0 = (.int i0) := Option.some.inj ei0
  obtain ⟨n, o, h1, h2, h3, _, L, rfl, ⟨rfl, N⟩, hq⟩ := rm0 l s _ hw tables_1 i0 s.heap s.heap.size (Nat.le_refl _)  p e ha hc hk s m _ below hf ((Spec.applies_iff_loose hf).mp happ).1 ⟨rfl, State.Warmed39.refl s, rfl⟩ trivial
  refine ⟨n, _, h1, h2, h3, hpost _ _ _ _ _ _ ⟨Cond.after_iff.mpr rfl, Cond.after_iff.mpr (eq_i res_at (Term.int_eval (1)) rfl), trivial⟩ ⟨hq.1, hq.2.1, (hq.2.2.sift fun y hy => Or.inr (N y hy)).mono (by decide) (by decide)⟩⟩
theorem main_1_1 : Claimed_1_1 := comes_1 fun _ _ _ _ _ _ h hF => ⟨h.1, hF⟩
theorem main_1_2 : Claimed_1_2 := comes_1 fun _ _ _ _ _ _ h hF => ⟨h.2.1, hF⟩
end Jvm.Pilot.@@N@@
namespace Jvm.Pilot.@@N@@
open Jvm Jvm.ClassFile Sem Op Lib Jvm.Free Jvm.Stand Jvm.Pilot.@@N@@.Jvm.D
/-! MADE BY PROGRAM (witnessworld.py) out of the Statement's table words and the real class files: 9 classes; the members and pool entries that the words name. The judged class is class 1, her method 1. -/
namespace start1
open Jvm.ClassFile
def u (s : String) : CpInfo := .utf8 (stringToUtf16 s)
/-- a pool by its gaps: so many unusable entries, then the entry; so many at the end -/
def gap : Nat → List CpInfo → List CpInfo
  | 0, r => r
  | n + 1, r => .unusable :: gap n r
def poolList (es : List (Nat × CpInfo)) (last : Nat) : List CpInfo := es.foldr (fun e r => gap e.1 (e.2 :: r)) (gap last [])
def pool (es : List (Nat × CpInfo)) (last : Nat) : Array CpInfo := ⟨poolList es last⟩
def fileOf (pool : Array CpInfo) (this : Nat) (attrs : Array Attribute := #[]) (ms : Array MethodInfo := #[]) (fl : Nat := 33) (sup : Nat := 0) (ifs : Array Nat := #[]) (fds : Array FieldInfo := #[]) : ClassFile where
  minorVersion := 0
  majorVersion := 65
  constantPool := pool
  accessFlags := fl
  thisClass := this
  superClass := sup
  interfaces := ifs
  fields := fds
  methods := ms
  attributes := attrs
def plain (name : String) (sup : Option ClassId) : Class where
  name := name
  kind := .ordinary
  loader := none
  accessFlags := 33
  super := sup
  interfaces := #[]
  cf := none
  fields := #[]
  methods := #[]
  instanceTypes := #[]
  staticTypes := #[]
  resolved := #[]
  callSites := []
  init := .initialized
  statics := none
  mirror := none

def pool0 : Array CpInfo := pool [(5, u "<init>"), (0, u "()V"), (1, .class_ 10), (1, u "java/lang/Object")] 113

def k0c0 : Code := { maxStack := 0, maxLocals := 1, code := object_method_1_code, exceptionTable := #[], attributes := #[] }
def k0m0 : Method := { name := "<init>", desc := "()V", sig := { parameters := [], returnType := none }, accessFlags := 1, code := some k0c0 }
/-- java/lang/Object -/
def k0 : Class := { plain "java/lang/Object" none with
  accessFlags := 33
  interfaces := #[]
  cf := some (fileOf pool0 8 #[] #[{ accessFlags := 1, nameIndex := 5, descriptorIndex := 6, attributes := #[] }] 33 0 #[] #[])
  fields := #[]
  methods := #[k0m0]
  instanceTypes := #[]
  staticTypes := #[]
  resolved := Array.replicate 124 none
  statics := none }

def pool1 : Array CpInfo := pool [(2, .class_ 4), (0, .nameAndType 5 6), (0, u "java/lang/Object"), (0, u "<init>"), (0, u "()V"), (0, .integer 65535), (0, .methodref 9 10), (0, .class_ 11), (0, .nameAndType 12 13), (0, u "com/example/burn_to_balance/burntobalance/io/LineCount"), (0, u "isBreak"), (0, u "(I)Z"), (0, .methodref 9 3), (0, .methodref 9 16), (0, .nameAndType 17 18), (0, u "take"), (0, u "(C)V"), (0, .methodref 9 20), (0, .nameAndType 21 22), (0, u "line"), (0, u "()J"), (0, .long 2), (1, .class_ 26), (0, u "com/example/burn_to_balance/burntobalance/io/LineCountIsBreakPinLaw"), (2, u "law")] 3

def k1m0 : Method := { name := "<init>", desc := "()V", sig := { parameters := [], returnType := none }, accessFlags := 1, code := none }
def k1c1 : Code := { maxStack := 4, maxLocals := 4, code := code, exceptionTable := #[], attributes := #[] }
def k1m1 : Method := { name := "law", desc := "(I)Z", sig := { parameters := [.int], returnType := some .boolean }, accessFlags := 9, code := some k1c1 }
/-- com/example/burn_to_balance/burntobalance/io/LineCountIsBreakPinLaw -/
def k1 : Class := { plain "com/example/burn_to_balance/burntobalance/io/LineCountIsBreakPinLaw" (some 0) with
  accessFlags := 49
  interfaces := #[]
  cf := some (fileOf pool1 25 #[] #[{ accessFlags := 1, nameIndex := 5, descriptorIndex := 6, attributes := #[] }, { accessFlags := 9, nameIndex := 29, descriptorIndex := 13, attributes := #[] }] 49 2 #[] #[])
  fields := #[]
  methods := #[k1m0, k1m1]
  instanceTypes := #[]
  staticTypes := #[]
  resolved := Array.replicate 33 none
  statics := none }

def pool2 : Array CpInfo := pool [(1, .methodref 2 3), (0, .class_ 4), (0, .nameAndType 5 6), (0, u "java/lang/Object"), (0, u "<init>"), (0, u "()V"), (0, .fieldref 8 9), (0, .class_ 10), (0, .nameAndType 11 12), (0, u "com/example/burn_to_balance/burntobalance/io/LineCount"), (0, u "line"), (0, u "J"), (0, .fieldref 8 14), (0, .nameAndType 15 16), (0, u "afterReturn"), (0, u "Z"), (2, u "isBreak"), (0, u "(I)Z"), (1, u "take"), (0, u "(C)V"), (0, u "()J")] 2

def k2c0 : Code := { maxStack := 3, maxLocals := 1, code := prog_24_method_1_code, exceptionTable := #[], attributes := #[] }
def k2m0 : Method := { name := "<init>", desc := "()V", sig := { parameters := [], returnType := none }, accessFlags := 0, code := some k2c0 }
def k2c1 : Code := { maxStack := 2, maxLocals := 1, code := prog_24_method_2_code, exceptionTable := #[], attributes := #[] }
def k2m1 : Method := { name := "isBreak", desc := "(I)Z", sig := { parameters := [.int], returnType := some .boolean }, accessFlags := 8, code := some k2c1 }
def k2c2 : Code := { maxStack := 5, maxLocals := 2, code := prog_24_method_3_code, exceptionTable := #[], attributes := #[] }
def k2m2 : Method := { name := "take", desc := "(C)V", sig := { parameters := [.char], returnType := none }, accessFlags := 0, code := some k2c2 }
def k2c3 : Code := { maxStack := 2, maxLocals := 1, code := prog_24_method_4_code, exceptionTable := #[], attributes := #[] }
def k2m3 : Method := { name := "line", desc := "()J", sig := { parameters := [], returnType := some .long }, accessFlags := 0, code := some k2c3 }
/-- com/example/burn_to_balance/burntobalance/io/LineCount -/
def k2 : Class := { plain "com/example/burn_to_balance/burntobalance/io/LineCount" (some 0) with
  accessFlags := 32
  interfaces := #[]
  cf := some (fileOf pool2 8 #[] #[{ accessFlags := 0, nameIndex := 5, descriptorIndex := 6, attributes := #[] }, { accessFlags := 8, nameIndex := 19, descriptorIndex := 20, attributes := #[] }, { accessFlags := 0, nameIndex := 22, descriptorIndex := 23, attributes := #[] }, { accessFlags := 0, nameIndex := 11, descriptorIndex := 24, attributes := #[] }] 32 2 #[] #[{ accessFlags := 2, nameIndex := 11, descriptorIndex := 12, attributes := #[] }, { accessFlags := 2, nameIndex := 15, descriptorIndex := 16, attributes := #[] }])
  fields := #[{ name := "line", type := .long, accessFlags := 2, slot := 0, constantValue := 0 }, { name := "afterReturn", type := .boolean, accessFlags := 2, slot := 1, constantValue := 0 }]
  methods := #[k2m0, k2m1, k2m2, k2m3]
  instanceTypes := #[.long, .boolean]
  staticTypes := #[]
  resolved := Array.replicate 27 none
  statics := none }

def pool3 : Array CpInfo := pool [(1, u "java/lang/Cloneable"), (0, .class_ 1), (0, u "java/lang/Object"), (0, .class_ 3)] 3

/-- java/lang/Cloneable -/
def k3 : Class := { plain "java/lang/Cloneable" (some 0) with
  accessFlags := 1537
  interfaces := #[]
  cf := some (fileOf pool3 2 #[] #[] 1537 4 #[] #[])
  fields := #[]
  methods := #[]
  instanceTypes := #[]
  staticTypes := #[]
  resolved := Array.replicate 8 none
  statics := none }

def pool4 : Array CpInfo := pool [(1, u "java/io/Serializable"), (0, .class_ 1), (0, u "java/lang/Object"), (0, .class_ 3)] 3

/-- java/io/Serializable -/
def k4 : Class := { plain "java/io/Serializable" (some 0) with
  accessFlags := 1537
  interfaces := #[]
  cf := some (fileOf pool4 2 #[] #[] 1537 4 #[] #[])
  fields := #[]
  methods := #[]
  instanceTypes := #[]
  staticTypes := #[]
  resolved := Array.replicate 8 none
  statics := none }

/-- the primitive byte -/
def k5 : Class := { plain "byte" none with kind := .primitive 'B', accessFlags := 0x411 }
/-- [B -/
def k6 : Class := { plain "[B" (some 0) with kind := .array 5 .byte, interfaces := #[3, 4], accessFlags := 1041 }

/-- the primitive int -/
def k7 : Class := { plain "int" none with kind := .primitive 'I', accessFlags := 0x411 }
/-- [I -/
def k8 : Class := { plain "[I" (some 0) with kind := .array 7 .int, interfaces := #[3, 4], accessFlags := 1041 }

def heap : Heap := #[]
def classes : Array Class := #[k0, k1, k2, k3, k4, k5, k6, k7, k8]
def interned : List (Array UInt16 × Addr) := []
def slotsUsed : Nat := 0
def theMethod : MethodId := ⟨1, 1⟩
def args0 : Array Value := #[.int 5]
def aboutOver (below : List Frame) : State where
  vm := { classes := classes, interned := interned.toArray }
  heap := heap
  slotsUsed := slotsUsed
  threads := #[{ frames := .invoking theMethod args0 :: below }]
def below0 : List Frame := [.native { method := ⟨0, 0⟩, args := #[] }]
def about1 : State := aboutOver below0
def p0 : Program := .bare "" "" ""
def e0 : Env := launch0.env 0 0 0
theorem w_frames : about1.frames = Frame.invoking theMethod args0 :: below0 := rfl
set_option maxRecDepth 65536 in
theorem w_args : argsFit about1.vm theMethod args0 = true := by decide +kernel
set_option maxRecDepth 65536 in
theorem w_heap : heapFits about1 = true := by decide +kernel
set_option maxRecDepth 65536 in
theorem w_runnable : about1.curStatus? = some .runnable := by decide +kernel
set_option maxRecDepth 65536 in
theorem w_alone : about1.alone = true := by decide +kernel
set_option maxRecDepth 65536 in
theorem w_named : about1.methodNamed? x = some theMethod := by decide +kernel
set_option maxRecDepth 65536 in
theorem w_hears : about1.hears theMethod below0 = true := by decide +kernel
set_option maxRecDepth 65536 in
theorem w_ripe : about1.ripe theMethod args0 below0 = true := by decide +kernel
theorem w_running : about1.status = .running := rfl
set_option maxRecDepth 65536 in
theorem w_room : about1.hasRoom e0.platform room_1 = true :=
  launch0.hasRoom_least _ room_1 (by decide +kernel) (by decide +kernel) (by decide +kernel) (by decide +kernel) (by decide +kernel) (by decide +kernel)
theorem allAtoms_all (ts : List Jvm.Cond) (a : Array Jvm.Value) (st : Jvm.State) : (allAtoms ts).before a st = ts.all (fun c => c.before a st) := by
  induction ts with
  | nil => rfl
  | cons c t ih =>
    show (Jvm.Cond.and c (allAtoms t)).before a st = _
    rw [Jvm.Cond.before_and, ih, List.all_cons]
def words1 : List Jvm.Cond := Jvm.Cond.code x code maxLocals ret :: tables_1
/-- a 'code' word, met by the world's own term for the bytes: nothing is compared byte by byte -/
theorem code_word {y : MethodName} {bytes : ByteArray} {mx : Nat} {rt : Option FieldType} {a : Array Value} {s : State} {m : MethodId} {meth : Method} {c : Code} (h1 : s.methodNamed? y = some m) (h2 : s.vm.method? m = some meth) (h3 : meth.code = some c) (h4 : c.code = bytes)
    (h5 : (c.maxLocals == mx && c.exceptionTable.isEmpty && decide (c.maxStack ≤ mostOperands) && decide (meth.sig.returnType = rt) && !meth.locks && decide (parseMethodDescriptor y.desc = some meth.sig)) = true) : (Jvm.Cond.code y bytes mx rt).before a s = true := by
  simp only [Bool.and_eq_true, beq_iff_eq, Bool.not_eq_true', decide_eq_true_eq] at h5
  obtain ⟨⟨⟨⟨⟨g1, g2⟩, g3⟩, g4⟩, g5⟩, g6⟩ := h5
  simp [Cond.before, Cond.holds, Cond.value, h1, h2, h3, h4, g1, g2, g3, g4, g5, g6]
def isCode : Jvm.Cond → Bool
  | .code _ _ _ _ => true
  | _ => false
theorem all_split {L : List Jvm.Cond} {P : Jvm.Cond → Bool} (h1 : L.all (fun c => isCode c || P c) = true) (h2 : ∀ c ∈ L.filter isCode, P c = true) : L.all P = true := by
  refine List.all_eq_true.mpr fun c hc => ?_
  have h := List.all_eq_true.mp h1 c hc
  rcases Bool.eq_false_or_eq_true (isCode c) with hi | hi
  · exact h2 c (List.mem_filter.mpr ⟨hc, hi⟩)
  · simpa [hi] using h
set_option maxRecDepth 65536 in
theorem w_c0 : (Jvm.Cond.code x code maxLocals ret).before args0 about1 = true := code_word (m := ⟨1, 1⟩) (meth := k1m1) (c := k1c1) (by decide +kernel) rfl rfl rfl (by decide +kernel)
set_option maxRecDepth 65536 in
theorem w_c1 : (Jvm.Cond.code ({ cls := "com/example/burn_to_balance/burntobalance/io/LineCount", name := "<init>", desc := "()V" } : Jvm.MethodName) prog_24_method_1_code (1 : Nat) (Option.none : Option Jvm.ClassFile.FieldType)).before args0 about1 = true := code_word (m := ⟨2, 0⟩) (meth := k2m0) (c := k2c0) (by decide +kernel) rfl rfl rfl (by decide +kernel)
set_option maxRecDepth 65536 in
theorem w_c2 : (Jvm.Cond.code ({ cls := "java/lang/Object", name := "<init>", desc := "()V" } : Jvm.MethodName) object_method_1_code (1 : Nat) (Option.none : Option Jvm.ClassFile.FieldType)).before args0 about1 = true := code_word (m := ⟨0, 0⟩) (meth := k0m0) (c := k0c0) (by decide +kernel) rfl rfl rfl (by decide +kernel)
set_option maxRecDepth 65536 in
theorem w_c3 : (Jvm.Cond.code ({ cls := "com/example/burn_to_balance/burntobalance/io/LineCount", name := "take", desc := "(C)V" } : Jvm.MethodName) prog_24_method_3_code (2 : Nat) (Option.none : Option Jvm.ClassFile.FieldType)).before args0 about1 = true := code_word (m := ⟨2, 2⟩) (meth := k2m2) (c := k2c2) (by decide +kernel) rfl rfl rfl (by decide +kernel)
set_option maxRecDepth 65536 in
theorem w_c4 : (Jvm.Cond.code ({ cls := "com/example/burn_to_balance/burntobalance/io/LineCount", name := "line", desc := "()J" } : Jvm.MethodName) prog_24_method_4_code (1 : Nat) (Option.some Jvm.ClassFile.FieldType.long)).before args0 about1 = true := code_word (m := ⟨2, 3⟩) (meth := k2m3) (c := k2c3) (by decide +kernel) rfl rfl rfl (by decide +kernel)
set_option maxRecDepth 65536 in
theorem w_c5 : (Jvm.Cond.code ({ cls := "com/example/burn_to_balance/burntobalance/io/LineCount", name := "isBreak", desc := "(I)Z" } : Jvm.MethodName) prog_24_method_2_code (1 : Nat) (Option.some Jvm.ClassFile.FieldType.boolean)).before args0 about1 = true := code_word (m := ⟨2, 1⟩) (meth := k2m1) (c := k2c1) (by decide +kernel) rfl rfl rfl (by decide +kernel)
def codes1 : List Jvm.Cond := [Jvm.Cond.code x code maxLocals ret, Jvm.Cond.code ({ cls := "com/example/burn_to_balance/burntobalance/io/LineCount", name := "<init>", desc := "()V" } : Jvm.MethodName) prog_24_method_1_code (1 : Nat) (Option.none : Option Jvm.ClassFile.FieldType), Jvm.Cond.code ({ cls := "java/lang/Object", name := "<init>", desc := "()V" } : Jvm.MethodName) object_method_1_code (1 : Nat) (Option.none : Option Jvm.ClassFile.FieldType), Jvm.Cond.code ({ cls := "com/example/burn_to_balance/burntobalance/io/LineCount", name := "take", desc := "(C)V" } : Jvm.MethodName) prog_24_method_3_code (2 : Nat) (Option.none : Option Jvm.ClassFile.FieldType), Jvm.Cond.code ({ cls := "com/example/burn_to_balance/burntobalance/io/LineCount", name := "line", desc := "()J" } : Jvm.MethodName) prog_24_method_4_code (1 : Nat) (Option.some Jvm.ClassFile.FieldType.long), Jvm.Cond.code ({ cls := "com/example/burn_to_balance/burntobalance/io/LineCount", name := "isBreak", desc := "(I)Z" } : Jvm.MethodName) prog_24_method_2_code (1 : Nat) (Option.some Jvm.ClassFile.FieldType.boolean)]
set_option maxRecDepth 65536 in
theorem codes_eq : words1.filter isCode = codes1 := rfl
theorem w_codes : ∀ c ∈ words1.filter isCode, c.before args0 about1 = true := by
  rw [codes_eq]
  intro c hc
  simp only [codes1, List.mem_cons, List.not_mem_nil, or_false] at hc
  rcases hc with rfl | rfl | rfl | rfl | rfl | rfl
  · exact w_c0
  · exact w_c1
  · exact w_c2
  · exact w_c3
  · exact w_c4
  · exact w_c5
set_option maxRecDepth 65536 in
theorem w_t1 : (words1.take 24).all (fun c => isCode c || c.before args0 about1) = true := by decide +kernel
set_option maxRecDepth 65536 in
theorem w_t2 : (words1.drop 24).all (fun c => isCode c || c.before args0 about1) = true := by decide +kernel
theorem w_tables : (allAtoms (Jvm.Cond.code x code maxLocals ret :: tables_1)).before args0 about1 = true := by
  rw [allAtoms_all]
  show words1.all (fun c => c.before args0 about1) = true
  refine all_split ?_ w_codes
  rw [← List.take_append_drop 24 words1, List.all_append, w_t1, w_t2]
  rfl
set_option maxRecDepth 65536 in
theorem w_case : (Jvm.Cond.and given_1 narrow_1).before args0 about1 = true := by decide +kernel
theorem w_applies : (headSpec (Jvm.Cond.code x code maxLocals ret :: tables_1) room_1).applies x e0.platform about1 = true :=
  (Spec.applies_iff w_frames).mpr ⟨w_running, w_runnable, w_alone, w_named, w_hears, w_ripe, w_room, w_tables⟩
theorem atStart : AtStart classFile x code maxLocals ret World_1 tables_1 room_1 Calls_1 rest_1 Pre_1 launch0 p0 e0 about1 theMethod args0 below0 :=
  ⟨lists_1, trivial, launch0.admits_env _ _ _, launch0.least_env, fairChoices_fair.cas, fairChoices_fair.clock, w_frames, w_args, w_heap, w_applies, trivial, trivial, w_case⟩
end start1
theorem witness_1 : WitnessClaimed_1 := ⟨start1.p0, start1.e0, start1.about1, start1.theMethod, start1.args0, start1.below0, start1.atStart⟩
end Jvm.Pilot.@@N@@
