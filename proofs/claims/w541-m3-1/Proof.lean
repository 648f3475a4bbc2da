import JvmDerived
import JvmDerived.Pilot.@@N@@Statement
import JvmDerived.Pilot.@@N@@Code
set_option linter.unusedVariables false
set_option linter.unusedSimpArgs false
namespace Jvm.Pilot.@@N@@
open Jvm Jvm.ClassFile Sem Op Lib Jvm.Free Jvm.Stand Jvm.LawKit Jvm.RoadKit Bundle Jvm.Pilot.@@N@@.Jvm.D
/-- what is left of a walk: from the frame g on, the run ends as K says -/
def own_G (p : Program) (e : Env) (below : List Frame) (s : State) (K : Option Value → Heap → List Loc → Prop) (nc ns : Nat) (T : State) (g : JFrame) : Prop :=
  ∃ s₂ o, Steps p.tables e below (T.setTop g) s₂ ∧ s₂.status = .running ∧ Ended s₂ below o ∧ ∃ v L, o = .returned v ∧ K v s₂.heap L ∧ FrameEnd s o s₂ L nc ns
section Own
variable {p : Program} {l : Launch} {e : Env} {R : Room} {s : State} {m : MethodId} {args : Array Value} {below : List Frame} {meth : Method} {c : Code} {T T' : State} {locs : List Loc} {cells slots : Nat} {K : Option Value → Heap → List Loc → Prop} {nc ns : Nat} {g g' : JFrame}
theorem own_s (h : ∀ t, Steps p.tables e below (T'.setTop g') t → Steps p.tables e below (T.setTop g) t) (k : own_G p e below s K nc ns T' g') : own_G p e below s K nc ns T g := by
  obtain ⟨s₂, o, h1, r⟩ := k
  exact ⟨s₂, o, h _ h1, r⟩
theorem own_trans (h : Steps p.tables e below (T.setTop g) (T'.setTop g')) (k : own_G p e below s K nc ns T' g') : own_G p e below s K nc ns T g := by
  obtain ⟨s₂, o, h1, r⟩ := k
  exact ⟨s₂, o, h.trans h1, r⟩
theorem own_cast (q : g = g') (k : own_G p e below s K nc ns T g') : own_G p e below s K nc ns T g := q ▸ k
theorem own_leave (X : Stand p l e R s m args below meth c T locs cells slots) {v : Option Value} (hlk : meth.locks = false) (hv : meth.sig.returnType = none → v = none) (hc : cells ≤ nc) (hn : slots ≤ ns) (hq : K v T.heap locs)
    (st : ∀ fs, (∀ (f : JFrame) (acts : List Action), f.method = m → f.locked = none → f.entered = [] → (doReturn e (T.setTop f) acts v).1 = T.setFrames fs) → Steps p.tables e below (T.setTop g) (T.setFrames fs)) : own_G p e below s K nc ns T g := by
  obtain ⟨fs, hr, hrun, hended, hW, hsame⟩ := X.leave (v := v) hv hlk
  exact ⟨_, _, st fs hr, hrun, hended, _, _, rfl, hq, ⟨_, rfl⟩, hW, hsame.mono hc hn⟩
theorem own_retN (X : Stand p l e R s m args below meth c T locs cells slots) (hx : p.tables.exec = Jvm.exec) (hlk : meth.locks = false) {pc : Nat} {Ls : Array Slot} {z z' : Int32} {t : FieldType} {rest : List Value} (hret : meth.sig.returnType = some t) (ht : t = .boolean ∨ t = .byte ∨ t = .char ∨ t = .short)
    (hd : decode c.code pc = .ok (.ireturn, 1)) (hz : nar t z = z') (hc : cells ≤ nc) (hn : slots ≤ ns) (hq : K (some (.int z')) T.heap locs) : own_G p e below s K nc ns T (mkF m pc Ls (.int z :: rest)) := by
  subst hz
  exact own_leave X hlk (fun h => by rw [hret] at h; cases h) hc hn hq fun fs hr => retN X hx hret ht hd hr
theorem own_retI (X : Stand p l e R s m args below meth c T locs cells slots) (hx : p.tables.exec = Jvm.exec) (hlk : meth.locks = false) {pc : Nat} {Ls : Array Slot} {z : Int32} {rest : List Value} (hret : meth.sig.returnType = some .int)
    (hd : decode c.code pc = .ok (.ireturn, 1)) (hc : cells ≤ nc) (hn : slots ≤ ns) (hq : K (some (.int z)) T.heap locs) : own_G p e below s K nc ns T (mkF m pc Ls (.int z :: rest)) :=
  own_leave X hlk (fun h => by rw [hret] at h; cases h) hc hn hq fun fs hr => retOut X hx hret rfl (Or.inl ⟨rfl, Or.inl rfl, _, rfl⟩) hd hr
theorem own_retJ (X : Stand p l e R s m args below meth c T locs cells slots) (hx : p.tables.exec = Jvm.exec) (hlk : meth.locks = false) {pc : Nat} {Ls : Array Slot} {z : Int64} {rest : List Value} (hret : meth.sig.returnType = some .long)
    (hd : decode c.code pc = .ok (.lreturn, 1)) (hc : cells ≤ nc) (hn : slots ≤ ns) (hq : K (some (.long z)) T.heap locs) : own_G p e below s K nc ns T (mkF m pc Ls (.long z :: rest)) :=
  own_leave X hlk (fun h => by rw [hret] at h; cases h) hc hn hq fun fs hr => retOut X hx hret rfl (Or.inr (Or.inl ⟨rfl, rfl, _, rfl⟩)) hd hr
theorem own_retR (X : Stand p l e R s m args below meth c T locs cells slots) (hx : p.tables.exec = Jvm.exec) (hlk : meth.locks = false) {pc : Nat} {Ls : Array Slot} {v : Value} {t : FieldType} {rest : List Value} (hret : meth.sig.returnType = some t) (ht : t.isReference = true) (hv : v.isRef = true) (hnv : narrow t v = v)
    (hd : decode c.code pc = .ok (.areturn, 1)) (hc : cells ≤ nc) (hn : slots ≤ ns) (hq : K (some v) T.heap locs) : own_G p e below s K nc ns T (mkF m pc Ls (v :: rest)) :=
  own_leave X hlk (fun h => by rw [hret] at h; cases h) hc hn hq fun fs hr => retOut X hx hret hnv (Or.inr (Or.inr (Or.inr (Or.inr ⟨rfl, ht, hv⟩)))) hd hr
theorem own_retV (X : Stand p l e R s m args below meth c T locs cells slots) (hx : p.tables.exec = Jvm.exec) (hlk : meth.locks = false) {pc : Nat} {Ls : Array Slot} (hret : meth.sig.returnType = none)
    (hd : decode c.code pc = .ok (.return_, 1)) (hc : cells ≤ nc) (hn : slots ≤ ns) (hq : K none T.heap locs) : own_G p e below s K nc ns T (mkF m pc Ls []) :=
  own_leave X hlk (fun _ => rfl) hc hn hq fun fs hr => X.returnOut hx hret hd hr
theorem own_selp {s : State} {args : Array Value} {y : MethodName} {n : Nat} (wi : (Jvm.Cond.instantiable y.cls n).before args s = true) (hp : (Jvm.Cond.privateMethod y).before args s = true) (hi : (Jvm.Cond.instanceMethod y).before args s = true)
    (hy : y.cls ≠ "java/lang/invoke/MethodHandle" ∧ y.cls ≠ "java/lang/invoke/VarHandle") : (Jvm.Cond.selects y.cls y y).before args s = true := by
  obtain ⟨c, k, h1, h2, h3, h4, -⟩ := Cond.instantiable_spec wi
  exact Jvm.Stand.selects_self_of_private h1 h2 (Bool.or_eq_false_iff.mp h4).1 (Cond.privateMethod_at hp) hi hy
theorem own_miss {k : Int32} (i : Int) (n : Int32) (e : n.toInt = i) (hc : ¬ k = n) : i ≠ k.toInt := fun h => hc (Int32.toInt_inj.mp (h.symm.trans e.symm))
theorem own_posI {x : Int32} (h : (0 : Int32) < x) : x ≠ 0 := fun q => by rw [q] at h; exact absurd h (by decide)
theorem own_posJ {x : Int64} (h : (0 : Int64) < x) : x ≠ 0 := fun q => by rw [q] at h; exact absurd h (by decide)
theorem own_asI {x y : Int32} (h : y < x) : ¬ x < y := fun q => Int32.lt_irrefl (Int32.lt_trans h q)
theorem own_asJ {x y : Int64} (h : y < x) : ¬ x < y := fun q => Int64.lt_irrefl (Int64.lt_trans h q)
theorem own_eqltI {x y : Int32} (h : x = y) : ¬ x < y := fun q => by rw [h] at q; exact Int32.lt_irrefl q
theorem own_eqltJ {x y : Int64} (h : x = y) : ¬ x < y := fun q => by rw [h] at q; exact Int64.lt_irrefl q
theorem own_triI {x y : Int32} (h : ¬ x = y) (q : ¬ y < x) : x < y := by
  rw [Int32.lt_iff_toInt_lt] at *
  rw [← Int32.toInt_inj] at h
  omega
theorem own_triJ {x y : Int64} (h : ¬ x = y) (q : ¬ y < x) : x < y := by
  rw [Int64.lt_iff_toInt_lt] at *
  rw [← Int64.toInt_inj] at h
  omega
theorem own_ltneI {x y : Int32} (h : x < y) : ¬ x = y := fun q => by rw [q] at h; exact Int32.lt_irrefl h
theorem own_ltneJ {x y : Int64} (h : x < y) : ¬ x = y := fun q => by rw [q] at h; exact Int64.lt_irrefl h
theorem own_ltne'I {x y : Int32} (h : y < x) : ¬ x = y := fun q => by rw [q] at h; exact Int32.lt_irrefl h
theorem own_ltne'J {x y : Int64} (h : y < x) : ¬ x = y := fun q => by rw [q] at h; exact Int64.lt_irrefl h
theorem own_nnI {x y : Int32} (h : ¬ x < y) (q : ¬ y < x) : x = y := by
  rw [Int32.lt_iff_toInt_lt] at *
  rw [← Int32.toInt_inj]
  omega
theorem own_nnJ {x y : Int64} (h : ¬ x < y) (q : ¬ y < x) : x = y := by
  rw [Int64.lt_iff_toInt_lt] at *
  rw [← Int64.toInt_inj]
  omega
end Own
theorem own_sn_15_12 {Z : State} {a0 : Array Value} (hw : ∀ d ∈ tables_1, d.before a0 Z = true) : Jvm.RoadKit.slotOf Z "com/example/burn_to_balance/burntobalance/io/CsvRecord" "ends" "[I" ≠ Jvm.RoadKit.slotOf Z "com/example/burn_to_balance/burntobalance/io/CsvRecord" "chars" "[C" := slot_ne (Or.inl (hw _ (List.mem_of_getElem? (i := 15) rfl))) (Or.inl (hw _ (List.mem_of_getElem? (i := 12) rfl))) (by decide +kernel) (t := (.array .int)) (t' := (.array .char)) (by decide +kernel) (by decide +kernel)
theorem own_sn_22_12 {Z : State} {a0 : Array Value} (hw : ∀ d ∈ tables_1, d.before a0 Z = true) : Jvm.RoadKit.slotOf Z "com/example/burn_to_balance/burntobalance/io/CsvRecord" "line" "J" ≠ Jvm.RoadKit.slotOf Z "com/example/burn_to_balance/burntobalance/io/CsvRecord" "chars" "[C" := slot_ne (Or.inl (hw _ (List.mem_of_getElem? (i := 22) rfl))) (Or.inl (hw _ (List.mem_of_getElem? (i := 12) rfl))) (by decide +kernel) (t := .long) (t' := (.array .char)) (by decide +kernel) (by decide +kernel)
theorem own_sn_22_15 {Z : State} {a0 : Array Value} (hw : ∀ d ∈ tables_1, d.before a0 Z = true) : Jvm.RoadKit.slotOf Z "com/example/burn_to_balance/burntobalance/io/CsvRecord" "line" "J" ≠ Jvm.RoadKit.slotOf Z "com/example/burn_to_balance/burntobalance/io/CsvRecord" "ends" "[I" := slot_ne (Or.inl (hw _ (List.mem_of_getElem? (i := 22) rfl))) (Or.inl (hw _ (List.mem_of_getElem? (i := 15) rfl))) (by decide +kernel) (t := .long) (t' := (.array .int)) (by decide +kernel) (by decide +kernel)
theorem own_sn_24_12 {Z : State} {a0 : Array Value} (hw : ∀ d ∈ tables_1, d.before a0 Z = true) : Jvm.RoadKit.slotOf Z "com/example/burn_to_balance/burntobalance/io/CsvRecord" "length" "I" ≠ Jvm.RoadKit.slotOf Z "com/example/burn_to_balance/burntobalance/io/CsvRecord" "chars" "[C" := slot_ne (Or.inl (hw _ (List.mem_of_getElem? (i := 24) rfl))) (Or.inl (hw _ (List.mem_of_getElem? (i := 12) rfl))) (by decide +kernel) (t := .int) (t' := (.array .char)) (by decide +kernel) (by decide +kernel)
theorem own_sn_24_15 {Z : State} {a0 : Array Value} (hw : ∀ d ∈ tables_1, d.before a0 Z = true) : Jvm.RoadKit.slotOf Z "com/example/burn_to_balance/burntobalance/io/CsvRecord" "length" "I" ≠ Jvm.RoadKit.slotOf Z "com/example/burn_to_balance/burntobalance/io/CsvRecord" "ends" "[I" := slot_ne (Or.inl (hw _ (List.mem_of_getElem? (i := 24) rfl))) (Or.inl (hw _ (List.mem_of_getElem? (i := 15) rfl))) (by decide +kernel) (t := .int) (t' := (.array .int)) (by decide +kernel) (by decide +kernel)
theorem own_sn_26_12 {Z : State} {a0 : Array Value} (hw : ∀ d ∈ tables_1, d.before a0 Z = true) : Jvm.RoadKit.slotOf Z "com/example/burn_to_balance/burntobalance/io/CsvRecord" "size" "I" ≠ Jvm.RoadKit.slotOf Z "com/example/burn_to_balance/burntobalance/io/CsvRecord" "chars" "[C" := slot_ne (Or.inl (hw _ (List.mem_of_getElem? (i := 26) rfl))) (Or.inl (hw _ (List.mem_of_getElem? (i := 12) rfl))) (by decide +kernel) (t := .int) (t' := (.array .char)) (by decide +kernel) (by decide +kernel)
theorem own_sn_26_15 {Z : State} {a0 : Array Value} (hw : ∀ d ∈ tables_1, d.before a0 Z = true) : Jvm.RoadKit.slotOf Z "com/example/burn_to_balance/burntobalance/io/CsvRecord" "size" "I" ≠ Jvm.RoadKit.slotOf Z "com/example/burn_to_balance/burntobalance/io/CsvRecord" "ends" "[I" := slot_ne (Or.inl (hw _ (List.mem_of_getElem? (i := 26) rfl))) (Or.inl (hw _ (List.mem_of_getElem? (i := 15) rfl))) (by decide +kernel) (t := .int) (t' := (.array .int)) (by decide +kernel) (by decide +kernel)
theorem own_sn_12_15 {Z : State} {a0 : Array Value} (hw : ∀ d ∈ tables_1, d.before a0 Z = true) : Jvm.RoadKit.slotOf Z "com/example/burn_to_balance/burntobalance/io/CsvRecord" "chars" "[C" ≠ Jvm.RoadKit.slotOf Z "com/example/burn_to_balance/burntobalance/io/CsvRecord" "ends" "[I" := slot_ne (Or.inl (hw _ (List.mem_of_getElem? (i := 12) rfl))) (Or.inl (hw _ (List.mem_of_getElem? (i := 15) rfl))) (by decide +kernel) (t := (.array .char)) (t' := (.array .int)) (by decide +kernel) (by decide +kernel)
theorem d1_0 : decode prog_7_method_1_code 0 = .ok (.aload_n 0, 1) := by decide +kernel
theorem d1_1 : decode prog_7_method_1_code 1 = .ok (.invokespecial 1, 3) := by decide +kernel
theorem d1_4 : decode prog_7_method_1_code 4 = .ok (.aload_n 0, 1) := by decide +kernel
theorem d1_5 : decode prog_7_method_1_code 5 = .ok (.sipush 256, 3) := by decide +kernel
theorem d1_8 : decode prog_7_method_1_code 8 = .ok (.newarray .char, 2) := by decide +kernel
theorem d1_10 : decode prog_7_method_1_code 10 = .ok (.putfield 7, 3) := by decide +kernel
theorem d1_13 : decode prog_7_method_1_code 13 = .ok (.aload_n 0, 1) := by decide +kernel
theorem d1_14 : decode prog_7_method_1_code 14 = .ok (.bipush 16, 2) := by decide +kernel
theorem d1_16 : decode prog_7_method_1_code 16 = .ok (.newarray .int, 2) := by decide +kernel
theorem d1_18 : decode prog_7_method_1_code 18 = .ok (.putfield 13, 3) := by decide +kernel
theorem d1_21 : decode prog_7_method_1_code 21 = .ok (.return_, 1) := by decide +kernel
theorem pn_com_example_burn_to_balance_burntobalance_io_CsvRecord : plainName "com/example/burn_to_balance/burntobalance/io/CsvRecord" = true := by first | (simp [plainName, overriddenIn]; done) | decide +kernel
theorem ef_1 (m : MethodId) (a1_0 : Addr) : entryFrame m #[(.ref a1_0)] 1 = mkF m 0 #[.val (.ref a1_0)] [] := by first | (simp [entryFrame, mkF, argsToLocals, Value.category]; done) | rfl
def Q1 (Z : State) (a1_0 : Addr) (v1_line : Int64) (u1_length : Int32) (u1_size : Int32) (h0 : Heap) (n0 : Nat) (v : Option Value) (h : Heap) (L : List Loc) : Prop := ∃ (bf0 : Addr) (bf1 : Addr) (kf0 : ClassId) (kf1 : ClassId), h0.size ≤ bf0 ∧ h0.size ≤ bf1 ∧ bf0 ≠ bf1 ∧ v = none ∧ Fr n0 L ∧ Keep h0 h [a1_0] ∧ Arv Z h bf0 kf0 .char (256 : Int32) [(.int 0)] (.int 0) ∧ Arv Z h bf1 kf1 .int (16 : Int32) [(.int 0)] (.int 0) ∧ Exa Z h a1_0 "com/example/burn_to_balance/burntobalance/io/CsvRecord" ∧ Fld Z h a1_0 "com/example/burn_to_balance/burntobalance/io/CsvRecord" "line" "J" (.long v1_line) ∧ Fld Z h a1_0 "com/example/burn_to_balance/burntobalance/io/CsvRecord" "length" "I" (.int u1_length) ∧ Fld Z h a1_0 "com/example/burn_to_balance/burntobalance/io/CsvRecord" "size" "I" (.int u1_size) ∧ Fld Z h a1_0 "com/example/burn_to_balance/burntobalance/io/CsvRecord" "chars" "[C" (.ref bf0) ∧ Fld Z h a1_0 "com/example/burn_to_balance/burntobalance/io/CsvRecord" "ends" "[I" (.ref bf1)
set_option maxRecDepth 65536 in
set_option maxHeartbeats 40000000 in
theorem rm1 (l : Launch) (Z : State) (a0 : Array Value) (hw : ∀ d ∈ tables_1, d.before a0 Z = true) (ws : List Jvm.Cond) (a1_0 : Addr) (v1_line : Int64) (u1_length : Int32) (u1_size : Int32) (h0 : Heap) (n0 : Nat) (Z0 : n0 ≤ h0.size) (F_chars_a1_0 : Fld Z h0 a1_0 "com/example/burn_to_balance/burntobalance/io/CsvRecord" "chars" "[C" .null) (F_ends_a1_0 : Fld Z h0 a1_0 "com/example/burn_to_balance/burntobalance/io/CsvRecord" "ends" "[I" .null) (F_line_a1_0 : Fld Z h0 a1_0 "com/example/burn_to_balance/burntobalance/io/CsvRecord" "line" "J" (.long v1_line)) (F_length_a1_0 : Fld Z h0 a1_0 "com/example/burn_to_balance/burntobalance/io/CsvRecord" "length" "I" (.int u1_length)) (F_size_a1_0 : Fld Z h0 a1_0 "com/example/burn_to_balance/burntobalance/io/CsvRecord" "size" "I" (.int u1_size)) (E_a1_0 : Exa Z h0 a1_0 "com/example/burn_to_balance/burntobalance/io/CsvRecord") (g_a1_0 : n0 ≤ a1_0) :
    MetFree l (⟨"com/example/burn_to_balance/burntobalance/io/CsvRecord", "<init>", "()V"⟩ : MethodName) (head1 (Jvm.Cond.code (⟨"com/example/burn_to_balance/burntobalance/io/CsvRecord", "<init>", "()V"⟩ : MethodName) prog_7_method_1_code 1 none :: ws) ({ frames := 1, cells := 2, slots := 272, locals := 12 } : Room)) (fun a U => a = #[(.ref a1_0)] ∧ Z.Warmed39 U.vm ∧ U.heap = h0) (fun _ _ _ _ _ => True) (fun _ U o U' => ∃ v L, o = .returned v ∧ Q1 Z a1_0 v1_line u1_length u1_size h0 n0 v U'.heap L ∧ FrameEnd U o U' L ({ frames := 1, cells := 2, slots := 272, locals := 12 } : Room).cells ({ frames := 1, cells := 2, slots := 272, locals := 12 } : Room).slots) := by
  refine MetFree.of_bodySF (plainFor_of_name pn_com_example_burn_to_balance_burntobalance_io_CsvRecord) hisR ?_
  intro p e s m args below meth c s₁ Bd hml0 hP hK
  obtain ⟨rfl, hZ, hh⟩ := hP
  have hx := Bd.exec
  have hby := Bd.bytes
  have hlk := Bd.notSynchronized
  have hret := Bd.returns
  have hml : c.maxLocals = 1 := hml0
  have hown : s.vm.findClass "com/example/burn_to_balance/burntobalance/io/CsvRecord" = some m.cls := findClass_of_methodNamed Bd.named
  have hnm := (name_of_methodNamed Bd.named Bd.method).1
  have X0 : Stand p l e ({ frames := 1, cells := 2, slots := 272, locals := 12 } : Room) s m #[(.ref a1_0)] below meth c s₁ [] 0 0 := Stand.of_body Bd
  have e0 : s₁.heap = h0 := by rw [← hh, Bd.state]; rfl
  have N0 := Fr.nil n0
  have K0 : Keep h0 h0 [a1_0] := Keep.refl _ _
  show own_G p e below s (Q1 Z a1_0 v1_line u1_length u1_size h0 n0) ({ frames := 1, cells := 2, slots := 272, locals := 12 } : Room).cells ({ frames := 1, cells := 2, slots := 272, locals := 12 } : Room).slots s₁ (entryFrame m #[(.ref a1_0)] 1)
  have ww2 := hw _ (List.mem_of_getElem? (i := 2) rfl)
  have ww7 := hw _ (List.mem_of_getElem? (i := 7) rfl)
  have ww8 := hw _ (List.mem_of_getElem? (i := 8) rfl)
  have ww9 := hw _ (List.mem_of_getElem? (i := 9) rfl)
  have ww10 := hw _ (List.mem_of_getElem? (i := 10) rfl)
  have ww11 := hw _ (List.mem_of_getElem? (i := 11) rfl)
  have ww12 := hw _ (List.mem_of_getElem? (i := 12) rfl)
  have ww13 := hw _ (List.mem_of_getElem? (i := 13) rfl)
  have ww14 := hw _ (List.mem_of_getElem? (i := 14) rfl)
  have ww15 := hw _ (List.mem_of_getElem? (i := 15) rfl)
  refine own_cast (ef_1 m a1_0) ?_
  refine own_s (g' := (mkF m 1 #[.val (.ref a1_0)] [(.ref a1_0)])) (fun _ k => XS.aloadN X0.here hx rfl (hb hby d1_0) rfl rfl k) ?_
  obtain ⟨T1, X1, e1, st1⟩ := initO X0 hx hZ hown ww7 ww8 ww9 e0 (g := (mkF m 1 #[.val (.ref a1_0)] [(.ref a1_0)])) rfl (by rw [hml]; rfl) rfl (hb hby d1_1) (by decide) (W := 0) (by show 2 * 0 + _ ≤ _; exact Nat.le_of_eq rfl) (by decide)
  refine own_s (g' := (mkF m 4 #[.val (.ref a1_0)] [])) st1 ?_
  refine own_s (g' := (mkF m 5 #[.val (.ref a1_0)] [(.ref a1_0)])) (fun _ k => XS.aloadN X1.here hx rfl (hb hby d1_4) rfl rfl k) ?_
  refine own_s (g' := (mkF m 8 #[.val (.ref a1_0)] [(.int 256), (.ref a1_0)])) (fun _ k => XS.sipush X1.here hx rfl (hb hby d1_5) k) ?_
  obtain ⟨T2, h2, k2, X2, e2, E2, A2, st2⟩ := newP (aty := .char) X1 hx hZ ww10 e1 (g := (mkF m 8 #[.val (.ref a1_0)] [(.int 256), (.ref a1_0)])) rfl (hb hby d1_8) rfl (by decide) (cap := 256) (by decide) (by decide) (by decide) (by decide)
  obtain ⟨b2, ga2⟩ : ∃ z, z = h0.size := ⟨_, rfl⟩
  rw [← ga2] at A2 st2
  have g_b2 := Nat.le_trans Z0 (Nat.le_of_eq ga2.symm)
  have sz_b2 := Nat.le_trans K0.1 (Nat.le_of_eq ga2.symm)
  have V2 : Arv Z h2 b2 k2 .char (256 : Int32) [(.int 0)] (.int 0) := (Arv.new A2 (by decide)).pad (pad_rep [] (.int 0) 1)
  have K2 := K0.ext E2
  refine own_s (g' := (mkF m 10 #[.val (.ref a1_0)] [(.ref b2), (.ref a1_0)])) st2 ?_
  have f3 := (E_a1_0.ext E2)
  have f4 := (F_chars_a1_0.ext E2)
  obtain ⟨T5, h5, X5, e5, W5, st5⟩ := putF X2 hx hZ hown (host := "") (Or.inl ww11) Via.refl e2 f4 f3 (Or.inl ww12) ww2 (ty := (.array .char)) (by decide +kernel) rfl rfl (g := (mkF m 10 #[.val (.ref a1_0)] [(.ref b2), (.ref a1_0)])) rfl rfl (hb hby d1_10)
  have f6 := f4.same W5
  have K5 := K2.wr W5 (Or.inl (List.mem_of_getElem? (i := 0) rfl))
  have N5 := Fr.snoc X5 N0 g_a1_0
  refine own_s (g' := (mkF m 13 #[.val (.ref a1_0)] [])) st5 ?_
  refine own_s (g' := (mkF m 14 #[.val (.ref a1_0)] [(.ref a1_0)])) (fun _ k => XS.aloadN X5.here hx rfl (hb hby d1_13) rfl rfl k) ?_
  refine own_s (g' := (mkF m 16 #[.val (.ref a1_0)] [(.int 16), (.ref a1_0)])) (fun _ k => XS.bipush X5.here hx rfl (hb hby d1_14) k) ?_
  obtain ⟨T7, h7, k7, X7, e7, E7, A7, st7⟩ := newP (aty := .int) X5 hx hZ ww13 e5 (g := (mkF m 16 #[.val (.ref a1_0)] [(.int 16), (.ref a1_0)])) rfl (hb hby d1_16) rfl (by decide) (cap := 16) (by decide) (by decide) (by decide) (by decide)
  obtain ⟨b7, ga7⟩ : ∃ z, z = h5.size := ⟨_, rfl⟩
  rw [← ga7] at A7 st7
  have g_b7 := Nat.le_trans (Nat.le_trans Z0 K5.1) (Nat.le_of_eq ga7.symm)
  have sz_b7 := Nat.le_trans K5.1 (Nat.le_of_eq ga7.symm)
  have V7 : Arv Z h7 b7 k7 .int (16 : Int32) [(.int 0)] (.int 0) := (Arv.new A7 (by decide)).pad (pad_rep [] (.int 0) 1)
  have K7 := K5.ext E7
  refine own_s (g' := (mkF m 18 #[.val (.ref a1_0)] [(.ref b7), (.ref a1_0)])) st7 ?_
  have f8 := ((f3.wr W5).ext E7)
  have f9 := (((F_ends_a1_0.ext E2).other W5 (Or.inr (own_sn_15_12 hw))).ext E7)
  obtain ⟨T10, h10, X10, e10, W10, st10⟩ := putF X7 hx hZ hown (host := "") (Or.inl ww14) Via.refl e7 f9 f8 (Or.inl ww15) ww2 (ty := (.array .int)) (by decide +kernel) rfl rfl (g := (mkF m 18 #[.val (.ref a1_0)] [(.ref b7), (.ref a1_0)])) rfl rfl (hb hby d1_18)
  have f11 := f9.same W10
  have K10 := K7.wr W10 (Or.inl (List.mem_of_getElem? (i := 0) rfl))
  have N10 := Fr.snoc X10 N5 g_a1_0
  refine own_s (g' := (mkF m 21 #[.val (.ref a1_0)] [])) st10 ?_
  have f12 := ((((F_line_a1_0.ext E2).other W5 (Or.inr (own_sn_22_12 hw))).ext E7).other W10 (Or.inr (own_sn_22_15 hw)))
  have f13 := ((((F_length_a1_0.ext E2).other W5 (Or.inr (own_sn_24_12 hw))).ext E7).other W10 (Or.inr (own_sn_24_15 hw)))
  have f14 := ((((F_size_a1_0.ext E2).other W5 (Or.inr (own_sn_26_12 hw))).ext E7).other W10 (Or.inr (own_sn_26_15 hw)))
  have f15 := (f8.wr W10)
  have ne16 : a1_0 ≠ b2 := Nat.ne_of_lt (Nat.lt_of_lt_of_le E_a1_0.lt (Nat.le_of_eq ga2.symm))
  have f17 := (((V2.other W5 (Ne.symm ne16)).ext E7).other W10 (Ne.symm ne16))
  have f18 := ((f6.ext E7).other W10 (Or.inr (own_sn_12_15 hw)))
  have ne19 : a1_0 ≠ b7 := Nat.ne_of_lt (Nat.lt_of_lt_of_le (f3.wr W5).lt (Nat.le_of_eq ga7.symm))
  have f20 := (V7.other W10 (Ne.symm ne19))
  have ne21 : b2 ≠ b7 := Nat.ne_of_lt (Nat.lt_of_lt_of_le (V2.other W5 (Ne.symm ne16)).lt (Nat.le_of_eq ga7.symm))
  refine own_retV X10 hx hlk hret (hb hby d1_21) (by decide) (by decide) ?_
  show Q1 Z a1_0 v1_line u1_length u1_size h0 n0 _ T10.heap _
  rw [e10]
  exact ⟨b2, b7, _, _, sz_b2, sz_b7, ne21, rfl, N10, K10, f17, f20, f15, f12, f13, f14, f18, f11⟩
theorem own_sn_24_22 {Z : State} {a0 : Array Value} (hw : ∀ d ∈ tables_1, d.before a0 Z = true) : Jvm.RoadKit.slotOf Z "com/example/burn_to_balance/burntobalance/io/CsvRecord" "length" "I" ≠ Jvm.RoadKit.slotOf Z "com/example/burn_to_balance/burntobalance/io/CsvRecord" "line" "J" := slot_ne (Or.inl (hw _ (List.mem_of_getElem? (i := 24) rfl))) (Or.inl (hw _ (List.mem_of_getElem? (i := 22) rfl))) (by decide +kernel) (t := .int) (t' := .long) (by decide +kernel) (by decide +kernel)
theorem own_sn_26_22 {Z : State} {a0 : Array Value} (hw : ∀ d ∈ tables_1, d.before a0 Z = true) : Jvm.RoadKit.slotOf Z "com/example/burn_to_balance/burntobalance/io/CsvRecord" "size" "I" ≠ Jvm.RoadKit.slotOf Z "com/example/burn_to_balance/burntobalance/io/CsvRecord" "line" "J" := slot_ne (Or.inl (hw _ (List.mem_of_getElem? (i := 26) rfl))) (Or.inl (hw _ (List.mem_of_getElem? (i := 22) rfl))) (by decide +kernel) (t := .int) (t' := .long) (by decide +kernel) (by decide +kernel)
theorem own_sn_26_24 {Z : State} {a0 : Array Value} (hw : ∀ d ∈ tables_1, d.before a0 Z = true) : Jvm.RoadKit.slotOf Z "com/example/burn_to_balance/burntobalance/io/CsvRecord" "size" "I" ≠ Jvm.RoadKit.slotOf Z "com/example/burn_to_balance/burntobalance/io/CsvRecord" "length" "I" := slot_ne (Or.inl (hw _ (List.mem_of_getElem? (i := 26) rfl))) (Or.inl (hw _ (List.mem_of_getElem? (i := 24) rfl))) (by decide +kernel) (t := .int) (t' := .int) (by decide +kernel) (by decide +kernel)
theorem own_sn_12_22 {Z : State} {a0 : Array Value} (hw : ∀ d ∈ tables_1, d.before a0 Z = true) : Jvm.RoadKit.slotOf Z "com/example/burn_to_balance/burntobalance/io/CsvRecord" "chars" "[C" ≠ Jvm.RoadKit.slotOf Z "com/example/burn_to_balance/burntobalance/io/CsvRecord" "line" "J" := slot_ne (Or.inl (hw _ (List.mem_of_getElem? (i := 12) rfl))) (Or.inl (hw _ (List.mem_of_getElem? (i := 22) rfl))) (by decide +kernel) (t := (.array .char)) (t' := .long) (by decide +kernel) (by decide +kernel)
theorem own_sn_12_24 {Z : State} {a0 : Array Value} (hw : ∀ d ∈ tables_1, d.before a0 Z = true) : Jvm.RoadKit.slotOf Z "com/example/burn_to_balance/burntobalance/io/CsvRecord" "chars" "[C" ≠ Jvm.RoadKit.slotOf Z "com/example/burn_to_balance/burntobalance/io/CsvRecord" "length" "I" := slot_ne (Or.inl (hw _ (List.mem_of_getElem? (i := 12) rfl))) (Or.inl (hw _ (List.mem_of_getElem? (i := 24) rfl))) (by decide +kernel) (t := (.array .char)) (t' := .int) (by decide +kernel) (by decide +kernel)
theorem own_sn_12_26 {Z : State} {a0 : Array Value} (hw : ∀ d ∈ tables_1, d.before a0 Z = true) : Jvm.RoadKit.slotOf Z "com/example/burn_to_balance/burntobalance/io/CsvRecord" "chars" "[C" ≠ Jvm.RoadKit.slotOf Z "com/example/burn_to_balance/burntobalance/io/CsvRecord" "size" "I" := slot_ne (Or.inl (hw _ (List.mem_of_getElem? (i := 12) rfl))) (Or.inl (hw _ (List.mem_of_getElem? (i := 26) rfl))) (by decide +kernel) (t := (.array .char)) (t' := .int) (by decide +kernel) (by decide +kernel)
theorem own_sn_15_22 {Z : State} {a0 : Array Value} (hw : ∀ d ∈ tables_1, d.before a0 Z = true) : Jvm.RoadKit.slotOf Z "com/example/burn_to_balance/burntobalance/io/CsvRecord" "ends" "[I" ≠ Jvm.RoadKit.slotOf Z "com/example/burn_to_balance/burntobalance/io/CsvRecord" "line" "J" := slot_ne (Or.inl (hw _ (List.mem_of_getElem? (i := 15) rfl))) (Or.inl (hw _ (List.mem_of_getElem? (i := 22) rfl))) (by decide +kernel) (t := (.array .int)) (t' := .long) (by decide +kernel) (by decide +kernel)
theorem own_sn_15_24 {Z : State} {a0 : Array Value} (hw : ∀ d ∈ tables_1, d.before a0 Z = true) : Jvm.RoadKit.slotOf Z "com/example/burn_to_balance/burntobalance/io/CsvRecord" "ends" "[I" ≠ Jvm.RoadKit.slotOf Z "com/example/burn_to_balance/burntobalance/io/CsvRecord" "length" "I" := slot_ne (Or.inl (hw _ (List.mem_of_getElem? (i := 15) rfl))) (Or.inl (hw _ (List.mem_of_getElem? (i := 24) rfl))) (by decide +kernel) (t := (.array .int)) (t' := .int) (by decide +kernel) (by decide +kernel)
theorem own_sn_15_26 {Z : State} {a0 : Array Value} (hw : ∀ d ∈ tables_1, d.before a0 Z = true) : Jvm.RoadKit.slotOf Z "com/example/burn_to_balance/burntobalance/io/CsvRecord" "ends" "[I" ≠ Jvm.RoadKit.slotOf Z "com/example/burn_to_balance/burntobalance/io/CsvRecord" "size" "I" := slot_ne (Or.inl (hw _ (List.mem_of_getElem? (i := 15) rfl))) (Or.inl (hw _ (List.mem_of_getElem? (i := 26) rfl))) (by decide +kernel) (t := (.array .int)) (t' := .int) (by decide +kernel) (by decide +kernel)
theorem own_sn_22_24 {Z : State} {a0 : Array Value} (hw : ∀ d ∈ tables_1, d.before a0 Z = true) : Jvm.RoadKit.slotOf Z "com/example/burn_to_balance/burntobalance/io/CsvRecord" "line" "J" ≠ Jvm.RoadKit.slotOf Z "com/example/burn_to_balance/burntobalance/io/CsvRecord" "length" "I" := slot_ne (Or.inl (hw _ (List.mem_of_getElem? (i := 22) rfl))) (Or.inl (hw _ (List.mem_of_getElem? (i := 24) rfl))) (by decide +kernel) (t := .long) (t' := .int) (by decide +kernel) (by decide +kernel)
theorem own_sn_22_26 {Z : State} {a0 : Array Value} (hw : ∀ d ∈ tables_1, d.before a0 Z = true) : Jvm.RoadKit.slotOf Z "com/example/burn_to_balance/burntobalance/io/CsvRecord" "line" "J" ≠ Jvm.RoadKit.slotOf Z "com/example/burn_to_balance/burntobalance/io/CsvRecord" "size" "I" := slot_ne (Or.inl (hw _ (List.mem_of_getElem? (i := 22) rfl))) (Or.inl (hw _ (List.mem_of_getElem? (i := 26) rfl))) (by decide +kernel) (t := .long) (t' := .int) (by decide +kernel) (by decide +kernel)
theorem own_sn_24_26 {Z : State} {a0 : Array Value} (hw : ∀ d ∈ tables_1, d.before a0 Z = true) : Jvm.RoadKit.slotOf Z "com/example/burn_to_balance/burntobalance/io/CsvRecord" "length" "I" ≠ Jvm.RoadKit.slotOf Z "com/example/burn_to_balance/burntobalance/io/CsvRecord" "size" "I" := slot_ne (Or.inl (hw _ (List.mem_of_getElem? (i := 24) rfl))) (Or.inl (hw _ (List.mem_of_getElem? (i := 26) rfl))) (by decide +kernel) (t := .int) (t' := .int) (by decide +kernel) (by decide +kernel)
theorem d3_0 : decode prog_7_method_2_code 0 = .ok (.aload_n 0, 1) := by decide +kernel
theorem d3_1 : decode prog_7_method_2_code 1 = .ok (.lload_n 1, 1) := by decide +kernel
theorem d3_2 : decode prog_7_method_2_code 2 = .ok (.putfield 17, 3) := by decide +kernel
theorem d3_5 : decode prog_7_method_2_code 5 = .ok (.aload_n 0, 1) := by decide +kernel
theorem d3_6 : decode prog_7_method_2_code 6 = .ok (.iconst 0, 1) := by decide +kernel
theorem d3_7 : decode prog_7_method_2_code 7 = .ok (.putfield 21, 3) := by decide +kernel
theorem d3_10 : decode prog_7_method_2_code 10 = .ok (.aload_n 0, 1) := by decide +kernel
theorem d3_11 : decode prog_7_method_2_code 11 = .ok (.iconst 0, 1) := by decide +kernel
theorem d3_12 : decode prog_7_method_2_code 12 = .ok (.putfield 25, 3) := by decide +kernel
theorem d3_15 : decode prog_7_method_2_code 15 = .ok (.return_, 1) := by decide +kernel
theorem ef_3 (m : MethodId) (a3_0 : Addr) (q3_1 : Int64) : entryFrame m #[(.ref a3_0), (.long q3_1)] 3 = mkF m 0 #[.val (.ref a3_0), .val (.long q3_1), .second] [] := by first | (simp [entryFrame, mkF, argsToLocals, Value.category]; done) | rfl
def Q3 (Z : State) (a3_0 : Addr) (q3_1 : Int64) (v3_line : Int64) (b3_chars : Addr) (b3_ends : Addr) (u3_length : Int32) (u3_size : Int32) (h0 : Heap) (n0 : Nat) (v : Option Value) (h : Heap) (L : List Loc) : Prop := v = none ∧ Fr n0 L ∧ Keep h0 h [a3_0] ∧ Exa Z h a3_0 "com/example/burn_to_balance/burntobalance/io/CsvRecord" ∧ Fld Z h a3_0 "com/example/burn_to_balance/burntobalance/io/CsvRecord" "chars" "[C" (.ref b3_chars) ∧ Fld Z h a3_0 "com/example/burn_to_balance/burntobalance/io/CsvRecord" "ends" "[I" (.ref b3_ends) ∧ Fld Z h a3_0 "com/example/burn_to_balance/burntobalance/io/CsvRecord" "line" "J" (.long q3_1) ∧ Fld Z h a3_0 "com/example/burn_to_balance/burntobalance/io/CsvRecord" "length" "I" (.int 0) ∧ Fld Z h a3_0 "com/example/burn_to_balance/burntobalance/io/CsvRecord" "size" "I" (.int 0)
set_option maxRecDepth 65536 in
set_option maxHeartbeats 40000000 in
theorem rm3 (l : Launch) (Z : State) (a0 : Array Value) (hw : ∀ d ∈ tables_1, d.before a0 Z = true) (ws : List Jvm.Cond) (a3_0 : Addr) (q3_1 : Int64) (v3_line : Int64) (b3_chars : Addr) (b3_ends : Addr) (u3_length : Int32) (u3_size : Int32) (h0 : Heap) (n0 : Nat) (Z0 : n0 ≤ h0.size) (F_line_a3_0 : Fld Z h0 a3_0 "com/example/burn_to_balance/burntobalance/io/CsvRecord" "line" "J" (.long v3_line)) (F_chars_a3_0 : Fld Z h0 a3_0 "com/example/burn_to_balance/burntobalance/io/CsvRecord" "chars" "[C" (.ref b3_chars)) (F_ends_a3_0 : Fld Z h0 a3_0 "com/example/burn_to_balance/burntobalance/io/CsvRecord" "ends" "[I" (.ref b3_ends)) (F_length_a3_0 : Fld Z h0 a3_0 "com/example/burn_to_balance/burntobalance/io/CsvRecord" "length" "I" (.int u3_length)) (F_size_a3_0 : Fld Z h0 a3_0 "com/example/burn_to_balance/burntobalance/io/CsvRecord" "size" "I" (.int u3_size)) (E_a3_0 : Exa Z h0 a3_0 "com/example/burn_to_balance/burntobalance/io/CsvRecord") (g_a3_0 : n0 ≤ a3_0) :
    MetFree l (⟨"com/example/burn_to_balance/burntobalance/io/CsvRecord", "start", "(J)V"⟩ : MethodName) (head1 (Jvm.Cond.code (⟨"com/example/burn_to_balance/burntobalance/io/CsvRecord", "start", "(J)V"⟩ : MethodName) prog_7_method_2_code 3 none :: ws) ({ frames := 0, cells := 0, slots := 0, locals := 0 } : Room)) (fun a U => a = #[(.ref a3_0), (.long q3_1)] ∧ Z.Warmed39 U.vm ∧ U.heap = h0) (fun _ _ _ _ _ => True) (fun _ U o U' => ∃ v L, o = .returned v ∧ Q3 Z a3_0 q3_1 v3_line b3_chars b3_ends u3_length u3_size h0 n0 v U'.heap L ∧ FrameEnd U o U' L ({ frames := 0, cells := 0, slots := 0, locals := 0 } : Room).cells ({ frames := 0, cells := 0, slots := 0, locals := 0 } : Room).slots) := by
  refine MetFree.of_bodySF (plainFor_of_name pn_com_example_burn_to_balance_burntobalance_io_CsvRecord) hisR ?_
  intro p e s m args below meth c s₁ Bd hml0 hP hK
  obtain ⟨rfl, hZ, hh⟩ := hP
  have hx := Bd.exec
  have hby := Bd.bytes
  have hlk := Bd.notSynchronized
  have hret := Bd.returns
  have hml : c.maxLocals = 3 := hml0
  have hown : s.vm.findClass "com/example/burn_to_balance/burntobalance/io/CsvRecord" = some m.cls := findClass_of_methodNamed Bd.named
  have hnm := (name_of_methodNamed Bd.named Bd.method).1
  have X0 : Stand p l e ({ frames := 0, cells := 0, slots := 0, locals := 0 } : Room) s m #[(.ref a3_0), (.long q3_1)] below meth c s₁ [] 0 0 := Stand.of_body Bd
  have e0 : s₁.heap = h0 := by rw [← hh, Bd.state]; rfl
  have N0 := Fr.nil n0
  have K0 : Keep h0 h0 [a3_0] := Keep.refl _ _
  show own_G p e below s (Q3 Z a3_0 q3_1 v3_line b3_chars b3_ends u3_length u3_size h0 n0) ({ frames := 0, cells := 0, slots := 0, locals := 0 } : Room).cells ({ frames := 0, cells := 0, slots := 0, locals := 0 } : Room).slots s₁ (entryFrame m #[(.ref a3_0), (.long q3_1)] 3)
  have ww2 := hw _ (List.mem_of_getElem? (i := 2) rfl)
  have ww21 := hw _ (List.mem_of_getElem? (i := 21) rfl)
  have ww22 := hw _ (List.mem_of_getElem? (i := 22) rfl)
  have ww23 := hw _ (List.mem_of_getElem? (i := 23) rfl)
  have ww24 := hw _ (List.mem_of_getElem? (i := 24) rfl)
  have ww25 := hw _ (List.mem_of_getElem? (i := 25) rfl)
  have ww26 := hw _ (List.mem_of_getElem? (i := 26) rfl)
  refine own_cast (ef_3 m a3_0 q3_1) ?_
  refine own_s (g' := (mkF m 1 #[.val (.ref a3_0), .val (.long q3_1), .second] [(.ref a3_0)])) (fun _ k => XS.aloadN X0.here hx rfl (hb hby d3_0) rfl rfl k) ?_
  refine own_s (g' := (mkF m 2 #[.val (.ref a3_0), .val (.long q3_1), .second] [(.long q3_1), (.ref a3_0)])) (fun _ k => XS.lloadN X0.here hx rfl (hb hby d3_1) rfl k) ?_
  obtain ⟨T22, h22, X22, e22, W22, st22⟩ := putF X0 hx hZ hown (host := "") (Or.inl ww21) Via.refl e0 F_line_a3_0 E_a3_0 (Or.inl ww22) ww2 (ty := .long) (by decide +kernel) rfl rfl (g := (mkF m 2 #[.val (.ref a3_0), .val (.long q3_1), .second] [(.long q3_1), (.ref a3_0)])) rfl rfl (hb hby d3_2)
  have f23 := F_line_a3_0.same W22
  have K22 := K0.wr W22 (Or.inl (List.mem_of_getElem? (i := 0) rfl))
  have N22 := Fr.snoc X22 N0 g_a3_0
  refine own_s (g' := (mkF m 5 #[.val (.ref a3_0), .val (.long q3_1), .second] [])) st22 ?_
  refine own_s (g' := (mkF m 6 #[.val (.ref a3_0), .val (.long q3_1), .second] [(.ref a3_0)])) (fun _ k => XS.aloadN X22.here hx rfl (hb hby d3_5) rfl rfl k) ?_
  refine own_s (g' := (mkF m 7 #[.val (.ref a3_0), .val (.long q3_1), .second] [(.int 0), (.ref a3_0)])) (fun _ k => XS.iconst X22.here hx rfl (hb hby d3_6) k) ?_
  have f24 := (E_a3_0.wr W22)
  have f25 := (F_length_a3_0.other W22 (Or.inr (own_sn_24_22 hw)))
  obtain ⟨T26, h26, X26, e26, W26, st26⟩ := putF X22 hx hZ hown (host := "") (Or.inl ww23) Via.refl e22 f25 f24 (Or.inl ww24) ww2 (ty := .int) (by decide +kernel) rfl rfl (g := (mkF m 7 #[.val (.ref a3_0), .val (.long q3_1), .second] [(.int 0), (.ref a3_0)])) rfl rfl (hb hby d3_7)
  have f27 := f25.same W26
  have K26 := K22.wr W26 (Or.inl (List.mem_of_getElem? (i := 0) rfl))
  have N26 := Fr.snoc X26 N22 g_a3_0
  refine own_s (g' := (mkF m 10 #[.val (.ref a3_0), .val (.long q3_1), .second] [])) st26 ?_
  refine own_s (g' := (mkF m 11 #[.val (.ref a3_0), .val (.long q3_1), .second] [(.ref a3_0)])) (fun _ k => XS.aloadN X26.here hx rfl (hb hby d3_10) rfl rfl k) ?_
  refine own_s (g' := (mkF m 12 #[.val (.ref a3_0), .val (.long q3_1), .second] [(.int 0), (.ref a3_0)])) (fun _ k => XS.iconst X26.here hx rfl (hb hby d3_11) k) ?_
  have f28 := (f24.wr W26)
  have f29 := ((F_size_a3_0.other W22 (Or.inr (own_sn_26_22 hw))).other W26 (Or.inr (own_sn_26_24 hw)))
  obtain ⟨T30, h30, X30, e30, W30, st30⟩ := putF X26 hx hZ hown (host := "") (Or.inl ww25) Via.refl e26 f29 f28 (Or.inl ww26) ww2 (ty := .int) (by decide +kernel) rfl rfl (g := (mkF m 12 #[.val (.ref a3_0), .val (.long q3_1), .second] [(.int 0), (.ref a3_0)])) rfl rfl (hb hby d3_12)
  have f31 := f29.same W30
  have K30 := K26.wr W30 (Or.inl (List.mem_of_getElem? (i := 0) rfl))
  have N30 := Fr.snoc X30 N26 g_a3_0
  refine own_s (g' := (mkF m 15 #[.val (.ref a3_0), .val (.long q3_1), .second] [])) st30 ?_
  have f32 := (((F_chars_a3_0.other W22 (Or.inr (own_sn_12_22 hw))).other W26 (Or.inr (own_sn_12_24 hw))).other W30 (Or.inr (own_sn_12_26 hw)))
  have f33 := (((F_ends_a3_0.other W22 (Or.inr (own_sn_15_22 hw))).other W26 (Or.inr (own_sn_15_24 hw))).other W30 (Or.inr (own_sn_15_26 hw)))
  have f34 := (f28.wr W30)
  have f35 := ((f23.other W26 (Or.inr (own_sn_22_24 hw))).other W30 (Or.inr (own_sn_22_26 hw)))
  have f36 := (f27.other W30 (Or.inr (own_sn_24_26 hw)))
  refine own_retV X30 hx hlk hret (hb hby d3_15) (by decide) (by decide) ?_
  show Q3 Z a3_0 q3_1 v3_line b3_chars b3_ends u3_length u3_size h0 n0 _ T30.heap _
  rw [e30]
  exact ⟨rfl, N30, K30, f34, f32, f33, f35, f36, f31⟩
theorem d4_0 : decode prog_7_method_6_code 0 = .ok (.aload_n 0, 1) := by decide +kernel
theorem d4_1 : decode prog_7_method_6_code 1 = .ok (.getfield 17, 3) := by decide +kernel
theorem d4_4 : decode prog_7_method_6_code 4 = .ok (.lreturn, 1) := by decide +kernel
theorem ef_4 (m : MethodId) (a4_0 : Addr) : entryFrame m #[(.ref a4_0)] 1 = mkF m 0 #[.val (.ref a4_0)] [] := by first | (simp [entryFrame, mkF, argsToLocals, Value.category]; done) | rfl
def Q4 (Z : State) (a4_0 : Addr) (v4_line : Int64) (h0 : Heap) (n0 : Nat) (v : Option Value) (h : Heap) (L : List Loc) : Prop := v = some (.long v4_line) ∧ Fr n0 L ∧ h = h0
set_option maxRecDepth 65536 in
set_option maxHeartbeats 40000000 in
theorem rm4 (l : Launch) (Z : State) (a0 : Array Value) (hw : ∀ d ∈ tables_1, d.before a0 Z = true) (ws : List Jvm.Cond) (a4_0 : Addr) (v4_line : Int64) (h0 : Heap) (n0 : Nat) (Z0 : n0 ≤ h0.size) (F_line_a4_0 : Fld Z h0 a4_0 "com/example/burn_to_balance/burntobalance/io/CsvRecord" "line" "J" (.long v4_line)) :
    MetFree l (⟨"com/example/burn_to_balance/burntobalance/io/CsvRecord", "line", "()J"⟩ : MethodName) (head1 (Jvm.Cond.code (⟨"com/example/burn_to_balance/burntobalance/io/CsvRecord", "line", "()J"⟩ : MethodName) prog_7_method_6_code 1 (some .long) :: ws) ({ frames := 0, cells := 0, slots := 0, locals := 0 } : Room)) (fun a U => a = #[(.ref a4_0)] ∧ Z.Warmed39 U.vm ∧ U.heap = h0) (fun _ _ _ _ _ => True) (fun _ U o U' => ∃ v L, o = .returned v ∧ Q4 Z a4_0 v4_line h0 n0 v U'.heap L ∧ FrameEnd U o U' L ({ frames := 0, cells := 0, slots := 0, locals := 0 } : Room).cells ({ frames := 0, cells := 0, slots := 0, locals := 0 } : Room).slots) := by
  refine MetFree.of_bodySF (plainFor_of_name pn_com_example_burn_to_balance_burntobalance_io_CsvRecord) hisR ?_
  intro p e s m args below meth c s₁ Bd hml0 hP hK
  obtain ⟨rfl, hZ, hh⟩ := hP
  have hx := Bd.exec
  have hby := Bd.bytes
  have hlk := Bd.notSynchronized
  have hret := Bd.returns
  have hml : c.maxLocals = 1 := hml0
  have hown : s.vm.findClass "com/example/burn_to_balance/burntobalance/io/CsvRecord" = some m.cls := findClass_of_methodNamed Bd.named
  have hnm := (name_of_methodNamed Bd.named Bd.method).1
  have X0 : Stand p l e ({ frames := 0, cells := 0, slots := 0, locals := 0 } : Room) s m #[(.ref a4_0)] below meth c s₁ [] 0 0 := Stand.of_body Bd
  have e0 : s₁.heap = h0 := by rw [← hh, Bd.state]; rfl
  have N0 := Fr.nil n0
  have K0 : Keep h0 h0 [] := Keep.refl _ _
  show own_G p e below s (Q4 Z a4_0 v4_line h0 n0) ({ frames := 0, cells := 0, slots := 0, locals := 0 } : Room).cells ({ frames := 0, cells := 0, slots := 0, locals := 0 } : Room).slots s₁ (entryFrame m #[(.ref a4_0)] 1)
  have ww21 := hw _ (List.mem_of_getElem? (i := 21) rfl)
  refine own_cast (ef_4 m a4_0) ?_
  refine own_s (g' := (mkF m 1 #[.val (.ref a4_0)] [(.ref a4_0)])) (fun _ k => XS.aloadN X0.here hx rfl (hb hby d4_0) rfl rfl k) ?_
  obtain ⟨T37, X37, e37, st37⟩ := getF X0 hx hZ hown (host := "") (Or.inl ww21) Via.refl e0 F_line_a4_0 (g := (mkF m 1 #[.val (.ref a4_0)] [(.ref a4_0)])) rfl rfl (hb hby d4_1)
  refine own_s (g' := (mkF m 4 #[.val (.ref a4_0)] [(.long v4_line)])) st37 ?_
  refine own_retJ X37 hx hlk hret (hb hby d4_4) (by decide) (by decide) ?_
  show Q4 Z a4_0 v4_line h0 n0 _ T37.heap _
  rw [e37]
  exact ⟨rfl, N0, rfl⟩
theorem d5_0 : decode prog_7_method_7_code 0 = .ok (.aload_n 0, 1) := by decide +kernel
theorem d5_1 : decode prog_7_method_7_code 1 = .ok (.getfield 25, 3) := by decide +kernel
theorem d5_4 : decode prog_7_method_7_code 4 = .ok (.ireturn, 1) := by decide +kernel
theorem ef_5 (m : MethodId) (a5_0 : Addr) : entryFrame m #[(.ref a5_0)] 1 = mkF m 0 #[.val (.ref a5_0)] [] := by first | (simp [entryFrame, mkF, argsToLocals, Value.category]; done) | rfl
def Q5 (Z : State) (a5_0 : Addr) (u5_size : Int32) (h0 : Heap) (n0 : Nat) (v : Option Value) (h : Heap) (L : List Loc) : Prop := v = some (.int u5_size) ∧ Fr n0 L ∧ h = h0
set_option maxRecDepth 65536 in
set_option maxHeartbeats 40000000 in
theorem rm5 (l : Launch) (Z : State) (a0 : Array Value) (hw : ∀ d ∈ tables_1, d.before a0 Z = true) (ws : List Jvm.Cond) (a5_0 : Addr) (u5_size : Int32) (h0 : Heap) (n0 : Nat) (Z0 : n0 ≤ h0.size) (F_size_a5_0 : Fld Z h0 a5_0 "com/example/burn_to_balance/burntobalance/io/CsvRecord" "size" "I" (.int u5_size)) :
    MetFree l (⟨"com/example/burn_to_balance/burntobalance/io/CsvRecord", "size", "()I"⟩ : MethodName) (head1 (Jvm.Cond.code (⟨"com/example/burn_to_balance/burntobalance/io/CsvRecord", "size", "()I"⟩ : MethodName) prog_7_method_7_code 1 (some .int) :: ws) ({ frames := 0, cells := 0, slots := 0, locals := 0 } : Room)) (fun a U => a = #[(.ref a5_0)] ∧ Z.Warmed39 U.vm ∧ U.heap = h0) (fun _ _ _ _ _ => True) (fun _ U o U' => ∃ v L, o = .returned v ∧ Q5 Z a5_0 u5_size h0 n0 v U'.heap L ∧ FrameEnd U o U' L ({ frames := 0, cells := 0, slots := 0, locals := 0 } : Room).cells ({ frames := 0, cells := 0, slots := 0, locals := 0 } : Room).slots) := by
  refine MetFree.of_bodySF (plainFor_of_name pn_com_example_burn_to_balance_burntobalance_io_CsvRecord) hisR ?_
  intro p e s m args below meth c s₁ Bd hml0 hP hK
  obtain ⟨rfl, hZ, hh⟩ := hP
  have hx := Bd.exec
  have hby := Bd.bytes
  have hlk := Bd.notSynchronized
  have hret := Bd.returns
  have hml : c.maxLocals = 1 := hml0
  have hown : s.vm.findClass "com/example/burn_to_balance/burntobalance/io/CsvRecord" = some m.cls := findClass_of_methodNamed Bd.named
  have hnm := (name_of_methodNamed Bd.named Bd.method).1
  have X0 : Stand p l e ({ frames := 0, cells := 0, slots := 0, locals := 0 } : Room) s m #[(.ref a5_0)] below meth c s₁ [] 0 0 := Stand.of_body Bd
  have e0 : s₁.heap = h0 := by rw [← hh, Bd.state]; rfl
  have N0 := Fr.nil n0
  have K0 : Keep h0 h0 [] := Keep.refl _ _
  show own_G p e below s (Q5 Z a5_0 u5_size h0 n0) ({ frames := 0, cells := 0, slots := 0, locals := 0 } : Room).cells ({ frames := 0, cells := 0, slots := 0, locals := 0 } : Room).slots s₁ (entryFrame m #[(.ref a5_0)] 1)
  have ww25 := hw _ (List.mem_of_getElem? (i := 25) rfl)
  refine own_cast (ef_5 m a5_0) ?_
  refine own_s (g' := (mkF m 1 #[.val (.ref a5_0)] [(.ref a5_0)])) (fun _ k => XS.aloadN X0.here hx rfl (hb hby d5_0) rfl rfl k) ?_
  obtain ⟨T38, X38, e38, st38⟩ := getF X0 hx hZ hown (host := "") (Or.inl ww25) Via.refl e0 F_size_a5_0 (g := (mkF m 1 #[.val (.ref a5_0)] [(.ref a5_0)])) rfl rfl (hb hby d5_1)
  refine own_s (g' := (mkF m 4 #[.val (.ref a5_0)] [(.int u5_size)])) st38 ?_
  refine own_retI X38 hx hlk hret (hb hby d5_4) (by decide) (by decide) ?_
  show Q5 Z a5_0 u5_size h0 n0 _ T38.heap _
  rw [e38]
  exact ⟨rfl, N0, rfl⟩
theorem d6_0 : decode prog_7_method_8_code 0 = .ok (.aload_n 0, 1) := by decide +kernel
theorem d6_1 : decode prog_7_method_8_code 1 = .ok (.getfield 21, 3) := by decide +kernel
theorem d6_4 : decode prog_7_method_8_code 4 = .ok (.ifCond .ne 7, 3) := by decide +kernel
theorem d6_7 : decode prog_7_method_8_code 7 = .ok (.iconst 1, 1) := by decide +kernel
theorem d6_8 : decode prog_7_method_8_code 8 = .ok (.goto 4, 3) := by decide +kernel
theorem d6_11 : decode prog_7_method_8_code 11 = .ok (.iconst 0, 1) := by decide +kernel
theorem d6_12 : decode prog_7_method_8_code 12 = .ok (.ireturn, 1) := by decide +kernel
theorem ef_6 (m : MethodId) (a6_0 : Addr) : entryFrame m #[(.ref a6_0)] 1 = mkF m 0 #[.val (.ref a6_0)] [] := by first | (simp [entryFrame, mkF, argsToLocals, Value.category]; done) | rfl
def r6 (u6_length : Int32) : Int32 := (if u6_length = (0 : Int32) then (1 : Int32) else (0 : Int32))
def Q6 (Z : State) (a6_0 : Addr) (u6_length : Int32) (h0 : Heap) (n0 : Nat) (v : Option Value) (h : Heap) (L : List Loc) : Prop := v = some (.int (r6 u6_length)) ∧ Fr n0 L ∧ h = h0
set_option maxRecDepth 65536 in
set_option maxHeartbeats 40000000 in
theorem rm6 (l : Launch) (Z : State) (a0 : Array Value) (hw : ∀ d ∈ tables_1, d.before a0 Z = true) (ws : List Jvm.Cond) (a6_0 : Addr) (u6_length : Int32) (h0 : Heap) (n0 : Nat) (Z0 : n0 ≤ h0.size) (F_length_a6_0 : Fld Z h0 a6_0 "com/example/burn_to_balance/burntobalance/io/CsvRecord" "length" "I" (.int u6_length)) :
    MetFree l (⟨"com/example/burn_to_balance/burntobalance/io/CsvRecord", "isBlank", "()Z"⟩ : MethodName) (head1 (Jvm.Cond.code (⟨"com/example/burn_to_balance/burntobalance/io/CsvRecord", "isBlank", "()Z"⟩ : MethodName) prog_7_method_8_code 1 (some .boolean) :: ws) ({ frames := 0, cells := 0, slots := 0, locals := 0 } : Room)) (fun a U => a = #[(.ref a6_0)] ∧ Z.Warmed39 U.vm ∧ U.heap = h0) (fun _ _ _ _ _ => True) (fun _ U o U' => ∃ v L, o = .returned v ∧ Q6 Z a6_0 u6_length h0 n0 v U'.heap L ∧ FrameEnd U o U' L ({ frames := 0, cells := 0, slots := 0, locals := 0 } : Room).cells ({ frames := 0, cells := 0, slots := 0, locals := 0 } : Room).slots) := by
  refine MetFree.of_bodySF (plainFor_of_name pn_com_example_burn_to_balance_burntobalance_io_CsvRecord) hisR ?_
  intro p e s m args below meth c s₁ Bd hml0 hP hK
  obtain ⟨rfl, hZ, hh⟩ := hP
  have hx := Bd.exec
  have hby := Bd.bytes
  have hlk := Bd.notSynchronized
  have hret := Bd.returns
  have hml : c.maxLocals = 1 := hml0
  have hown : s.vm.findClass "com/example/burn_to_balance/burntobalance/io/CsvRecord" = some m.cls := findClass_of_methodNamed Bd.named
  have hnm := (name_of_methodNamed Bd.named Bd.method).1
  have X0 : Stand p l e ({ frames := 0, cells := 0, slots := 0, locals := 0 } : Room) s m #[(.ref a6_0)] below meth c s₁ [] 0 0 := Stand.of_body Bd
  have e0 : s₁.heap = h0 := by rw [← hh, Bd.state]; rfl
  have N0 := Fr.nil n0
  have K0 : Keep h0 h0 [] := Keep.refl _ _
  show own_G p e below s (Q6 Z a6_0 u6_length h0 n0) ({ frames := 0, cells := 0, slots := 0, locals := 0 } : Room).cells ({ frames := 0, cells := 0, slots := 0, locals := 0 } : Room).slots s₁ (entryFrame m #[(.ref a6_0)] 1)
  have ww23 := hw _ (List.mem_of_getElem? (i := 23) rfl)
  refine own_cast (ef_6 m a6_0) ?_
  refine own_s (g' := (mkF m 1 #[.val (.ref a6_0)] [(.ref a6_0)])) (fun _ k => XS.aloadN X0.here hx rfl (hb hby d6_0) rfl rfl k) ?_
  obtain ⟨T39, X39, e39, st39⟩ := getF X0 hx hZ hown (host := "") (Or.inl ww23) Via.refl e0 F_length_a6_0 (g := (mkF m 1 #[.val (.ref a6_0)] [(.ref a6_0)])) rfl rfl (hb hby d6_1)
  refine own_s (g' := (mkF m 4 #[.val (.ref a6_0)] [(.int u6_length)])) st39 ?_
  by_cases c40 : u6_length = (0 : Int32)
  ·skip
   refine own_s (g' := (mkF m 7 #[.val (.ref a6_0)] [])) (fun _ k => XS.ifNo X39.here hx rfl (hb hby d6_4) rfl ((if0 _ _).trans (teq c40).2) k) ?_
   refine own_s (g' := (mkF m 8 #[.val (.ref a6_0)] [(.int 1)])) (fun _ k => XS.iconst X39.here hx rfl (hb hby d6_7) k) ?_
   refine own_s (g' := (mkF m 12 #[.val (.ref a6_0)] [(.int 1)])) (fun _ k => XS.goto X39.here hx rfl (pc0 := 8) (pc' := 12) rfl (hb hby d6_8) (by decide) (by decide) k) ?_
   refine own_retN X39 hx hlk (t := .boolean) hret (by simp) (hb hby d6_12) (z' := (1 : Int32)) (by decide) (by decide) (by decide) ?_
   show Q6 Z a6_0 u6_length h0 n0 _ T39.heap _
   rw [e39]
   exact ⟨(congrArg (fun z => some (Value.int z)) (show (1 : Int32) = (r6 u6_length) from (Eq.symm (if_pos c40)))), N0, rfl⟩
  ·skip
   refine own_s (g' := (mkF m 11 #[.val (.ref a6_0)] [])) (fun _ k => XS.ifYes X39.here hx rfl (pc0 := 4) (pc' := 11) rfl (hb hby d6_4) rfl ((if0 _ _).trans (feq c40).2) (by decide) (by decide) k) ?_
   refine own_s (g' := (mkF m 12 #[.val (.ref a6_0)] [(.int 0)])) (fun _ k => XS.iconst X39.here hx rfl (hb hby d6_11) k) ?_
   refine own_retN X39 hx hlk (t := .boolean) hret (by simp) (hb hby d6_12) (z' := (0 : Int32)) (by decide) (by decide) (by decide) ?_
   show Q6 Z a6_0 u6_length h0 n0 _ T39.heap _
   rw [e39]
   exact ⟨(congrArg (fun z => some (Value.int z)) (show (0 : Int32) = (r6 u6_length) from (Eq.symm (if_neg c40)))), N0, rfl⟩
theorem d8_0 : decode prog_7_method_14_code 0 = .ok (.aload_n 0, 1) := by decide +kernel
theorem d8_1 : decode prog_7_method_14_code 1 = .ok (.getfield 21, 3) := by decide +kernel
theorem d8_4 : decode prog_7_method_14_code 4 = .ok (.iload_n 1, 1) := by decide +kernel
theorem d8_5 : decode prog_7_method_14_code 5 = .ok (.iadd, 1) := by decide +kernel
theorem d8_6 : decode prog_7_method_14_code 6 = .ok (.aload_n 0, 1) := by decide +kernel
theorem d8_7 : decode prog_7_method_14_code 7 = .ok (.getfield 7, 3) := by decide +kernel
theorem d8_10 : decode prog_7_method_14_code 10 = .ok (.arraylength, 1) := by decide +kernel
theorem d8_11 : decode prog_7_method_14_code 11 = .ok (.if_icmp .le 30, 3) := by decide +kernel
theorem d8_41 : decode prog_7_method_14_code 41 = .ok (.return_, 1) := by decide +kernel
theorem ef_8 (m : MethodId) (a8_0 : Addr) : entryFrame m #[(.ref a8_0), (.int 1)] 2 = mkF m 0 #[.val (.ref a8_0), .val (.int 1)] [] := by first | (simp [entryFrame, mkF, argsToLocals, Value.category]; done) | rfl
def Q8 (Z : State) (a8_0 : Addr) (b8_chars : Addr) (ky : ClassId) (y0 : Int32) (h0 : Heap) (n0 : Nat) (v : Option Value) (h : Heap) (L : List Loc) : Prop := v = none ∧ Fr n0 L ∧ h = h0
set_option maxRecDepth 65536 in
set_option maxHeartbeats 40000000 in
theorem rm8 (l : Launch) (Z : State) (a0 : Array Value) (hw : ∀ d ∈ tables_1, d.before a0 Z = true) (ws : List Jvm.Cond) (a8_0 : Addr) (b8_chars : Addr) (ky : ClassId) (y0 : Int32) (h0 : Heap) (n0 : Nat) (Z0 : n0 ≤ h0.size) (F_length_a8_0 : Fld Z h0 a8_0 "com/example/burn_to_balance/burntobalance/io/CsvRecord" "length" "I" (.int 0)) (F_chars_a8_0 : Fld Z h0 a8_0 "com/example/burn_to_balance/burntobalance/io/CsvRecord" "chars" "[C" (.ref b8_chars)) (V_b8_chars : Arv Z h0 b8_chars ky .char (256 : Int32) [(.int y0)] (.int (0 : Int32))) :
    MetFree l (⟨"com/example/burn_to_balance/burntobalance/io/CsvRecord", "ensureRoom", "(I)V"⟩ : MethodName) (head1 (Jvm.Cond.code (⟨"com/example/burn_to_balance/burntobalance/io/CsvRecord", "ensureRoom", "(I)V"⟩ : MethodName) prog_7_method_14_code 2 none :: ws) ({ frames := 0, cells := 0, slots := 0, locals := 0 } : Room)) (fun a U => a = #[(.ref a8_0), (.int 1)] ∧ Z.Warmed39 U.vm ∧ U.heap = h0) (fun _ _ _ _ _ => True) (fun _ U o U' => ∃ v L, o = .returned v ∧ Q8 Z a8_0 b8_chars ky y0 h0 n0 v U'.heap L ∧ FrameEnd U o U' L ({ frames := 0, cells := 0, slots := 0, locals := 0 } : Room).cells ({ frames := 0, cells := 0, slots := 0, locals := 0 } : Room).slots) := by
  refine MetFree.of_bodySF (plainFor_of_name pn_com_example_burn_to_balance_burntobalance_io_CsvRecord) hisR ?_
  intro p e s m args below meth c s₁ Bd hml0 hP hK
  obtain ⟨rfl, hZ, hh⟩ := hP
  have hx := Bd.exec
  have hby := Bd.bytes
  have hlk := Bd.notSynchronized
  have hret := Bd.returns
  have hml : c.maxLocals = 2 := hml0
  have hown : s.vm.findClass "com/example/burn_to_balance/burntobalance/io/CsvRecord" = some m.cls := findClass_of_methodNamed Bd.named
  have hnm := (name_of_methodNamed Bd.named Bd.method).1
  have X0 : Stand p l e ({ frames := 0, cells := 0, slots := 0, locals := 0 } : Room) s m #[(.ref a8_0), (.int 1)] below meth c s₁ [] 0 0 := Stand.of_body Bd
  have e0 : s₁.heap = h0 := by rw [← hh, Bd.state]; rfl
  have N0 := Fr.nil n0
  have K0 : Keep h0 h0 [] := Keep.refl _ _
  show own_G p e below s (Q8 Z a8_0 b8_chars ky y0 h0 n0) ({ frames := 0, cells := 0, slots := 0, locals := 0 } : Room).cells ({ frames := 0, cells := 0, slots := 0, locals := 0 } : Room).slots s₁ (entryFrame m #[(.ref a8_0), (.int 1)] 2)
  have ww11 := hw _ (List.mem_of_getElem? (i := 11) rfl)
  have ww23 := hw _ (List.mem_of_getElem? (i := 23) rfl)
  refine own_cast (ef_8 m a8_0) ?_
  refine own_s (g' := (mkF m 1 #[.val (.ref a8_0), .val (.int 1)] [(.ref a8_0)])) (fun _ k => XS.aloadN X0.here hx rfl (hb hby d8_0) rfl rfl k) ?_
  obtain ⟨T41, X41, e41, st41⟩ := getF X0 hx hZ hown (host := "") (Or.inl ww23) Via.refl e0 F_length_a8_0 (g := (mkF m 1 #[.val (.ref a8_0), .val (.int 1)] [(.ref a8_0)])) rfl rfl (hb hby d8_1)
  refine own_s (g' := (mkF m 4 #[.val (.ref a8_0), .val (.int 1)] [(.int 0)])) st41 ?_
  refine own_s (g' := (mkF m 5 #[.val (.ref a8_0), .val (.int 1)] [(.int 1), (.int 0)])) (fun _ k => XS.iloadN X41.here hx rfl (hb hby d8_4) rfl k) ?_
  refine own_s (g' := (mkF m 6 #[.val (.ref a8_0), .val (.int 1)] [(.int ((0 : Int32) + (1 : Int32)))])) (fun _ k => XS.iadd X41.here hx rfl (hb hby d8_5) rfl k) ?_
  rw [show ((0 : Int32) + (1 : Int32)) = (1 : Int32) from by decide]
  refine own_s (g' := (mkF m 7 #[.val (.ref a8_0), .val (.int 1)] [(.ref a8_0), (.int 1)])) (fun _ k => XS.aloadN X41.here hx rfl (hb hby d8_6) rfl rfl k) ?_
  obtain ⟨T42, X42, e42, st42⟩ := getF X41 hx hZ hown (host := "") (Or.inl ww11) Via.refl e41 F_chars_a8_0 (g := (mkF m 7 #[.val (.ref a8_0), .val (.int 1)] [(.ref a8_0), (.int 1)])) rfl rfl (hb hby d8_7)
  refine own_s (g' := (mkF m 10 #[.val (.ref a8_0), .val (.int 1)] [(.ref b8_chars), (.int 1)])) st42 ?_
  obtain ⟨cl43, Ar43, -, S43, M43, -, -⟩ := id V_b8_chars
  refine own_s (g' := (mkF m 11 #[.val (.ref a8_0), .val (.int 1)] [(.int 256), (.int 1)])) (fun t k => X42.arraylength hx (by rw [e42]; exact Ar43.1) (State.isArrayOf_alike hZ.alike Ar43.2.1) (g := (mkF m 10 #[.val (.ref a8_0), .val (.int 1)] [(.ref b8_chars), (.int 1)])) rfl rfl (hb hby d8_10) _ (by rw [len_of S43 M43]; exact k)) ?_
  refine own_s (g' := (mkF m 41 #[.val (.ref a8_0), .val (.int 1)] [])) (fun _ k => XS.icmpYes X42.here hx rfl (pc0 := 11) (pc' := 41) rfl (hb hby d8_11) rfl (flt ((by decide) : ¬ (256 : Int32) < (1 : Int32))).2.2.2 (by decide) (by decide) k) ?_
  refine own_retV X42 hx hlk hret (hb hby d8_41) (by decide) (by decide) ?_
  show Q8 Z a8_0 b8_chars ky y0 h0 n0 _ T42.heap _
  rw [e42]
  exact ⟨rfl, N0, rfl⟩
theorem pd__I_V : parseMethodDescriptor "(I)V" = some ⟨[.int], none⟩ := by decide +kernel
theorem d7_0 : decode prog_7_method_3_code 0 = .ok (.aload_n 0, 1) := by decide +kernel
theorem d7_1 : decode prog_7_method_3_code 1 = .ok (.iconst 1, 1) := by decide +kernel
theorem d7_2 : decode prog_7_method_3_code 2 = .ok (.invokevirtual 28, 3) := by decide +kernel
theorem d7_5 : decode prog_7_method_3_code 5 = .ok (.aload_n 0, 1) := by decide +kernel
theorem d7_6 : decode prog_7_method_3_code 6 = .ok (.getfield 7, 3) := by decide +kernel
theorem d7_9 : decode prog_7_method_3_code 9 = .ok (.aload_n 0, 1) := by decide +kernel
theorem d7_10 : decode prog_7_method_3_code 10 = .ok (.dup, 1) := by decide +kernel
theorem d7_11 : decode prog_7_method_3_code 11 = .ok (.getfield 21, 3) := by decide +kernel
theorem d7_14 : decode prog_7_method_3_code 14 = .ok (.dup_x1, 1) := by decide +kernel
theorem d7_15 : decode prog_7_method_3_code 15 = .ok (.iconst 1, 1) := by decide +kernel
theorem d7_16 : decode prog_7_method_3_code 16 = .ok (.iadd, 1) := by decide +kernel
theorem d7_17 : decode prog_7_method_3_code 17 = .ok (.putfield 21, 3) := by decide +kernel
theorem d7_20 : decode prog_7_method_3_code 20 = .ok (.iload_n 1, 1) := by decide +kernel
theorem d7_21 : decode prog_7_method_3_code 21 = .ok (.castore, 1) := by decide +kernel
theorem d7_22 : decode prog_7_method_3_code 22 = .ok (.return_, 1) := by decide +kernel
theorem ef_7 (m : MethodId) (a7_0 : Addr) (p7_1 : Int32) : entryFrame m #[(.ref a7_0), (.int p7_1)] 2 = mkF m 0 #[.val (.ref a7_0), .val (.int p7_1)] [] := by first | (simp [entryFrame, mkF, argsToLocals, Value.category]; done) | rfl
def Q7 (Z : State) (a7_0 : Addr) (p7_1 : Int32) (b7_chars : Addr) (b7_ends : Addr) (v7_line : Int64) (u7_size : Int32) (ky : ClassId) (y0 : Int32) (h0 : Heap) (n0 : Nat) (v : Option Value) (h : Heap) (L : List Loc) : Prop := v = none ∧ Fr n0 L ∧ Keep h0 h [a7_0, b7_chars] ∧ Exa Z h a7_0 "com/example/burn_to_balance/burntobalance/io/CsvRecord" ∧ Fld Z h a7_0 "com/example/burn_to_balance/burntobalance/io/CsvRecord" "chars" "[C" (.ref b7_chars) ∧ Fld Z h a7_0 "com/example/burn_to_balance/burntobalance/io/CsvRecord" "ends" "[I" (.ref b7_ends) ∧ Fld Z h a7_0 "com/example/burn_to_balance/burntobalance/io/CsvRecord" "line" "J" (.long v7_line) ∧ Fld Z h a7_0 "com/example/burn_to_balance/burntobalance/io/CsvRecord" "size" "I" (.int u7_size) ∧ Fld Z h a7_0 "com/example/burn_to_balance/burntobalance/io/CsvRecord" "length" "I" (.int 1) ∧ Arv Z h b7_chars ky .char (256 : Int32) [(.int (nar .char p7_1))] (.int (0 : Int32))
set_option maxRecDepth 65536 in
set_option maxHeartbeats 40000000 in
theorem rm7 (l : Launch) (Z : State) (a0 : Array Value) (hw : ∀ d ∈ tables_1, d.before a0 Z = true) (ws : List Jvm.Cond) (a7_0 : Addr) (p7_1 : Int32) (b7_chars : Addr) (b7_ends : Addr) (v7_line : Int64) (u7_size : Int32) (ky : ClassId) (y0 : Int32) (h0 : Heap) (n0 : Nat) (Z0 : n0 ≤ h0.size) (F_length_a7_0 : Fld Z h0 a7_0 "com/example/burn_to_balance/burntobalance/io/CsvRecord" "length" "I" (.int 0)) (F_chars_a7_0 : Fld Z h0 a7_0 "com/example/burn_to_balance/burntobalance/io/CsvRecord" "chars" "[C" (.ref b7_chars)) (F_ends_a7_0 : Fld Z h0 a7_0 "com/example/burn_to_balance/burntobalance/io/CsvRecord" "ends" "[I" (.ref b7_ends)) (F_line_a7_0 : Fld Z h0 a7_0 "com/example/burn_to_balance/burntobalance/io/CsvRecord" "line" "J" (.long v7_line)) (F_size_a7_0 : Fld Z h0 a7_0 "com/example/burn_to_balance/burntobalance/io/CsvRecord" "size" "I" (.int u7_size)) (E_a7_0 : Exa Z h0 a7_0 "com/example/burn_to_balance/burntobalance/io/CsvRecord") (V_b7_chars : Arv Z h0 b7_chars ky .char (256 : Int32) [(.int y0)] (.int (0 : Int32))) (g_a7_0 : n0 ≤ a7_0) (g_b7_chars : n0 ≤ b7_chars) (ne_b7_chars_a7_0 : b7_chars ≠ a7_0) :
    MetFree l (⟨"com/example/burn_to_balance/burntobalance/io/CsvRecord", "append", "(C)V"⟩ : MethodName) (head1 (Jvm.Cond.code (⟨"com/example/burn_to_balance/burntobalance/io/CsvRecord", "append", "(C)V"⟩ : MethodName) prog_7_method_3_code 2 none :: ws) ({ frames := 1, cells := 0, slots := 0, locals := 13 } : Room)) (fun a U => a = #[(.ref a7_0), (.int p7_1)] ∧ Z.Warmed39 U.vm ∧ U.heap = h0) (fun _ _ _ _ _ => True) (fun _ U o U' => ∃ v L, o = .returned v ∧ Q7 Z a7_0 p7_1 b7_chars b7_ends v7_line u7_size ky y0 h0 n0 v U'.heap L ∧ FrameEnd U o U' L ({ frames := 1, cells := 0, slots := 0, locals := 13 } : Room).cells ({ frames := 1, cells := 0, slots := 0, locals := 13 } : Room).slots) := by
  refine MetFree.of_bodySF (plainFor_of_name pn_com_example_burn_to_balance_burntobalance_io_CsvRecord) hisR ?_
  intro p e s m args below meth c s₁ Bd hml0 hP hK
  obtain ⟨rfl, hZ, hh⟩ := hP
  have hx := Bd.exec
  have hby := Bd.bytes
  have hlk := Bd.notSynchronized
  have hret := Bd.returns
  have hml : c.maxLocals = 2 := hml0
  have hown : s.vm.findClass "com/example/burn_to_balance/burntobalance/io/CsvRecord" = some m.cls := findClass_of_methodNamed Bd.named
  have hnm := (name_of_methodNamed Bd.named Bd.method).1
  have X0 : Stand p l e ({ frames := 1, cells := 0, slots := 0, locals := 13 } : Room) s m #[(.ref a7_0), (.int p7_1)] below meth c s₁ [] 0 0 := Stand.of_body Bd
  have e0 : s₁.heap = h0 := by rw [← hh, Bd.state]; rfl
  have N0 := Fr.nil n0
  have K0 : Keep h0 h0 [a7_0, b7_chars] := Keep.refl _ _
  show own_G p e below s (Q7 Z a7_0 p7_1 b7_chars b7_ends v7_line u7_size ky y0 h0 n0) ({ frames := 1, cells := 0, slots := 0, locals := 13 } : Room).cells ({ frames := 1, cells := 0, slots := 0, locals := 13 } : Room).slots s₁ (entryFrame m #[(.ref a7_0), (.int p7_1)] 2)
  have ww2 := hw _ (List.mem_of_getElem? (i := 2) rfl)
  have ww3 := hw _ (List.mem_of_getElem? (i := 3) rfl)
  have ww11 := hw _ (List.mem_of_getElem? (i := 11) rfl)
  have ww23 := hw _ (List.mem_of_getElem? (i := 23) rfl)
  have ww24 := hw _ (List.mem_of_getElem? (i := 24) rfl)
  have ww47 := hw _ (List.mem_of_getElem? (i := 47) rfl)
  have ww48 := hw _ (List.mem_of_getElem? (i := 48) rfl)
  have ww49 := hw _ (List.mem_of_getElem? (i := 49) rfl)
  have ww50 := hw _ (List.mem_of_getElem? (i := 50) rfl)
  refine own_cast (ef_7 m a7_0 p7_1) ?_
  refine own_s (g' := (mkF m 1 #[.val (.ref a7_0), .val (.int p7_1)] [(.ref a7_0)])) (fun _ k => XS.aloadN X0.here hx rfl (hb hby d7_0) rfl rfl k) ?_
  refine own_s (g' := (mkF m 2 #[.val (.ref a7_0), .val (.int p7_1)] [(.int 1), (.ref a7_0)])) (fun _ k => XS.iconst X0.here hx rfl (hb hby d7_1) k) ?_
  obtain ⟨cq44, q44, q44'⟩ := E_a7_0.cell
  obtain ⟨_, _, ⟨T44, L44, k44, n44⟩, -, X44, ⟨Lc44, hQ44, l44, y44, z44⟩, st44⟩ := X0.privateBack hx (y := (⟨"com/example/burn_to_balance/burntobalance/io/CsvRecord", "ensureRoom", "(I)V"⟩ : MethodName)) hown (mvT hZ ww47) (mvT hZ ww48) (own_selp (mvT hZ ww2) (mvP hZ ww49) (mvT hZ ww48) (by decide)) (Cond.privateMethod_at (mvP hZ ww49 (args := #[]))) (mvT hZ ww50) (by decide) (backOf (W := 0) (rm8 l Z a0 hw [] a7_0 b7_chars ky y0 h0 n0 Z0 F_length_a7_0 F_chars_a7_0 V_b7_chars) hZ ww50 ww3 (by decide) (by decide)) (g := (mkF m 2 #[.val (.ref a7_0), .val (.int p7_1)] [(.int 1), (.ref a7_0)])) rfl (by rw [hml]; rfl) (Steps.refl _) (a := a7_0) (by rw [e0]; exact q44) q44' (argsL := [(.int 1)]) (rest := []) (lenOf pd__I_V rfl) rfl (by show 2 * 0 + _ ≤ _; exact Nat.le_of_eq rfl) (hb hby d7_2) (fun _ _ => ⟨rfl, e0, (by decide : 0 + 0 ≤ _), (by decide : 0 + 0 ≤ _)⟩)
  dsimp only [Pt.U, Pt.locs, Pt.cells, Pt.slots] at X44 l44 y44 z44 st44 hQ44
  subst l44 y44 z44
  obtain ⟨rfl, N44q, eh44⟩ := hQ44
  have N44 := Fr.app N0 N44q
  refine own_trans (g' := (mkF m 5 #[.val (.ref a7_0), .val (.int p7_1)] [])) st44 ?_
  refine own_s (g' := (mkF m 6 #[.val (.ref a7_0), .val (.int p7_1)] [(.ref a7_0)])) (fun _ k => XS.aloadN X44.here hx rfl (hb hby d7_5) rfl rfl k) ?_
  obtain ⟨T45, X45, e45, st45⟩ := getF X44 hx hZ hown (host := "") (Or.inl ww11) Via.refl eh44 F_chars_a7_0 (g := (mkF m 6 #[.val (.ref a7_0), .val (.int p7_1)] [(.ref a7_0)])) rfl rfl (hb hby d7_6)
  refine own_s (g' := (mkF m 9 #[.val (.ref a7_0), .val (.int p7_1)] [(.ref b7_chars)])) st45 ?_
  refine own_s (g' := (mkF m 10 #[.val (.ref a7_0), .val (.int p7_1)] [(.ref a7_0), (.ref b7_chars)])) (fun _ k => XS.aloadN X45.here hx rfl (hb hby d7_9) rfl rfl k) ?_
  refine own_s (g' := (mkF m 11 #[.val (.ref a7_0), .val (.int p7_1)] [(.ref a7_0), (.ref a7_0), (.ref b7_chars)])) (fun _ k => XS.dup X45.here hx rfl (hb hby d7_10) rfl rfl k) ?_
  obtain ⟨T46, X46, e46, st46⟩ := getF X45 hx hZ hown (host := "") (Or.inl ww23) Via.refl e45 F_length_a7_0 (g := (mkF m 11 #[.val (.ref a7_0), .val (.int p7_1)] [(.ref a7_0), (.ref a7_0), (.ref b7_chars)])) rfl rfl (hb hby d7_11)
  refine own_s (g' := (mkF m 14 #[.val (.ref a7_0), .val (.int p7_1)] [(.int 0), (.ref a7_0), (.ref b7_chars)])) st46 ?_
  refine own_s (g' := (mkF m 15 #[.val (.ref a7_0), .val (.int p7_1)] [(.int 0), (.ref a7_0), (.int 0), (.ref b7_chars)])) (fun _ k => XS.dupX1 X46.here hx rfl (hb hby d7_14) rfl rfl rfl k) ?_
  refine own_s (g' := (mkF m 16 #[.val (.ref a7_0), .val (.int p7_1)] [(.int 1), (.int 0), (.ref a7_0), (.int 0), (.ref b7_chars)])) (fun _ k => XS.iconst X46.here hx rfl (hb hby d7_15) k) ?_
  refine own_s (g' := (mkF m 17 #[.val (.ref a7_0), .val (.int p7_1)] [(.int ((0 : Int32) + (1 : Int32))), (.ref a7_0), (.int 0), (.ref b7_chars)])) (fun _ k => XS.iadd X46.here hx rfl (hb hby d7_16) rfl k) ?_
  rw [show ((0 : Int32) + (1 : Int32)) = (1 : Int32) from by decide]
  obtain ⟨T47, h47, X47, e47, W47, st47⟩ := putF X46 hx hZ hown (host := "") (Or.inl ww23) Via.refl e46 F_length_a7_0 E_a7_0 (Or.inl ww24) ww2 (ty := .int) (by decide +kernel) rfl rfl (g := (mkF m 17 #[.val (.ref a7_0), .val (.int p7_1)] [(.int 1), (.ref a7_0), (.int 0), (.ref b7_chars)])) rfl rfl (hb hby d7_17)
  have f48 := F_length_a7_0.same W47
  have K47 := K0.wr W47 (Or.inl (List.mem_of_getElem? (i := 0) rfl))
  have N47 := Fr.snoc X47 N44 g_a7_0
  refine own_s (g' := (mkF m 20 #[.val (.ref a7_0), .val (.int p7_1)] [(.int 0), (.ref b7_chars)])) st47 ?_
  refine own_s (g' := (mkF m 21 #[.val (.ref a7_0), .val (.int p7_1)] [(.int p7_1), (.int 0), (.ref b7_chars)])) (fun _ k => XS.iloadN X47.here hx rfl (hb hby d7_20) rfl k) ?_
  have f49 := (V_b7_chars.other W47 ne_b7_chars_a7_0)
  obtain ⟨cl50, Ar50, q50, S50, M50, H50, G50⟩ := id f49
  obtain ⟨T50, h50, X50, e50, W50, st50⟩ := stC X47 hx hZ e47 Ar50 (j := (0 : Int32)) (inb_of S50 ⟨by decide, by decide⟩) (g := (mkF m 21 #[.val (.ref a7_0), .val (.int p7_1)] [(.int p7_1), (.int 0), (.ref b7_chars)])) rfl rfl (hb hby d7_21)
  have f51 : Arv Z h50 b7_chars ky .char (256 : Int32) [(.int (nar .char p7_1))] (.int (0 : Int32)) := Arv.set Ar50 q50 S50 M50 H50 G50 (fits_nar_char _) W50 0 rfl (Nat.le_of_ble_eq_true rfl)
  have K50 := K47.wr W50 (Or.inl (List.mem_of_getElem? (i := 1) rfl))
  have N50 := Fr.snoc X50 N47 g_b7_chars
  refine own_s (g' := (mkF m 22 #[.val (.ref a7_0), .val (.int p7_1)] [])) st50 ?_
  have f52 := ((F_chars_a7_0.other W47 (Or.inr (own_sn_12_24 hw))).other W50 (Or.inl (Ne.symm ne_b7_chars_a7_0)))
  have f53 := ((F_ends_a7_0.other W47 (Or.inr (own_sn_15_24 hw))).other W50 (Or.inl (Ne.symm ne_b7_chars_a7_0)))
  have f54 := ((F_line_a7_0.other W47 (Or.inr (own_sn_22_24 hw))).other W50 (Or.inl (Ne.symm ne_b7_chars_a7_0)))
  have f55 := ((F_size_a7_0.other W47 (Or.inr (own_sn_26_24 hw))).other W50 (Or.inl (Ne.symm ne_b7_chars_a7_0)))
  have f56 := ((E_a7_0.wr W47).wr W50)
  have f57 := (f48.other W50 (Or.inl (Ne.symm ne_b7_chars_a7_0)))
  refine own_retV X50 hx hlk hret (hb hby d7_22) (by decide) (by decide) ?_
  show Q7 Z a7_0 p7_1 b7_chars b7_ends v7_line u7_size ky y0 h0 n0 _ T50.heap _
  rw [e50]
  exact ⟨rfl, N50, K50, f56, f52, f53, f54, f55, f57, f51⟩
theorem d9_0 : decode prog_7_method_5_code 0 = .ok (.aload_n 0, 1) := by decide +kernel
theorem d9_1 : decode prog_7_method_5_code 1 = .ok (.getfield 25, 3) := by decide +kernel
theorem d9_4 : decode prog_7_method_5_code 4 = .ok (.aload_n 0, 1) := by decide +kernel
theorem d9_5 : decode prog_7_method_5_code 5 = .ok (.getfield 13, 3) := by decide +kernel
theorem d9_8 : decode prog_7_method_5_code 8 = .ok (.arraylength, 1) := by decide +kernel
theorem d9_9 : decode prog_7_method_5_code 9 = .ok (.if_icmp .ne 20, 3) := by decide +kernel
theorem d9_29 : decode prog_7_method_5_code 29 = .ok (.aload_n 0, 1) := by decide +kernel
theorem d9_30 : decode prog_7_method_5_code 30 = .ok (.getfield 13, 3) := by decide +kernel
theorem d9_33 : decode prog_7_method_5_code 33 = .ok (.aload_n 0, 1) := by decide +kernel
theorem d9_34 : decode prog_7_method_5_code 34 = .ok (.dup, 1) := by decide +kernel
theorem d9_35 : decode prog_7_method_5_code 35 = .ok (.getfield 25, 3) := by decide +kernel
theorem d9_38 : decode prog_7_method_5_code 38 = .ok (.dup_x1, 1) := by decide +kernel
theorem d9_39 : decode prog_7_method_5_code 39 = .ok (.iconst 1, 1) := by decide +kernel
theorem d9_40 : decode prog_7_method_5_code 40 = .ok (.iadd, 1) := by decide +kernel
theorem d9_41 : decode prog_7_method_5_code 41 = .ok (.putfield 25, 3) := by decide +kernel
theorem d9_44 : decode prog_7_method_5_code 44 = .ok (.aload_n 0, 1) := by decide +kernel
theorem d9_45 : decode prog_7_method_5_code 45 = .ok (.getfield 21, 3) := by decide +kernel
theorem d9_48 : decode prog_7_method_5_code 48 = .ok (.iastore, 1) := by decide +kernel
theorem d9_49 : decode prog_7_method_5_code 49 = .ok (.return_, 1) := by decide +kernel
theorem ef_9 (m : MethodId) (a9_0 : Addr) : entryFrame m #[(.ref a9_0)] 1 = mkF m 0 #[.val (.ref a9_0)] [] := by first | (simp [entryFrame, mkF, argsToLocals, Value.category]; done) | rfl
def Q9 (Z : State) (a9_0 : Addr) (b9_ends : Addr) (b9_chars : Addr) (v9_line : Int64) (u9_length : Int32) (kz : ClassId) (z0 : Int32) (h0 : Heap) (n0 : Nat) (v : Option Value) (h : Heap) (L : List Loc) : Prop := v = none ∧ Fr n0 L ∧ Keep h0 h [a9_0, b9_ends] ∧ Exa Z h a9_0 "com/example/burn_to_balance/burntobalance/io/CsvRecord" ∧ Fld Z h a9_0 "com/example/burn_to_balance/burntobalance/io/CsvRecord" "ends" "[I" (.ref b9_ends) ∧ Fld Z h a9_0 "com/example/burn_to_balance/burntobalance/io/CsvRecord" "chars" "[C" (.ref b9_chars) ∧ Fld Z h a9_0 "com/example/burn_to_balance/burntobalance/io/CsvRecord" "line" "J" (.long v9_line) ∧ Fld Z h a9_0 "com/example/burn_to_balance/burntobalance/io/CsvRecord" "length" "I" (.int u9_length) ∧ Fld Z h a9_0 "com/example/burn_to_balance/burntobalance/io/CsvRecord" "size" "I" (.int 1) ∧ Arv Z h b9_ends kz .int (16 : Int32) [(.int u9_length)] (.int (0 : Int32))
set_option maxRecDepth 65536 in
set_option maxHeartbeats 40000000 in
theorem rm9 (l : Launch) (Z : State) (a0 : Array Value) (hw : ∀ d ∈ tables_1, d.before a0 Z = true) (ws : List Jvm.Cond) (a9_0 : Addr) (b9_ends : Addr) (b9_chars : Addr) (v9_line : Int64) (u9_length : Int32) (kz : ClassId) (z0 : Int32) (h0 : Heap) (n0 : Nat) (Z0 : n0 ≤ h0.size) (F_size_a9_0 : Fld Z h0 a9_0 "com/example/burn_to_balance/burntobalance/io/CsvRecord" "size" "I" (.int 0)) (F_ends_a9_0 : Fld Z h0 a9_0 "com/example/burn_to_balance/burntobalance/io/CsvRecord" "ends" "[I" (.ref b9_ends)) (F_chars_a9_0 : Fld Z h0 a9_0 "com/example/burn_to_balance/burntobalance/io/CsvRecord" "chars" "[C" (.ref b9_chars)) (F_line_a9_0 : Fld Z h0 a9_0 "com/example/burn_to_balance/burntobalance/io/CsvRecord" "line" "J" (.long v9_line)) (F_length_a9_0 : Fld Z h0 a9_0 "com/example/burn_to_balance/burntobalance/io/CsvRecord" "length" "I" (.int u9_length)) (E_a9_0 : Exa Z h0 a9_0 "com/example/burn_to_balance/burntobalance/io/CsvRecord") (V_b9_ends : Arv Z h0 b9_ends kz .int (16 : Int32) [(.int z0)] (.int (0 : Int32))) (g_a9_0 : n0 ≤ a9_0) (g_b9_ends : n0 ≤ b9_ends) (ne_b9_ends_a9_0 : b9_ends ≠ a9_0) :
    MetFree l (⟨"com/example/burn_to_balance/burntobalance/io/CsvRecord", "endField", "()V"⟩ : MethodName) (head1 (Jvm.Cond.code (⟨"com/example/burn_to_balance/burntobalance/io/CsvRecord", "endField", "()V"⟩ : MethodName) prog_7_method_5_code 1 none :: ws) ({ frames := 0, cells := 0, slots := 0, locals := 0 } : Room)) (fun a U => a = #[(.ref a9_0)] ∧ Z.Warmed39 U.vm ∧ U.heap = h0) (fun _ _ _ _ _ => True) (fun _ U o U' => ∃ v L, o = .returned v ∧ Q9 Z a9_0 b9_ends b9_chars v9_line u9_length kz z0 h0 n0 v U'.heap L ∧ FrameEnd U o U' L ({ frames := 0, cells := 0, slots := 0, locals := 0 } : Room).cells ({ frames := 0, cells := 0, slots := 0, locals := 0 } : Room).slots) := by
  refine MetFree.of_bodySF (plainFor_of_name pn_com_example_burn_to_balance_burntobalance_io_CsvRecord) hisR ?_
  intro p e s m args below meth c s₁ Bd hml0 hP hK
  obtain ⟨rfl, hZ, hh⟩ := hP
  have hx := Bd.exec
  have hby := Bd.bytes
  have hlk := Bd.notSynchronized
  have hret := Bd.returns
  have hml : c.maxLocals = 1 := hml0
  have hown : s.vm.findClass "com/example/burn_to_balance/burntobalance/io/CsvRecord" = some m.cls := findClass_of_methodNamed Bd.named
  have hnm := (name_of_methodNamed Bd.named Bd.method).1
  have X0 : Stand p l e ({ frames := 0, cells := 0, slots := 0, locals := 0 } : Room) s m #[(.ref a9_0)] below meth c s₁ [] 0 0 := Stand.of_body Bd
  have e0 : s₁.heap = h0 := by rw [← hh, Bd.state]; rfl
  have N0 := Fr.nil n0
  have K0 : Keep h0 h0 [a9_0, b9_ends] := Keep.refl _ _
  show own_G p e below s (Q9 Z a9_0 b9_ends b9_chars v9_line u9_length kz z0 h0 n0) ({ frames := 0, cells := 0, slots := 0, locals := 0 } : Room).cells ({ frames := 0, cells := 0, slots := 0, locals := 0 } : Room).slots s₁ (entryFrame m #[(.ref a9_0)] 1)
  have ww2 := hw _ (List.mem_of_getElem? (i := 2) rfl)
  have ww14 := hw _ (List.mem_of_getElem? (i := 14) rfl)
  have ww23 := hw _ (List.mem_of_getElem? (i := 23) rfl)
  have ww25 := hw _ (List.mem_of_getElem? (i := 25) rfl)
  have ww26 := hw _ (List.mem_of_getElem? (i := 26) rfl)
  refine own_cast (ef_9 m a9_0) ?_
  refine own_s (g' := (mkF m 1 #[.val (.ref a9_0)] [(.ref a9_0)])) (fun _ k => XS.aloadN X0.here hx rfl (hb hby d9_0) rfl rfl k) ?_
  obtain ⟨T58, X58, e58, st58⟩ := getF X0 hx hZ hown (host := "") (Or.inl ww25) Via.refl e0 F_size_a9_0 (g := (mkF m 1 #[.val (.ref a9_0)] [(.ref a9_0)])) rfl rfl (hb hby d9_1)
  refine own_s (g' := (mkF m 4 #[.val (.ref a9_0)] [(.int 0)])) st58 ?_
  refine own_s (g' := (mkF m 5 #[.val (.ref a9_0)] [(.ref a9_0), (.int 0)])) (fun _ k => XS.aloadN X58.here hx rfl (hb hby d9_4) rfl rfl k) ?_
  obtain ⟨T59, X59, e59, st59⟩ := getF X58 hx hZ hown (host := "") (Or.inl ww14) Via.refl e58 F_ends_a9_0 (g := (mkF m 5 #[.val (.ref a9_0)] [(.ref a9_0), (.int 0)])) rfl rfl (hb hby d9_5)
  refine own_s (g' := (mkF m 8 #[.val (.ref a9_0)] [(.ref b9_ends), (.int 0)])) st59 ?_
  obtain ⟨cl60, Ar60, -, S60, M60, -, -⟩ := id V_b9_ends
  refine own_s (g' := (mkF m 9 #[.val (.ref a9_0)] [(.int 16), (.int 0)])) (fun t k => X59.arraylength hx (by rw [e59]; exact Ar60.1) (State.isArrayOf_alike hZ.alike Ar60.2.1) (g := (mkF m 8 #[.val (.ref a9_0)] [(.ref b9_ends), (.int 0)])) rfl rfl (hb hby d9_8) _ (by rw [len_of S60 M60]; exact k)) ?_
  refine own_s (g' := (mkF m 29 #[.val (.ref a9_0)] [])) (fun _ k => XS.icmpYes X59.here hx rfl (pc0 := 9) (pc' := 29) rfl (hb hby d9_9) rfl (feq ((by decide) : ¬ (0 : Int32) = (16 : Int32))).2 (by decide) (by decide) k) ?_
  refine own_s (g' := (mkF m 30 #[.val (.ref a9_0)] [(.ref a9_0)])) (fun _ k => XS.aloadN X59.here hx rfl (hb hby d9_29) rfl rfl k) ?_
  obtain ⟨T61, X61, e61, st61⟩ := getF X59 hx hZ hown (host := "") (Or.inl ww14) Via.refl e59 F_ends_a9_0 (g := (mkF m 30 #[.val (.ref a9_0)] [(.ref a9_0)])) rfl rfl (hb hby d9_30)
  refine own_s (g' := (mkF m 33 #[.val (.ref a9_0)] [(.ref b9_ends)])) st61 ?_
  refine own_s (g' := (mkF m 34 #[.val (.ref a9_0)] [(.ref a9_0), (.ref b9_ends)])) (fun _ k => XS.aloadN X61.here hx rfl (hb hby d9_33) rfl rfl k) ?_
  refine own_s (g' := (mkF m 35 #[.val (.ref a9_0)] [(.ref a9_0), (.ref a9_0), (.ref b9_ends)])) (fun _ k => XS.dup X61.here hx rfl (hb hby d9_34) rfl rfl k) ?_
  obtain ⟨T62, X62, e62, st62⟩ := getF X61 hx hZ hown (host := "") (Or.inl ww25) Via.refl e61 F_size_a9_0 (g := (mkF m 35 #[.val (.ref a9_0)] [(.ref a9_0), (.ref a9_0), (.ref b9_ends)])) rfl rfl (hb hby d9_35)
  refine own_s (g' := (mkF m 38 #[.val (.ref a9_0)] [(.int 0), (.ref a9_0), (.ref b9_ends)])) st62 ?_
  refine own_s (g' := (mkF m 39 #[.val (.ref a9_0)] [(.int 0), (.ref a9_0), (.int 0), (.ref b9_ends)])) (fun _ k => XS.dupX1 X62.here hx rfl (hb hby d9_38) rfl rfl rfl k) ?_
  refine own_s (g' := (mkF m 40 #[.val (.ref a9_0)] [(.int 1), (.int 0), (.ref a9_0), (.int 0), (.ref b9_ends)])) (fun _ k => XS.iconst X62.here hx rfl (hb hby d9_39) k) ?_
  refine own_s (g' := (mkF m 41 #[.val (.ref a9_0)] [(.int ((0 : Int32) + (1 : Int32))), (.ref a9_0), (.int 0), (.ref b9_ends)])) (fun _ k => XS.iadd X62.here hx rfl (hb hby d9_40) rfl k) ?_
  rw [show ((0 : Int32) + (1 : Int32)) = (1 : Int32) from by decide]
  obtain ⟨T63, h63, X63, e63, W63, st63⟩ := putF X62 hx hZ hown (host := "") (Or.inl ww25) Via.refl e62 F_size_a9_0 E_a9_0 (Or.inl ww26) ww2 (ty := .int) (by decide +kernel) rfl rfl (g := (mkF m 41 #[.val (.ref a9_0)] [(.int 1), (.ref a9_0), (.int 0), (.ref b9_ends)])) rfl rfl (hb hby d9_41)
  have f64 := F_size_a9_0.same W63
  have K63 := K0.wr W63 (Or.inl (List.mem_of_getElem? (i := 0) rfl))
  have N63 := Fr.snoc X63 N0 g_a9_0
  refine own_s (g' := (mkF m 44 #[.val (.ref a9_0)] [(.int 0), (.ref b9_ends)])) st63 ?_
  refine own_s (g' := (mkF m 45 #[.val (.ref a9_0)] [(.ref a9_0), (.int 0), (.ref b9_ends)])) (fun _ k => XS.aloadN X63.here hx rfl (hb hby d9_44) rfl rfl k) ?_
  have f65 := (F_length_a9_0.other W63 (Or.inr (own_sn_24_26 hw)))
  obtain ⟨T66, X66, e66, st66⟩ := getF X63 hx hZ hown (host := "") (Or.inl ww23) Via.refl e63 f65 (g := (mkF m 45 #[.val (.ref a9_0)] [(.ref a9_0), (.int 0), (.ref b9_ends)])) rfl rfl (hb hby d9_45)
  refine own_s (g' := (mkF m 48 #[.val (.ref a9_0)] [(.int u9_length), (.int 0), (.ref b9_ends)])) st66 ?_
  have f67 := (V_b9_ends.other W63 ne_b9_ends_a9_0)
  obtain ⟨cl68, Ar68, q68, S68, M68, H68, G68⟩ := id f67
  obtain ⟨T68, h68, X68, e68, W68, st68⟩ := stI X66 hx hZ e66 Ar68 (j := (0 : Int32)) (inb_of S68 ⟨by decide, by decide⟩) (g := (mkF m 48 #[.val (.ref a9_0)] [(.int u9_length), (.int 0), (.ref b9_ends)])) rfl rfl (hb hby d9_48)
  have f69 : Arv Z h68 b9_ends kz .int (16 : Int32) [(.int u9_length)] (.int (0 : Int32)) := Arv.set Ar68 q68 S68 M68 H68 G68 rfl W68 0 rfl (Nat.le_of_ble_eq_true rfl)
  have K68 := K63.wr W68 (Or.inl (List.mem_of_getElem? (i := 1) rfl))
  have N68 := Fr.snoc X68 N63 g_b9_ends
  refine own_s (g' := (mkF m 49 #[.val (.ref a9_0)] [])) st68 ?_
  have f70 := ((F_ends_a9_0.other W63 (Or.inr (own_sn_15_26 hw))).other W68 (Or.inl (Ne.symm ne_b9_ends_a9_0)))
  have f71 := ((F_chars_a9_0.other W63 (Or.inr (own_sn_12_26 hw))).other W68 (Or.inl (Ne.symm ne_b9_ends_a9_0)))
  have f72 := ((F_line_a9_0.other W63 (Or.inr (own_sn_22_26 hw))).other W68 (Or.inl (Ne.symm ne_b9_ends_a9_0)))
  have f73 := (f65.other W68 (Or.inl (Ne.symm ne_b9_ends_a9_0)))
  have f74 := ((E_a9_0.wr W63).wr W68)
  have f75 := (f64.other W68 (Or.inl (Ne.symm ne_b9_ends_a9_0)))
  refine own_retV X68 hx hlk hret (hb hby d9_49) (by decide) (by decide) ?_
  show Q9 Z a9_0 b9_ends b9_chars v9_line u9_length kz z0 h0 n0 _ T68.heap _
  rw [e68]
  exact ⟨rfl, N68, K68, f74, f70, f71, f72, f73, f75, f69⟩
theorem d11_0 : decode prog_7_method_13_code 0 = .ok (.iload_n 1, 1) := by decide +kernel
theorem d11_1 : decode prog_7_method_13_code 1 = .ok (.ifCond .ne 7, 3) := by decide +kernel
theorem d11_4 : decode prog_7_method_13_code 4 = .ok (.iconst 0, 1) := by decide +kernel
theorem d11_5 : decode prog_7_method_13_code 5 = .ok (.goto 11, 3) := by decide +kernel
theorem d11_16 : decode prog_7_method_13_code 16 = .ok (.ireturn, 1) := by decide +kernel
theorem ef_11 (m : MethodId) (a11_0 : Addr) : entryFrame m #[(.ref a11_0), (.int 0)] 2 = mkF m 0 #[.val (.ref a11_0), .val (.int 0)] [] := by first | (simp [entryFrame, mkF, argsToLocals, Value.category]; done) | rfl
def Q11 (Z : State) (a11_0 : Addr) (h0 : Heap) (n0 : Nat) (v : Option Value) (h : Heap) (L : List Loc) : Prop := v = some (.int 0) ∧ Fr n0 L ∧ h = h0
set_option maxRecDepth 65536 in
set_option maxHeartbeats 40000000 in
theorem rm11 (l : Launch) (Z : State) (a0 : Array Value) (hw : ∀ d ∈ tables_1, d.before a0 Z = true) (ws : List Jvm.Cond) (a11_0 : Addr) (h0 : Heap) (n0 : Nat) (Z0 : n0 ≤ h0.size) :
    MetFree l (⟨"com/example/burn_to_balance/burntobalance/io/CsvRecord", "start", "(I)I"⟩ : MethodName) (head1 (Jvm.Cond.code (⟨"com/example/burn_to_balance/burntobalance/io/CsvRecord", "start", "(I)I"⟩ : MethodName) prog_7_method_13_code 2 (some .int) :: ws) ({ frames := 0, cells := 0, slots := 0, locals := 0 } : Room)) (fun a U => a = #[(.ref a11_0), (.int 0)] ∧ Z.Warmed39 U.vm ∧ U.heap = h0) (fun _ _ _ _ _ => True) (fun _ U o U' => ∃ v L, o = .returned v ∧ Q11 Z a11_0 h0 n0 v U'.heap L ∧ FrameEnd U o U' L ({ frames := 0, cells := 0, slots := 0, locals := 0 } : Room).cells ({ frames := 0, cells := 0, slots := 0, locals := 0 } : Room).slots) := by
  refine MetFree.of_bodySF (plainFor_of_name pn_com_example_burn_to_balance_burntobalance_io_CsvRecord) hisR ?_
  intro p e s m args below meth c s₁ Bd hml0 hP hK
  obtain ⟨rfl, hZ, hh⟩ := hP
  have hx := Bd.exec
  have hby := Bd.bytes
  have hlk := Bd.notSynchronized
  have hret := Bd.returns
  have hml : c.maxLocals = 2 := hml0
  have hown : s.vm.findClass "com/example/burn_to_balance/burntobalance/io/CsvRecord" = some m.cls := findClass_of_methodNamed Bd.named
  have hnm := (name_of_methodNamed Bd.named Bd.method).1
  have X0 : Stand p l e ({ frames := 0, cells := 0, slots := 0, locals := 0 } : Room) s m #[(.ref a11_0), (.int 0)] below meth c s₁ [] 0 0 := Stand.of_body Bd
  have e0 : s₁.heap = h0 := by rw [← hh, Bd.state]; rfl
  have N0 := Fr.nil n0
  have K0 : Keep h0 h0 [] := Keep.refl _ _
  show own_G p e below s (Q11 Z a11_0 h0 n0) ({ frames := 0, cells := 0, slots := 0, locals := 0 } : Room).cells ({ frames := 0, cells := 0, slots := 0, locals := 0 } : Room).slots s₁ (entryFrame m #[(.ref a11_0), (.int 0)] 2)
  refine own_cast (ef_11 m a11_0) ?_
  refine own_s (g' := (mkF m 1 #[.val (.ref a11_0), .val (.int 0)] [(.int 0)])) (fun _ k => XS.iloadN X0.here hx rfl (hb hby d11_0) rfl k) ?_
  refine own_s (g' := (mkF m 4 #[.val (.ref a11_0), .val (.int 0)] [])) (fun _ k => XS.ifNo X0.here hx rfl (hb hby d11_1) rfl ((if0 _ _).trans (teq ((by decide) : (0 : Int32) = (0 : Int32))).2) k) ?_
  refine own_s (g' := (mkF m 5 #[.val (.ref a11_0), .val (.int 0)] [(.int 0)])) (fun _ k => XS.iconst X0.here hx rfl (hb hby d11_4) k) ?_
  refine own_s (g' := (mkF m 16 #[.val (.ref a11_0), .val (.int 0)] [(.int 0)])) (fun _ k => XS.goto X0.here hx rfl (pc0 := 5) (pc' := 16) rfl (hb hby d11_5) (by decide) (by decide) k) ?_
  refine own_retI X0 hx hlk hret (hb hby d11_16) (by decide) (by decide) ?_
  show Q11 Z a11_0 h0 n0 _ s₁.heap _
  rw [e0]
  exact ⟨rfl, N0, rfl⟩
theorem pd__I_I : parseMethodDescriptor "(I)I" = some ⟨[.int], some .int⟩ := by decide +kernel
theorem d10_0 : decode prog_7_method_10_code 0 = .ok (.aload_n 0, 1) := by decide +kernel
theorem d10_1 : decode prog_7_method_10_code 1 = .ok (.getfield 7, 3) := by decide +kernel
theorem d10_4 : decode prog_7_method_10_code 4 = .ok (.aload_n 0, 1) := by decide +kernel
theorem d10_5 : decode prog_7_method_10_code 5 = .ok (.iload_n 1, 1) := by decide +kernel
theorem d10_6 : decode prog_7_method_10_code 6 = .ok (.invokevirtual 44, 3) := by decide +kernel
theorem d10_9 : decode prog_7_method_10_code 9 = .ok (.iload_n 2, 1) := by decide +kernel
theorem d10_10 : decode prog_7_method_10_code 10 = .ok (.iadd, 1) := by decide +kernel
theorem d10_11 : decode prog_7_method_10_code 11 = .ok (.caload, 1) := by decide +kernel
theorem d10_12 : decode prog_7_method_10_code 12 = .ok (.ireturn, 1) := by decide +kernel
theorem ef_10 (m : MethodId) (a10_0 : Addr) : entryFrame m #[(.ref a10_0), (.int 0), (.int 0)] 3 = mkF m 0 #[.val (.ref a10_0), .val (.int 0), .val (.int 0)] [] := by first | (simp [entryFrame, mkF, argsToLocals, Value.category]; done) | rfl
def r10 (y0 : Int32) : Int32 := (nar .char y0)
def Q10 (Z : State) (a10_0 : Addr) (b10_chars : Addr) (ky : ClassId) (y0 : Int32) (h0 : Heap) (n0 : Nat) (v : Option Value) (h : Heap) (L : List Loc) : Prop := v = some (.int (r10 y0)) ∧ Fr n0 L ∧ h = h0
set_option maxRecDepth 65536 in
set_option maxHeartbeats 40000000 in
theorem rm10 (l : Launch) (Z : State) (a0 : Array Value) (hw : ∀ d ∈ tables_1, d.before a0 Z = true) (ws : List Jvm.Cond) (a10_0 : Addr) (b10_chars : Addr) (ky : ClassId) (y0 : Int32) (h0 : Heap) (n0 : Nat) (Z0 : n0 ≤ h0.size) (F_chars_a10_0 : Fld Z h0 a10_0 "com/example/burn_to_balance/burntobalance/io/CsvRecord" "chars" "[C" (.ref b10_chars)) (E_a10_0 : Exa Z h0 a10_0 "com/example/burn_to_balance/burntobalance/io/CsvRecord") (V_b10_chars : Arv Z h0 b10_chars ky .char (256 : Int32) [(.int y0)] (.int (0 : Int32))) :
    MetFree l (⟨"com/example/burn_to_balance/burntobalance/io/CsvRecord", "charAt", "(II)C"⟩ : MethodName) (head1 (Jvm.Cond.code (⟨"com/example/burn_to_balance/burntobalance/io/CsvRecord", "charAt", "(II)C"⟩ : MethodName) prog_7_method_10_code 3 (some .char) :: ws) ({ frames := 1, cells := 0, slots := 0, locals := 14 } : Room)) (fun a U => a = #[(.ref a10_0), (.int 0), (.int 0)] ∧ Z.Warmed39 U.vm ∧ U.heap = h0) (fun _ _ _ _ _ => True) (fun _ U o U' => ∃ v L, o = .returned v ∧ Q10 Z a10_0 b10_chars ky y0 h0 n0 v U'.heap L ∧ FrameEnd U o U' L ({ frames := 1, cells := 0, slots := 0, locals := 14 } : Room).cells ({ frames := 1, cells := 0, slots := 0, locals := 14 } : Room).slots) := by
  refine MetFree.of_bodySF (plainFor_of_name pn_com_example_burn_to_balance_burntobalance_io_CsvRecord) hisR ?_
  intro p e s m args below meth c s₁ Bd hml0 hP hK
  obtain ⟨rfl, hZ, hh⟩ := hP
  have hx := Bd.exec
  have hby := Bd.bytes
  have hlk := Bd.notSynchronized
  have hret := Bd.returns
  have hml : c.maxLocals = 3 := hml0
  have hown : s.vm.findClass "com/example/burn_to_balance/burntobalance/io/CsvRecord" = some m.cls := findClass_of_methodNamed Bd.named
  have hnm := (name_of_methodNamed Bd.named Bd.method).1
  have X0 : Stand p l e ({ frames := 1, cells := 0, slots := 0, locals := 14 } : Room) s m #[(.ref a10_0), (.int 0), (.int 0)] below meth c s₁ [] 0 0 := Stand.of_body Bd
  have e0 : s₁.heap = h0 := by rw [← hh, Bd.state]; rfl
  have N0 := Fr.nil n0
  have K0 : Keep h0 h0 [] := Keep.refl _ _
  show own_G p e below s (Q10 Z a10_0 b10_chars ky y0 h0 n0) ({ frames := 1, cells := 0, slots := 0, locals := 14 } : Room).cells ({ frames := 1, cells := 0, slots := 0, locals := 14 } : Room).slots s₁ (entryFrame m #[(.ref a10_0), (.int 0), (.int 0)] 3)
  have ww2 := hw _ (List.mem_of_getElem? (i := 2) rfl)
  have ww3 := hw _ (List.mem_of_getElem? (i := 3) rfl)
  have ww11 := hw _ (List.mem_of_getElem? (i := 11) rfl)
  have ww61 := hw _ (List.mem_of_getElem? (i := 61) rfl)
  have ww62 := hw _ (List.mem_of_getElem? (i := 62) rfl)
  have ww63 := hw _ (List.mem_of_getElem? (i := 63) rfl)
  have ww64 := hw _ (List.mem_of_getElem? (i := 64) rfl)
  refine own_cast (ef_10 m a10_0) ?_
  refine own_s (g' := (mkF m 1 #[.val (.ref a10_0), .val (.int 0), .val (.int 0)] [(.ref a10_0)])) (fun _ k => XS.aloadN X0.here hx rfl (hb hby d10_0) rfl rfl k) ?_
  obtain ⟨T76, X76, e76, st76⟩ := getF X0 hx hZ hown (host := "") (Or.inl ww11) Via.refl e0 F_chars_a10_0 (g := (mkF m 1 #[.val (.ref a10_0), .val (.int 0), .val (.int 0)] [(.ref a10_0)])) rfl rfl (hb hby d10_1)
  refine own_s (g' := (mkF m 4 #[.val (.ref a10_0), .val (.int 0), .val (.int 0)] [(.ref b10_chars)])) st76 ?_
  refine own_s (g' := (mkF m 5 #[.val (.ref a10_0), .val (.int 0), .val (.int 0)] [(.ref a10_0), (.ref b10_chars)])) (fun _ k => XS.aloadN X76.here hx rfl (hb hby d10_4) rfl rfl k) ?_
  refine own_s (g' := (mkF m 6 #[.val (.ref a10_0), .val (.int 0), .val (.int 0)] [(.int 0), (.ref a10_0), (.ref b10_chars)])) (fun _ k => XS.iloadN X76.here hx rfl (hb hby d10_5) rfl k) ?_
  obtain ⟨cq77, q77, q77'⟩ := E_a10_0.cell
  obtain ⟨_, _, ⟨T77, L77, k77, n77⟩, -, X77, ⟨Lc77, hQ77, l77, y77, z77⟩, st77⟩ := X76.privateBack hx (y := (⟨"com/example/burn_to_balance/burntobalance/io/CsvRecord", "start", "(I)I"⟩ : MethodName)) hown (mvT hZ ww61) (mvT hZ ww62) (own_selp (mvT hZ ww2) (mvP hZ ww63) (mvT hZ ww62) (by decide)) (Cond.privateMethod_at (mvP hZ ww63 (args := #[]))) (mvT hZ ww64) (by decide) (backOf (W := 1) (rm11 l Z a0 hw [] a10_0 h0 n0 Z0 ) hZ ww64 ww3 (by decide) (by decide)) (g := (mkF m 6 #[.val (.ref a10_0), .val (.int 0), .val (.int 0)] [(.int 0), (.ref a10_0), (.ref b10_chars)])) rfl (by rw [hml]; rfl) (Steps.refl _) (a := a10_0) (by rw [e76]; exact q77) q77' (argsL := [(.int 0)]) (rest := [(.ref b10_chars)]) (lenOf pd__I_I rfl) rfl (by show 2 * 0 + _ ≤ _; exact Nat.le_of_eq rfl) (hb hby d10_6) (fun _ _ => ⟨rfl, e76, (by decide : 0 + 0 ≤ _), (by decide : 0 + 0 ≤ _)⟩)
  dsimp only [Pt.U, Pt.locs, Pt.cells, Pt.slots] at X77 l77 y77 z77 st77 hQ77
  subst l77 y77 z77
  obtain ⟨rfl, N77q, eh77⟩ := hQ77
  have N77 := Fr.app N0 N77q
  refine own_trans (g' := (mkF m 9 #[.val (.ref a10_0), .val (.int 0), .val (.int 0)] [(.int 0), (.ref b10_chars)])) st77 ?_
  refine own_s (g' := (mkF m 10 #[.val (.ref a10_0), .val (.int 0), .val (.int 0)] [(.int 0), (.int 0), (.ref b10_chars)])) (fun _ k => XS.iloadN X77.here hx rfl (hb hby d10_9) rfl k) ?_
  refine own_s (g' := (mkF m 11 #[.val (.ref a10_0), .val (.int 0), .val (.int 0)] [(.int ((0 : Int32) + (0 : Int32))), (.ref b10_chars)])) (fun _ k => XS.iadd X77.here hx rfl (hb hby d10_10) rfl k) ?_
  rw [show ((0 : Int32) + (0 : Int32)) = (0 : Int32) from by decide]
  obtain ⟨cl78, Ar78, -, S78, -, H78, -⟩ := id V_b10_chars
  have in78 := inb_of S78 (j := (0 : Int32)) ⟨by decide, by decide⟩
  refine own_s (g' := (mkF m 12 #[.val (.ref a10_0), .val (.int 0), .val (.int 0)] [(.int y0)])) (X77.caload hx (j := (0 : Int32)) (v := (.int y0)) (by rw [eh77]; exact Ar78.1) (State.isArrayOf_alike hZ.alike Ar78.2.1) Ar78.2.2 in78 (Has.at H78 in78 rfl) (g := (mkF m 11 #[.val (.ref a10_0), .val (.int 0), .val (.int 0)] [(.int 0), (.ref b10_chars)])) rfl rfl (hb hby d10_11)) ?_
  refine own_retN X77 hx hlk (t := .char) hret (by simp) (hb hby d10_12) (z' := (nar .char y0)) rfl (by decide) (by decide) ?_
  show Q10 Z a10_0 b10_chars ky y0 h0 n0 _ T77.heap _
  rw [eh77]
  exact ⟨rfl, N77, rfl⟩
theorem own_i2c2 (x : Int32) : nar .char (nar .char x.toUInt32.toUInt16.toUInt32.toInt32) = x.toUInt32.toUInt16.toUInt32.toInt32 := by
  have k : ∀ y : Int32, 0 ≤ y.toInt → y.toInt < 65536 → nar .char y = y := fun y h0 h1 => by
    show y.toUInt32.toUInt16.toUInt32.toInt32 = y
    have h := c_i2c y
    refine Int32.toInt_inj.mp ?_
    omega
  have h := c_i2c x
  rw [k _ h.2.1 h.2.2, k _ h.2.1 h.2.2]
theorem pd___V : parseMethodDescriptor "()V" = some ⟨[], none⟩ := by decide +kernel
theorem pd__J_V : parseMethodDescriptor "(J)V" = some ⟨[.long], none⟩ := by decide +kernel
theorem pd___J : parseMethodDescriptor "()J" = some ⟨[], some .long⟩ := by decide +kernel
theorem pd___I : parseMethodDescriptor "()I" = some ⟨[], some .int⟩ := by decide +kernel
theorem pd___Z : parseMethodDescriptor "()Z" = some ⟨[], some .boolean⟩ := by decide +kernel
theorem pd__C_V : parseMethodDescriptor "(C)V" = some ⟨[.char], none⟩ := by decide +kernel
theorem pd__II_C : parseMethodDescriptor "(II)C" = some ⟨[.int, .int], some .char⟩ := by decide +kernel
theorem pn_com_example_burn_to_balance_burntobalance_io_CsvRecordStartPinLaw : plainName "com/example/burn_to_balance/burntobalance/io/CsvRecordStartPinLaw" = true := by first | (simp [plainName, overriddenIn]; done) | decide +kernel
theorem ef_0 (m : MethodId) (q0_0 : Int64) (p0_1 : Int32) (p0_2 : Int32) (p0_3 : Int32) : entryFrame m #[(.long q0_0), (.int p0_1), (.int p0_2), (.int p0_3)] maxLocals = mkF m 0 #[.val (.long q0_0), .second, .val (.int p0_1), .val (.int p0_2), .val (.int p0_3), .unset, .unset, .unset, .unset] [] := by first | (simp [entryFrame, mkF, argsToLocals, Value.category, maxLocals]; done) | rfl
def t0_5 (p0_1 : Int32) : Int32 := (p0_1 &&& (65535 : Int32)).toUInt32.toUInt16.toUInt32.toInt32
def t0_12 (p0_2 : Int32) : Int32 := (p0_2 &&& (65535 : Int32)).toUInt32.toUInt16.toUInt32.toInt32
def Q0 (Z : State) (q0_0 : Int64) (p0_1 : Int32) (p0_2 : Int32) (p0_3 : Int32) (h0 : Heap) (n0 : Nat) (v : Option Value) (h : Heap) (L : List Loc) : Prop := v = some (.int (1 : Int32)) ∧ Fr n0 L
set_option maxRecDepth 65536 in
set_option maxHeartbeats 40000000 in
theorem rm0 (l : Launch) (Z : State) (a0 : Array Value) (hw : ∀ d ∈ tables_1, d.before a0 Z = true) (ws : List Jvm.Cond) (q0_0 : Int64) (p0_1 : Int32) (p0_2 : Int32) (p0_3 : Int32) (h0 : Heap) (n0 : Nat) (Z0 : n0 ≤ h0.size) :
    MetFree l x (head1 (Jvm.Cond.code x code maxLocals ret :: ws) room_1) (fun a U => a = #[(.long q0_0), (.int p0_1), (.int p0_2), (.int p0_3)] ∧ Z.Warmed39 U.vm ∧ U.heap = h0) (fun _ _ _ _ _ => True) (fun _ U o U' => ∃ v L, o = .returned v ∧ Q0 Z q0_0 p0_1 p0_2 p0_3 h0 n0 v U'.heap L ∧ FrameEnd U o U' L 16 640) := by
  refine MetFree.of_bodySF (plainFor_of_name pn_com_example_burn_to_balance_burntobalance_io_CsvRecordStartPinLaw) hisR ?_
  intro p e s m args below meth c s₁ Bd hml0 hP hK
  obtain ⟨rfl, hZ, hh⟩ := hP
  have hx := Bd.exec
  have hby := Bd.bytes
  have hlk := Bd.notSynchronized
  have hret := Bd.returns
  have hml : c.maxLocals = 9 := hml0
  have hown : s.vm.findClass "com/example/burn_to_balance/burntobalance/io/CsvRecordStartPinLaw" = some m.cls := findClass_of_methodNamed Bd.named
  have hnm := (name_of_methodNamed Bd.named Bd.method).1
  have X0 : Stand p l e room_1 s m #[(.long q0_0), (.int p0_1), (.int p0_2), (.int p0_3)] below meth c s₁ [] 0 0 := Stand.of_body Bd
  have e0 : s₁.heap = h0 := by rw [← hh, Bd.state]; rfl
  have N0 := Fr.nil n0
  have K0 : Keep h0 h0 [] := Keep.refl _ _
  show own_G p e below s (Q0 Z q0_0 p0_1 p0_2 p0_3 h0 n0) 16 640 s₁ (entryFrame m #[(.long q0_0), (.int p0_1), (.int p0_2), (.int p0_3)] maxLocals)
  have ww0 := hw _ (List.mem_of_getElem? (i := 0) rfl)
  have ww1 := hw _ (List.mem_of_getElem? (i := 1) rfl)
  have ww2 := hw _ (List.mem_of_getElem? (i := 2) rfl)
  have ww3 := hw _ (List.mem_of_getElem? (i := 3) rfl)
  have ww4 := hw _ (List.mem_of_getElem? (i := 4) rfl)
  have ww5 := hw _ (List.mem_of_getElem? (i := 5) rfl)
  have ww6 := hw _ (List.mem_of_getElem? (i := 6) rfl)
  have ww12 := hw _ (List.mem_of_getElem? (i := 12) rfl)
  have ww15 := hw _ (List.mem_of_getElem? (i := 15) rfl)
  have ww16 := hw _ (List.mem_of_getElem? (i := 16) rfl)
  have ww17 := hw _ (List.mem_of_getElem? (i := 17) rfl)
  have ww18 := hw _ (List.mem_of_getElem? (i := 18) rfl)
  have ww19 := hw _ (List.mem_of_getElem? (i := 19) rfl)
  have ww20 := hw _ (List.mem_of_getElem? (i := 20) rfl)
  have ww22 := hw _ (List.mem_of_getElem? (i := 22) rfl)
  have ww24 := hw _ (List.mem_of_getElem? (i := 24) rfl)
  have ww26 := hw _ (List.mem_of_getElem? (i := 26) rfl)
  have ww27 := hw _ (List.mem_of_getElem? (i := 27) rfl)
  have ww28 := hw _ (List.mem_of_getElem? (i := 28) rfl)
  have ww29 := hw _ (List.mem_of_getElem? (i := 29) rfl)
  have ww30 := hw _ (List.mem_of_getElem? (i := 30) rfl)
  have ww31 := hw _ (List.mem_of_getElem? (i := 31) rfl)
  have ww32 := hw _ (List.mem_of_getElem? (i := 32) rfl)
  have ww33 := hw _ (List.mem_of_getElem? (i := 33) rfl)
  have ww34 := hw _ (List.mem_of_getElem? (i := 34) rfl)
  have ww35 := hw _ (List.mem_of_getElem? (i := 35) rfl)
  have ww36 := hw _ (List.mem_of_getElem? (i := 36) rfl)
  have ww37 := hw _ (List.mem_of_getElem? (i := 37) rfl)
  have ww38 := hw _ (List.mem_of_getElem? (i := 38) rfl)
  have ww39 := hw _ (List.mem_of_getElem? (i := 39) rfl)
  have ww40 := hw _ (List.mem_of_getElem? (i := 40) rfl)
  have ww41 := hw _ (List.mem_of_getElem? (i := 41) rfl)
  have ww42 := hw _ (List.mem_of_getElem? (i := 42) rfl)
  have ww43 := hw _ (List.mem_of_getElem? (i := 43) rfl)
  have ww44 := hw _ (List.mem_of_getElem? (i := 44) rfl)
  have ww45 := hw _ (List.mem_of_getElem? (i := 45) rfl)
  have ww46 := hw _ (List.mem_of_getElem? (i := 46) rfl)
  have ww51 := hw _ (List.mem_of_getElem? (i := 51) rfl)
  have ww52 := hw _ (List.mem_of_getElem? (i := 52) rfl)
  have ww53 := hw _ (List.mem_of_getElem? (i := 53) rfl)
  have ww54 := hw _ (List.mem_of_getElem? (i := 54) rfl)
  have ww55 := hw _ (List.mem_of_getElem? (i := 55) rfl)
  have ww56 := hw _ (List.mem_of_getElem? (i := 56) rfl)
  have ww57 := hw _ (List.mem_of_getElem? (i := 57) rfl)
  have ww58 := hw _ (List.mem_of_getElem? (i := 58) rfl)
  have ww59 := hw _ (List.mem_of_getElem? (i := 59) rfl)
  have ww60 := hw _ (List.mem_of_getElem? (i := 60) rfl)
  refine own_cast (ef_0 m q0_0 p0_1 p0_2 p0_3) ?_
  refine own_s (g' := (mkF m 1 #[.val (.long q0_0), .second, .val (.int p0_1), .val (.int p0_2), .val (.int p0_3), .unset, .unset, .unset, .unset] [(.int p0_1)])) (fun _ k => XS.iloadN X0.here hx rfl (hb hby at_0) rfl k) ?_
  refine own_s (g' := (mkF m 3 #[.val (.long q0_0), .second, .val (.int p0_1), .val (.int p0_2), .val (.int p0_3), .unset, .unset, .unset, .unset] [(.int 65535), (.int p0_1)])) (X0.ldcInt hx hown (mvT hZ ww0) (g := (mkF m 1 #[.val (.long q0_0), .second, .val (.int p0_1), .val (.int p0_2), .val (.int p0_3), .unset, .unset, .unset, .unset] [(.int p0_1)])) rfl (hb hby at_1)) ?_
  refine own_s (g' := (mkF m 4 #[.val (.long q0_0), .second, .val (.int p0_1), .val (.int p0_2), .val (.int p0_3), .unset, .unset, .unset, .unset] [(.int (p0_1 &&& (65535 : Int32)))])) (fun _ k => XS.iand X0.here hx rfl (hb hby at_3) rfl k) ?_
  refine own_s (g' := (mkF m 5 #[.val (.long q0_0), .second, .val (.int p0_1), .val (.int p0_2), .val (.int p0_3), .unset, .unset, .unset, .unset] [(.int (p0_1 &&& (65535 : Int32)).toUInt32.toUInt16.toUInt32.toInt32)])) (fun _ k => XS.i2c X0.here hx rfl (hb hby at_4) rfl k) ?_
  refine own_s (g' := (mkF m 7 #[.val (.long q0_0), .second, .val (.int p0_1), .val (.int p0_2), .val (.int p0_3), .val (.int (t0_5 p0_1)), .unset, .unset, .unset] [])) (fun _ k => XS.istore X0.here hx rfl (hb hby at_5) rfl (l' := #[.val (.long q0_0), .second, .val (.int p0_1), .val (.int p0_2), .val (.int p0_3), .val (.int (t0_5 p0_1)), .unset, .unset, .unset]) rfl k) ?_
  refine own_s (g' := (mkF m 8 #[.val (.long q0_0), .second, .val (.int p0_1), .val (.int p0_2), .val (.int p0_3), .val (.int (t0_5 p0_1)), .unset, .unset, .unset] [(.int p0_2)])) (fun _ k => XS.iloadN X0.here hx rfl (hb hby at_7) rfl k) ?_
  refine own_s (g' := (mkF m 10 #[.val (.long q0_0), .second, .val (.int p0_1), .val (.int p0_2), .val (.int p0_3), .val (.int (t0_5 p0_1)), .unset, .unset, .unset] [(.int 65535), (.int p0_2)])) (X0.ldcInt hx hown (mvT hZ ww0) (g := (mkF m 8 #[.val (.long q0_0), .second, .val (.int p0_1), .val (.int p0_2), .val (.int p0_3), .val (.int (t0_5 p0_1)), .unset, .unset, .unset] [(.int p0_2)])) rfl (hb hby at_8)) ?_
  refine own_s (g' := (mkF m 11 #[.val (.long q0_0), .second, .val (.int p0_1), .val (.int p0_2), .val (.int p0_3), .val (.int (t0_5 p0_1)), .unset, .unset, .unset] [(.int (p0_2 &&& (65535 : Int32)))])) (fun _ k => XS.iand X0.here hx rfl (hb hby at_10) rfl k) ?_
  refine own_s (g' := (mkF m 12 #[.val (.long q0_0), .second, .val (.int p0_1), .val (.int p0_2), .val (.int p0_3), .val (.int (t0_5 p0_1)), .unset, .unset, .unset] [(.int (p0_2 &&& (65535 : Int32)).toUInt32.toUInt16.toUInt32.toInt32)])) (fun _ k => XS.i2c X0.here hx rfl (hb hby at_11) rfl k) ?_
  refine own_s (g' := (mkF m 14 #[.val (.long q0_0), .second, .val (.int p0_1), .val (.int p0_2), .val (.int p0_3), .val (.int (t0_5 p0_1)), .val (.int (t0_12 p0_2)), .unset, .unset] [])) (fun _ k => XS.istore X0.here hx rfl (hb hby at_12) rfl (l' := #[.val (.long q0_0), .second, .val (.int p0_1), .val (.int p0_2), .val (.int p0_3), .val (.int (t0_5 p0_1)), .val (.int (t0_12 p0_2)), .unset, .unset]) rfl k) ?_
  obtain ⟨T79, h79, X79, e79, E79, A79, D79, -, st79⟩ := newO X0 hx hZ hown ww1 ww2 ww3 e0 (g := (mkF m 14 #[.val (.long q0_0), .second, .val (.int p0_1), .val (.int p0_2), .val (.int p0_3), .val (.int (t0_5 p0_1)), .val (.int (t0_12 p0_2)), .unset, .unset] [])) rfl (hb hby at_14) (by decide) (by decide)
  obtain ⟨b79, ga79⟩ : ∃ z, z = h0.size := ⟨_, rfl⟩
  rw [← ga79] at A79 D79 st79
  have g_b79 := Nat.le_trans Z0 (Nat.le_of_eq ga79.symm)
  have sz_b79 := Nat.le_trans K0.1 (Nat.le_of_eq ga79.symm)
  have f79_chars : Fld Z h79 b79 "com/example/burn_to_balance/burntobalance/io/CsvRecord" "chars" "[C" .null := D79 (Or.inl ww12) (ty := (.array .char)) (by decide +kernel)
  have f79_ends : Fld Z h79 b79 "com/example/burn_to_balance/burntobalance/io/CsvRecord" "ends" "[I" .null := D79 (Or.inl ww15) (ty := (.array .int)) (by decide +kernel)
  have f79_line : Fld Z h79 b79 "com/example/burn_to_balance/burntobalance/io/CsvRecord" "line" "J" (.long 0) := D79 (Or.inl ww22) (ty := .long) (by decide +kernel)
  have f79_length : Fld Z h79 b79 "com/example/burn_to_balance/burntobalance/io/CsvRecord" "length" "I" (.int 0) := D79 (Or.inl ww24) (ty := .int) (by decide +kernel)
  have f79_size : Fld Z h79 b79 "com/example/burn_to_balance/burntobalance/io/CsvRecord" "size" "I" (.int 0) := D79 (Or.inl ww26) (ty := .int) (by decide +kernel)
  have K79 := K0.ext E79
  refine own_s (g' := (mkF m 17 #[.val (.long q0_0), .second, .val (.int p0_1), .val (.int p0_2), .val (.int p0_3), .val (.int (t0_5 p0_1)), .val (.int (t0_12 p0_2)), .unset, .unset] [(.ref b79)])) st79 ?_
  refine own_s (g' := (mkF m 18 #[.val (.long q0_0), .second, .val (.int p0_1), .val (.int p0_2), .val (.int p0_3), .val (.int (t0_5 p0_1)), .val (.int (t0_12 p0_2)), .unset, .unset] [(.ref b79), (.ref b79)])) (fun _ k => XS.dup X79.here hx rfl (hb hby at_17) rfl rfl k) ?_
  obtain ⟨_, _, ⟨T80, L80, k80, n80⟩, -, X80, ⟨Lc80, hQ80, l80, y80, z80⟩, st80⟩ := X79.specialBack hx (y := (⟨"com/example/burn_to_balance/burntobalance/io/CsvRecord", "<init>", "()V"⟩ : MethodName)) rfl hown (mvT hZ ww4) (mvT hZ ww5) (mvT hZ ww6) (by decide) (backOf (W := 1) (rm1 l Z a0 hw [] b79 (0 : Int64) (0 : Int32) (0 : Int32) h79 n0 (Nat.le_trans Z0 K79.1) f79_chars f79_ends f79_line f79_length f79_size A79 g_b79) hZ ww6 ww3 (by decide) (by decide)) (g := (mkF m 18 #[.val (.long q0_0), .second, .val (.int p0_1), .val (.int p0_2), .val (.int p0_3), .val (.int (t0_5 p0_1)), .val (.int (t0_12 p0_2)), .unset, .unset] [(.ref b79), (.ref b79)])) rfl (by rw [hml]; rfl) (Steps.refl _) (a := b79) (argsL := []) (rest := [(.ref b79)]) (lenOf pd___V rfl) rfl (by show 2 * 0 + _ ≤ _; exact Nat.le_of_eq rfl) (hb hby at_18) (fun _ _ => ⟨rfl, e79, (by decide : 1 + 2 ≤ _), (by decide : 5 + 272 ≤ _)⟩)
  dsimp only [Pt.U, Pt.locs, Pt.cells, Pt.slots] at X80 l80 y80 z80 st80 hQ80
  subst l80 y80 z80
  obtain ⟨bf0_80, bf1_80, kf0_80, kf1_80, hs_bf0_80, hs_bf1_80, ne_bf0_80_bf1_80, rfl, N80q, K80q, f81, f82, f83, f84, f85, f86, f87, f88⟩ := hQ80
  have g_bf0_80 := Nat.le_trans (Nat.le_trans Z0 K79.1) hs_bf0_80
  have sz_bf0_80 := Nat.le_trans K79.1 hs_bf0_80
  have g_bf1_80 := Nat.le_trans (Nat.le_trans Z0 K79.1) hs_bf1_80
  have sz_bf1_80 := Nat.le_trans K79.1 hs_bf1_80
  have K80 := K79.trans K80q (allS (Or.inr sz_b79) all0)
  have N80 := Fr.app N0 N80q
  refine own_trans (g' := (mkF m 21 #[.val (.long q0_0), .second, .val (.int p0_1), .val (.int p0_2), .val (.int p0_3), .val (.int (t0_5 p0_1)), .val (.int (t0_12 p0_2)), .unset, .unset] [(.ref b79)])) st80 ?_
  refine own_s (g' := (mkF m 23 #[.val (.long q0_0), .second, .val (.int p0_1), .val (.int p0_2), .val (.int p0_3), .val (.int (t0_5 p0_1)), .val (.int (t0_12 p0_2)), .val (.ref b79), .unset] [])) (fun _ k => XS.astore X80.here hx rfl (hb hby at_21) rfl rfl (l' := #[.val (.long q0_0), .second, .val (.int p0_1), .val (.int p0_2), .val (.int p0_3), .val (.int (t0_5 p0_1)), .val (.int (t0_12 p0_2)), .val (.ref b79), .unset]) rfl k) ?_
  refine own_s (g' := (mkF m 25 #[.val (.long q0_0), .second, .val (.int p0_1), .val (.int p0_2), .val (.int p0_3), .val (.int (t0_5 p0_1)), .val (.int (t0_12 p0_2)), .val (.ref b79), .unset] [(.int p0_3)])) (fun _ k => XS.iload X80.here hx rfl (hb hby at_23) rfl k) ?_
  refine own_s (g' := (mkF m 26 #[.val (.long q0_0), .second, .val (.int p0_1), .val (.int p0_2), .val (.int p0_3), .val (.int (t0_5 p0_1)), .val (.int (t0_12 p0_2)), .val (.ref b79), .unset] [(.int 1), (.int p0_3)])) (fun _ k => XS.iconst X80.here hx rfl (hb hby at_25) k) ?_
  refine own_s (g' := (mkF m 27 #[.val (.long q0_0), .second, .val (.int p0_1), .val (.int p0_2), .val (.int p0_3), .val (.int (t0_5 p0_1)), .val (.int (t0_12 p0_2)), .val (.ref b79), .unset] [(.int (p0_3 &&& (1 : Int32)))])) (fun _ k => XS.iand X80.here hx rfl (hb hby at_26) rfl k) ?_
  by_cases c89 : (p0_3 &&& (1 : Int32)) = (0 : Int32)
  ·skip
   refine own_s (g' := (mkF m 37 #[.val (.long q0_0), .second, .val (.int p0_1), .val (.int p0_2), .val (.int p0_3), .val (.int (t0_5 p0_1)), .val (.int (t0_12 p0_2)), .val (.ref b79), .unset] [])) (fun _ k => XS.ifYes X80.here hx rfl (pc0 := 27) (pc' := 37) rfl (hb hby at_27) rfl ((if0 _ _).trans (teq c89).1) (by decide) (by decide) k) ?_
   refine own_s (g' := (mkF m 39 #[.val (.long q0_0), .second, .val (.int p0_1), .val (.int p0_2), .val (.int p0_3), .val (.int (t0_5 p0_1)), .val (.int (t0_12 p0_2)), .val (.ref b79), .unset] [(.int p0_3)])) (fun _ k => XS.iload X80.here hx rfl (hb hby at_37) rfl k) ?_
   refine own_s (g' := (mkF m 40 #[.val (.long q0_0), .second, .val (.int p0_1), .val (.int p0_2), .val (.int p0_3), .val (.int (t0_5 p0_1)), .val (.int (t0_12 p0_2)), .val (.ref b79), .unset] [(.int 2), (.int p0_3)])) (fun _ k => XS.iconst X80.here hx rfl (hb hby at_39) k) ?_
   refine own_s (g' := (mkF m 41 #[.val (.long q0_0), .second, .val (.int p0_1), .val (.int p0_2), .val (.int p0_3), .val (.int (t0_5 p0_1)), .val (.int (t0_12 p0_2)), .val (.ref b79), .unset] [(.int (p0_3 &&& (2 : Int32)))])) (fun _ k => XS.iand X80.here hx rfl (hb hby at_40) rfl k) ?_
   by_cases c90 : (p0_3 &&& (2 : Int32)) = (0 : Int32)
   ·skip
    refine own_s (g' := (mkF m 49 #[.val (.long q0_0), .second, .val (.int p0_1), .val (.int p0_2), .val (.int p0_3), .val (.int (t0_5 p0_1)), .val (.int (t0_12 p0_2)), .val (.ref b79), .unset] [])) (fun _ k => XS.ifYes X80.here hx rfl (pc0 := 41) (pc' := 49) rfl (hb hby at_41) rfl ((if0 _ _).trans (teq c90).1) (by decide) (by decide) k) ?_
    refine own_s (g' := (mkF m 51 #[.val (.long q0_0), .second, .val (.int p0_1), .val (.int p0_2), .val (.int p0_3), .val (.int (t0_5 p0_1)), .val (.int (t0_12 p0_2)), .val (.ref b79), .unset] [(.ref b79)])) (fun _ k => XS.aload X80.here hx rfl (hb hby at_49) rfl rfl k) ?_
    refine own_s (g' := (mkF m 52 #[.val (.long q0_0), .second, .val (.int p0_1), .val (.int p0_2), .val (.int p0_3), .val (.int (t0_5 p0_1)), .val (.int (t0_12 p0_2)), .val (.ref b79), .unset] [(.long q0_0), (.ref b79)])) (fun _ k => XS.lloadN X80.here hx rfl (hb hby at_51) rfl k) ?_
    obtain ⟨cq91, kq91, q91a, q91b, q91c⟩ := isOf hZ rfl f83
    obtain ⟨_, _, ⟨T91, L91, k91, n91⟩, -, X91, ⟨Lc91, hQ91, l91, y91, z91⟩, st91⟩ := X80.virtualBack hx (y := (⟨"com/example/burn_to_balance/burntobalance/io/CsvRecord", "start", "(J)V"⟩ : MethodName)) (z := (⟨"com/example/burn_to_balance/burntobalance/io/CsvRecord", "start", "(J)V"⟩ : MethodName)) hown (mvT hZ ww16) (mvT hZ ww17) (notFace_of_selects (args := #[]) (mvT hZ ww19)) (mvT hZ ww19) (mvT hZ ww18) (by decide) (backOf (W := 0) (rm3 l Z a0 hw [] b79 q0_0 (0 : Int64) bf0_80 bf1_80 (0 : Int32) (0 : Int32) T80.heap n0 (Nat.le_trans Z0 K80.1) f84 f87 f88 f85 f86 f83 g_b79) hZ ww20 ww3 (by decide) (by decide)) q91a q91c (g := (mkF m 52 #[.val (.long q0_0), .second, .val (.int p0_1), .val (.int p0_2), .val (.int p0_3), .val (.int (t0_5 p0_1)), .val (.int (t0_12 p0_2)), .val (.ref b79), .unset] [(.long q0_0), (.ref b79)])) rfl (by rw [hml]; rfl) (Steps.refl _) (argsL := [(.long q0_0)]) (rest := []) (lenOf pd__J_V rfl) rfl (by show 2 * 0 + _ ≤ _; exact Nat.le_of_eq rfl) (hb hby at_52) (fun _ _ => ⟨rfl, rfl, (by decide : 3 + 0 ≤ _), (by decide : 277 + 0 ≤ _)⟩)
    dsimp only [Pt.U, Pt.locs, Pt.cells, Pt.slots] at X91 l91 y91 z91 st91 hQ91
    subst l91 y91 z91
    obtain ⟨rfl, N91q, K91q, f92, f93, f94, f95, f96, f97⟩ := hQ91
    have K91 := K80.trans K91q (allS (Or.inr sz_b79) all0)
    have N91 := Fr.app N80 N91q
    refine own_trans (g' := (mkF m 55 #[.val (.long q0_0), .second, .val (.int p0_1), .val (.int p0_2), .val (.int p0_3), .val (.int (t0_5 p0_1)), .val (.int (t0_12 p0_2)), .val (.ref b79), .unset] [])) st91 ?_
    refine own_s (g' := (mkF m 57 #[.val (.long q0_0), .second, .val (.int p0_1), .val (.int p0_2), .val (.int p0_3), .val (.int (t0_5 p0_1)), .val (.int (t0_12 p0_2)), .val (.ref b79), .unset] [(.ref b79)])) (fun _ k => XS.aload X91.here hx rfl (hb hby at_55) rfl rfl k) ?_
    obtain ⟨cq98, kq98, q98a, q98b, q98c⟩ := isOf hZ rfl f92
    obtain ⟨_, _, ⟨T98, L98, k98, n98⟩, -, X98, ⟨Lc98, hQ98, l98, y98, z98⟩, st98⟩ := X91.virtualBack hx (y := (⟨"com/example/burn_to_balance/burntobalance/io/CsvRecord", "line", "()J"⟩ : MethodName)) (z := (⟨"com/example/burn_to_balance/burntobalance/io/CsvRecord", "line", "()J"⟩ : MethodName)) hown (mvT hZ ww27) (mvT hZ ww28) (notFace_of_selects (args := #[]) (mvT hZ ww30)) (mvT hZ ww30) (mvT hZ ww29) (by decide) (backOf (W := 0) (rm4 l Z a0 hw [] b79 q0_0 T91.heap n0 (Nat.le_trans Z0 K91.1) f95) hZ ww31 ww3 (by decide) (by decide)) q98a q98c (g := (mkF m 57 #[.val (.long q0_0), .second, .val (.int p0_1), .val (.int p0_2), .val (.int p0_3), .val (.int (t0_5 p0_1)), .val (.int (t0_12 p0_2)), .val (.ref b79), .unset] [(.ref b79)])) rfl (by rw [hml]; rfl) (Steps.refl _) (argsL := []) (rest := []) (lenOf pd___J rfl) rfl (by show 2 * 0 + _ ≤ _; exact Nat.le_of_eq rfl) (hb hby at_57) (fun _ _ => ⟨rfl, rfl, (by decide : 3 + 0 ≤ _), (by decide : 277 + 0 ≤ _)⟩)
    dsimp only [Pt.U, Pt.locs, Pt.cells, Pt.slots] at X98 l98 y98 z98 st98 hQ98
    subst l98 y98 z98
    obtain ⟨rfl, N98q, eh98⟩ := hQ98
    have N98 := Fr.app N91 N98q
    refine own_trans (g' := (mkF m 60 #[.val (.long q0_0), .second, .val (.int p0_1), .val (.int p0_2), .val (.int p0_3), .val (.int (t0_5 p0_1)), .val (.int (t0_12 p0_2)), .val (.ref b79), .unset] [(.long q0_0)])) st98 ?_
    refine own_s (g' := (mkF m 61 #[.val (.long q0_0), .second, .val (.int p0_1), .val (.int p0_2), .val (.int p0_3), .val (.int (t0_5 p0_1)), .val (.int (t0_12 p0_2)), .val (.ref b79), .unset] [(.long q0_0), (.long q0_0)])) (fun _ k => XS.lloadN X98.here hx rfl (hb hby at_60) rfl k) ?_
    refine own_s (g' := (mkF m 62 #[.val (.long q0_0), .second, .val (.int p0_1), .val (.int p0_2), .val (.int p0_3), .val (.int (t0_5 p0_1)), .val (.int (t0_12 p0_2)), .val (.ref b79), .unset] [(.int (lcmpW q0_0 q0_0))])) (fun _ k => XS.lcmp X98.here hx rfl (hb hby at_61) rfl k) ?_
    refine own_s (g' := (mkF m 65 #[.val (.long q0_0), .second, .val (.int p0_1), .val (.int p0_2), .val (.int p0_3), .val (.int (t0_5 p0_1)), .val (.int (t0_12 p0_2)), .val (.ref b79), .unset] [])) (fun _ k => XS.ifNo X98.here hx rfl (hb hby at_62) rfl ((if0 _ _).trans (teq ((lw_eq q0_0 q0_0).mpr rfl)).2) k) ?_
    refine own_s (g' := (mkF m 66 #[.val (.long q0_0), .second, .val (.int p0_1), .val (.int p0_2), .val (.int p0_3), .val (.int (t0_5 p0_1)), .val (.int (t0_12 p0_2)), .val (.ref b79), .unset] [(.int 1)])) (fun _ k => XS.iconst X98.here hx rfl (hb hby at_65) k) ?_
    refine own_s (g' := (mkF m 70 #[.val (.long q0_0), .second, .val (.int p0_1), .val (.int p0_2), .val (.int p0_3), .val (.int (t0_5 p0_1)), .val (.int (t0_12 p0_2)), .val (.ref b79), .unset] [(.int 1)])) (fun _ k => XS.goto X98.here hx rfl (pc0 := 66) (pc' := 70) rfl (hb hby at_66) (by decide) (by decide) k) ?_
    refine own_s (g' := (mkF m 72 #[.val (.long q0_0), .second, .val (.int p0_1), .val (.int p0_2), .val (.int p0_3), .val (.int (t0_5 p0_1)), .val (.int (t0_12 p0_2)), .val (.ref b79), .val (.int 1)] [])) (fun _ k => XS.istore X98.here hx rfl (hb hby at_70) rfl (l' := #[.val (.long q0_0), .second, .val (.int p0_1), .val (.int p0_2), .val (.int p0_3), .val (.int (t0_5 p0_1)), .val (.int (t0_12 p0_2)), .val (.ref b79), .val (.int 1)]) rfl k) ?_
    refine own_s (g' := (mkF m 74 #[.val (.long q0_0), .second, .val (.int p0_1), .val (.int p0_2), .val (.int p0_3), .val (.int (t0_5 p0_1)), .val (.int (t0_12 p0_2)), .val (.ref b79), .val (.int 1)] [(.int 1)])) (fun _ k => XS.iload X98.here hx rfl (hb hby at_72) rfl k) ?_
    refine own_s (g' := (mkF m 77 #[.val (.long q0_0), .second, .val (.int p0_1), .val (.int p0_2), .val (.int p0_3), .val (.int (t0_5 p0_1)), .val (.int (t0_12 p0_2)), .val (.ref b79), .val (.int 1)] [])) (fun _ k => XS.ifNo X98.here hx rfl (hb hby at_74) rfl ((if0 _ _).trans (feq ((by decide) : ¬ (1 : Int32) = (0 : Int32))).1) k) ?_
    refine own_s (g' := (mkF m 79 #[.val (.long q0_0), .second, .val (.int p0_1), .val (.int p0_2), .val (.int p0_3), .val (.int (t0_5 p0_1)), .val (.int (t0_12 p0_2)), .val (.ref b79), .val (.int 1)] [(.ref b79)])) (fun _ k => XS.aload X98.here hx rfl (hb hby at_77) rfl rfl k) ?_
    obtain ⟨cq99, kq99, q99a, q99b, q99c⟩ := isOf hZ eh98 f92
    obtain ⟨_, _, ⟨T99, L99, k99, n99⟩, -, X99, ⟨Lc99, hQ99, l99, y99, z99⟩, st99⟩ := X98.virtualBack hx (y := (⟨"com/example/burn_to_balance/burntobalance/io/CsvRecord", "size", "()I"⟩ : MethodName)) (z := (⟨"com/example/burn_to_balance/burntobalance/io/CsvRecord", "size", "()I"⟩ : MethodName)) hown (mvT hZ ww32) (mvT hZ ww33) (notFace_of_selects (args := #[]) (mvT hZ ww35)) (mvT hZ ww35) (mvT hZ ww34) (by decide) (backOf (W := 0) (rm5 l Z a0 hw [] b79 (0 : Int32) T91.heap n0 (Nat.le_trans Z0 K91.1) f97) hZ ww36 ww3 (by decide) (by decide)) q99a q99c (g := (mkF m 79 #[.val (.long q0_0), .second, .val (.int p0_1), .val (.int p0_2), .val (.int p0_3), .val (.int (t0_5 p0_1)), .val (.int (t0_12 p0_2)), .val (.ref b79), .val (.int 1)] [(.ref b79)])) rfl (by rw [hml]; rfl) (Steps.refl _) (argsL := []) (rest := []) (lenOf pd___I rfl) rfl (by show 2 * 0 + _ ≤ _; exact Nat.le_of_eq rfl) (hb hby at_79) (fun _ _ => ⟨rfl, eh98, (by decide : 3 + 0 ≤ _), (by decide : 277 + 0 ≤ _)⟩)
    dsimp only [Pt.U, Pt.locs, Pt.cells, Pt.slots] at X99 l99 y99 z99 st99 hQ99
    subst l99 y99 z99
    obtain ⟨rfl, N99q, eh99⟩ := hQ99
    have N99 := Fr.app N98 N99q
    refine own_trans (g' := (mkF m 82 #[.val (.long q0_0), .second, .val (.int p0_1), .val (.int p0_2), .val (.int p0_3), .val (.int (t0_5 p0_1)), .val (.int (t0_12 p0_2)), .val (.ref b79), .val (.int 1)] [(.int 0)])) st99 ?_
    refine own_s (g' := (mkF m 85 #[.val (.long q0_0), .second, .val (.int p0_1), .val (.int p0_2), .val (.int p0_3), .val (.int (t0_5 p0_1)), .val (.int (t0_12 p0_2)), .val (.ref b79), .val (.int 1)] [])) (fun _ k => XS.ifNo X99.here hx rfl (hb hby at_82) rfl ((if0 _ _).trans (teq ((by decide) : (0 : Int32) = (0 : Int32))).2) k) ?_
    refine own_s (g' := (mkF m 86 #[.val (.long q0_0), .second, .val (.int p0_1), .val (.int p0_2), .val (.int p0_3), .val (.int (t0_5 p0_1)), .val (.int (t0_12 p0_2)), .val (.ref b79), .val (.int 1)] [(.int 1)])) (fun _ k => XS.iconst X99.here hx rfl (hb hby at_85) k) ?_
    refine own_s (g' := (mkF m 90 #[.val (.long q0_0), .second, .val (.int p0_1), .val (.int p0_2), .val (.int p0_3), .val (.int (t0_5 p0_1)), .val (.int (t0_12 p0_2)), .val (.ref b79), .val (.int 1)] [(.int 1)])) (fun _ k => XS.goto X99.here hx rfl (pc0 := 86) (pc' := 90) rfl (hb hby at_86) (by decide) (by decide) k) ?_
    refine own_s (g' := (mkF m 92 #[.val (.long q0_0), .second, .val (.int p0_1), .val (.int p0_2), .val (.int p0_3), .val (.int (t0_5 p0_1)), .val (.int (t0_12 p0_2)), .val (.ref b79), .val (.int 1)] [])) (fun _ k => XS.istore X99.here hx rfl (hb hby at_90) rfl (l' := #[.val (.long q0_0), .second, .val (.int p0_1), .val (.int p0_2), .val (.int p0_3), .val (.int (t0_5 p0_1)), .val (.int (t0_12 p0_2)), .val (.ref b79), .val (.int 1)]) rfl k) ?_
    refine own_s (g' := (mkF m 94 #[.val (.long q0_0), .second, .val (.int p0_1), .val (.int p0_2), .val (.int p0_3), .val (.int (t0_5 p0_1)), .val (.int (t0_12 p0_2)), .val (.ref b79), .val (.int 1)] [(.int 1)])) (fun _ k => XS.iload X99.here hx rfl (hb hby at_92) rfl k) ?_
    refine own_s (g' := (mkF m 97 #[.val (.long q0_0), .second, .val (.int p0_1), .val (.int p0_2), .val (.int p0_3), .val (.int (t0_5 p0_1)), .val (.int (t0_12 p0_2)), .val (.ref b79), .val (.int 1)] [])) (fun _ k => XS.ifNo X99.here hx rfl (hb hby at_94) rfl ((if0 _ _).trans (feq ((by decide) : ¬ (1 : Int32) = (0 : Int32))).1) k) ?_
    refine own_s (g' := (mkF m 99 #[.val (.long q0_0), .second, .val (.int p0_1), .val (.int p0_2), .val (.int p0_3), .val (.int (t0_5 p0_1)), .val (.int (t0_12 p0_2)), .val (.ref b79), .val (.int 1)] [(.ref b79)])) (fun _ k => XS.aload X99.here hx rfl (hb hby at_97) rfl rfl k) ?_
    obtain ⟨cq100, kq100, q100a, q100b, q100c⟩ := isOf hZ eh99 f92
    obtain ⟨_, _, ⟨T100, L100, k100, n100⟩, -, X100, ⟨Lc100, hQ100, l100, y100, z100⟩, st100⟩ := X99.virtualBack hx (y := (⟨"com/example/burn_to_balance/burntobalance/io/CsvRecord", "isBlank", "()Z"⟩ : MethodName)) (z := (⟨"com/example/burn_to_balance/burntobalance/io/CsvRecord", "isBlank", "()Z"⟩ : MethodName)) hown (mvT hZ ww37) (mvT hZ ww38) (notFace_of_selects (args := #[]) (mvT hZ ww40)) (mvT hZ ww40) (mvT hZ ww39) (by decide) (backOf (W := 0) (rm6 l Z a0 hw [] b79 (0 : Int32) T91.heap n0 (Nat.le_trans Z0 K91.1) f96) hZ ww41 ww3 (by decide) (by decide)) q100a q100c (g := (mkF m 99 #[.val (.long q0_0), .second, .val (.int p0_1), .val (.int p0_2), .val (.int p0_3), .val (.int (t0_5 p0_1)), .val (.int (t0_12 p0_2)), .val (.ref b79), .val (.int 1)] [(.ref b79)])) rfl (by rw [hml]; rfl) (Steps.refl _) (argsL := []) (rest := []) (lenOf pd___Z rfl) rfl (by show 2 * 0 + _ ≤ _; exact Nat.le_of_eq rfl) (hb hby at_99) (fun _ _ => ⟨rfl, eh99, (by decide : 3 + 0 ≤ _), (by decide : 277 + 0 ≤ _)⟩)
    dsimp only [Pt.U, Pt.locs, Pt.cells, Pt.slots] at X100 l100 y100 z100 st100 hQ100
    subst l100 y100 z100
    obtain ⟨rfl, N100q, eh100⟩ := hQ100
    have N100 := Fr.app N99 N100q
    refine own_trans (g' := (mkF m 102 #[.val (.long q0_0), .second, .val (.int p0_1), .val (.int p0_2), .val (.int p0_3), .val (.int (t0_5 p0_1)), .val (.int (t0_12 p0_2)), .val (.ref b79), .val (.int 1)] [(.int (r6 (0 : Int32)))])) st100 ?_
    rw [show (r6 (0 : Int32)) = (1 : Int32) from (if_pos ((by decide) : (0 : Int32) = (0 : Int32)))]
    refine own_s (g' := (mkF m 105 #[.val (.long q0_0), .second, .val (.int p0_1), .val (.int p0_2), .val (.int p0_3), .val (.int (t0_5 p0_1)), .val (.int (t0_12 p0_2)), .val (.ref b79), .val (.int 1)] [])) (fun _ k => XS.ifNo X100.here hx rfl (hb hby at_102) rfl ((if0 _ _).trans (feq ((by decide) : ¬ (1 : Int32) = (0 : Int32))).1) k) ?_
    refine own_s (g' := (mkF m 106 #[.val (.long q0_0), .second, .val (.int p0_1), .val (.int p0_2), .val (.int p0_3), .val (.int (t0_5 p0_1)), .val (.int (t0_12 p0_2)), .val (.ref b79), .val (.int 1)] [(.int 1)])) (fun _ k => XS.iconst X100.here hx rfl (hb hby at_105) k) ?_
    refine own_s (g' := (mkF m 110 #[.val (.long q0_0), .second, .val (.int p0_1), .val (.int p0_2), .val (.int p0_3), .val (.int (t0_5 p0_1)), .val (.int (t0_12 p0_2)), .val (.ref b79), .val (.int 1)] [(.int 1)])) (fun _ k => XS.goto X100.here hx rfl (pc0 := 106) (pc' := 110) rfl (hb hby at_106) (by decide) (by decide) k) ?_
    refine own_s (g' := (mkF m 112 #[.val (.long q0_0), .second, .val (.int p0_1), .val (.int p0_2), .val (.int p0_3), .val (.int (t0_5 p0_1)), .val (.int (t0_12 p0_2)), .val (.ref b79), .val (.int 1)] [])) (fun _ k => XS.istore X100.here hx rfl (hb hby at_110) rfl (l' := #[.val (.long q0_0), .second, .val (.int p0_1), .val (.int p0_2), .val (.int p0_3), .val (.int (t0_5 p0_1)), .val (.int (t0_12 p0_2)), .val (.ref b79), .val (.int 1)]) rfl k) ?_
    refine own_s (g' := (mkF m 114 #[.val (.long q0_0), .second, .val (.int p0_1), .val (.int p0_2), .val (.int p0_3), .val (.int (t0_5 p0_1)), .val (.int (t0_12 p0_2)), .val (.ref b79), .val (.int 1)] [(.ref b79)])) (fun _ k => XS.aload X100.here hx rfl (hb hby at_112) rfl rfl k) ?_
    refine own_s (g' := (mkF m 116 #[.val (.long q0_0), .second, .val (.int p0_1), .val (.int p0_2), .val (.int p0_3), .val (.int (t0_5 p0_1)), .val (.int (t0_12 p0_2)), .val (.ref b79), .val (.int 1)] [(.int (t0_12 p0_2)), (.ref b79)])) (fun _ k => XS.iload X100.here hx rfl (hb hby at_114) rfl k) ?_
    have ne102 : b79 ≠ bf0_80 := Nat.ne_of_lt (Nat.lt_of_lt_of_le A79.lt hs_bf0_80)
    have f103 := (f81.keep K91q (ninS (Ne.symm ne102) nin0))
    obtain ⟨cq101, kq101, q101a, q101b, q101c⟩ := isOf hZ eh100 f92
    obtain ⟨_, _, ⟨T101, L101, k101, n101⟩, -, X101, ⟨Lc101, hQ101, l101, y101, z101⟩, st101⟩ := X100.virtualBack hx (y := (⟨"com/example/burn_to_balance/burntobalance/io/CsvRecord", "append", "(C)V"⟩ : MethodName)) (z := (⟨"com/example/burn_to_balance/burntobalance/io/CsvRecord", "append", "(C)V"⟩ : MethodName)) hown (mvT hZ ww42) (mvT hZ ww43) (notFace_of_selects (args := #[]) (mvT hZ ww45)) (mvT hZ ww45) (mvT hZ ww44) (by decide) (backOf (W := 0) (rm7 l Z a0 hw [] b79 (t0_12 p0_2) bf0_80 bf1_80 q0_0 (0 : Int32) kf0_80 (0 : Int32) T91.heap n0 (Nat.le_trans Z0 K91.1) f96 f93 f94 f95 f97 f92 f103 g_b79 g_bf0_80 (Ne.symm ne102)) hZ ww46 ww3 (by decide) (by decide)) q101a q101c (g := (mkF m 116 #[.val (.long q0_0), .second, .val (.int p0_1), .val (.int p0_2), .val (.int p0_3), .val (.int (t0_5 p0_1)), .val (.int (t0_12 p0_2)), .val (.ref b79), .val (.int 1)] [(.int (t0_12 p0_2)), (.ref b79)])) rfl (by rw [hml]; rfl) (Steps.refl _) (argsL := [(.int (t0_12 p0_2))]) (rest := []) (lenOf pd__C_V rfl) rfl (by show 2 * 0 + _ ≤ _; exact Nat.le_of_eq rfl) (hb hby at_116) (fun _ _ => ⟨rfl, eh100, (by decide : 3 + 0 ≤ _), (by decide : 277 + 0 ≤ _)⟩)
    dsimp only [Pt.U, Pt.locs, Pt.cells, Pt.slots] at X101 l101 y101 z101 st101 hQ101
    subst l101 y101 z101
    obtain ⟨rfl, N101q, K101q, f104, f105, f106, f107, f108, f109, f110⟩ := hQ101
    have K101 := K91.trans K101q (allS (Or.inr sz_b79) (allS (Or.inr sz_bf0_80) all0))
    have N101 := Fr.app N100 N101q
    refine own_trans (g' := (mkF m 119 #[.val (.long q0_0), .second, .val (.int p0_1), .val (.int p0_2), .val (.int p0_3), .val (.int (t0_5 p0_1)), .val (.int (t0_12 p0_2)), .val (.ref b79), .val (.int 1)] [])) st101 ?_
    refine own_s (g' := (mkF m 121 #[.val (.long q0_0), .second, .val (.int p0_1), .val (.int p0_2), .val (.int p0_3), .val (.int (t0_5 p0_1)), .val (.int (t0_12 p0_2)), .val (.ref b79), .val (.int 1)] [(.ref b79)])) (fun _ k => XS.aload X101.here hx rfl (hb hby at_119) rfl rfl k) ?_
    have ne112 : b79 ≠ bf1_80 := Nat.ne_of_lt (Nat.lt_of_lt_of_le A79.lt hs_bf1_80)
    have f113 := ((f82.keep K91q (ninS (Ne.symm ne112) nin0)).keep K101q (ninS (Ne.symm ne112) (ninS (Ne.symm ne_bf0_80_bf1_80) nin0)))
    obtain ⟨cq111, kq111, q111a, q111b, q111c⟩ := isOf hZ rfl f104
    obtain ⟨_, _, ⟨T111, L111, k111, n111⟩, -, X111, ⟨Lc111, hQ111, l111, y111, z111⟩, st111⟩ := X101.virtualBack hx (y := (⟨"com/example/burn_to_balance/burntobalance/io/CsvRecord", "endField", "()V"⟩ : MethodName)) (z := (⟨"com/example/burn_to_balance/burntobalance/io/CsvRecord", "endField", "()V"⟩ : MethodName)) hown (mvT hZ ww51) (mvT hZ ww52) (notFace_of_selects (args := #[]) (mvT hZ ww54)) (mvT hZ ww54) (mvT hZ ww53) (by decide) (backOf (W := 0) (rm9 l Z a0 hw [] b79 bf1_80 bf0_80 q0_0 (1 : Int32) kf1_80 (0 : Int32) T101.heap n0 (Nat.le_trans Z0 K101.1) f108 f106 f105 f107 f109 f104 f113 g_b79 g_bf1_80 (Ne.symm ne112)) hZ ww55 ww3 (by decide) (by decide)) q111a q111c (g := (mkF m 121 #[.val (.long q0_0), .second, .val (.int p0_1), .val (.int p0_2), .val (.int p0_3), .val (.int (t0_5 p0_1)), .val (.int (t0_12 p0_2)), .val (.ref b79), .val (.int 1)] [(.ref b79)])) rfl (by rw [hml]; rfl) (Steps.refl _) (argsL := []) (rest := []) (lenOf pd___V rfl) rfl (by show 2 * 0 + _ ≤ _; exact Nat.le_of_eq rfl) (hb hby at_121) (fun _ _ => ⟨rfl, rfl, (by decide : 3 + 0 ≤ _), (by decide : 277 + 0 ≤ _)⟩)
    dsimp only [Pt.U, Pt.locs, Pt.cells, Pt.slots] at X111 l111 y111 z111 st111 hQ111
    subst l111 y111 z111
    obtain ⟨rfl, N111q, K111q, f114, f115, f116, f117, f118, f119, f120⟩ := hQ111
    have K111 := K101.trans K111q (allS (Or.inr sz_b79) (allS (Or.inr sz_bf1_80) all0))
    have N111 := Fr.app N101 N111q
    refine own_trans (g' := (mkF m 124 #[.val (.long q0_0), .second, .val (.int p0_1), .val (.int p0_2), .val (.int p0_3), .val (.int (t0_5 p0_1)), .val (.int (t0_12 p0_2)), .val (.ref b79), .val (.int 1)] [])) st111 ?_
    refine own_s (g' := (mkF m 126 #[.val (.long q0_0), .second, .val (.int p0_1), .val (.int p0_2), .val (.int p0_3), .val (.int (t0_5 p0_1)), .val (.int (t0_12 p0_2)), .val (.ref b79), .val (.int 1)] [(.int 1)])) (fun _ k => XS.iload X111.here hx rfl (hb hby at_124) rfl k) ?_
    refine own_s (g' := (mkF m 129 #[.val (.long q0_0), .second, .val (.int p0_1), .val (.int p0_2), .val (.int p0_3), .val (.int (t0_5 p0_1)), .val (.int (t0_12 p0_2)), .val (.ref b79), .val (.int 1)] [])) (fun _ k => XS.ifNo X111.here hx rfl (hb hby at_126) rfl ((if0 _ _).trans (feq ((by decide) : ¬ (1 : Int32) = (0 : Int32))).1) k) ?_
    refine own_s (g' := (mkF m 131 #[.val (.long q0_0), .second, .val (.int p0_1), .val (.int p0_2), .val (.int p0_3), .val (.int (t0_5 p0_1)), .val (.int (t0_12 p0_2)), .val (.ref b79), .val (.int 1)] [(.ref b79)])) (fun _ k => XS.aload X111.here hx rfl (hb hby at_129) rfl rfl k) ?_
    refine own_s (g' := (mkF m 132 #[.val (.long q0_0), .second, .val (.int p0_1), .val (.int p0_2), .val (.int p0_3), .val (.int (t0_5 p0_1)), .val (.int (t0_12 p0_2)), .val (.ref b79), .val (.int 1)] [(.int 0), (.ref b79)])) (fun _ k => XS.iconst X111.here hx rfl (hb hby at_131) k) ?_
    refine own_s (g' := (mkF m 133 #[.val (.long q0_0), .second, .val (.int p0_1), .val (.int p0_2), .val (.int p0_3), .val (.int (t0_5 p0_1)), .val (.int (t0_12 p0_2)), .val (.ref b79), .val (.int 1)] [(.int 0), (.int 0), (.ref b79)])) (fun _ k => XS.iconst X111.here hx rfl (hb hby at_132) k) ?_
    have f122 := (f110.keep K111q (ninS (Ne.symm ne102) (ninS ne_bf0_80_bf1_80 nin0)))
    obtain ⟨cq121, kq121, q121a, q121b, q121c⟩ := isOf hZ rfl f114
    obtain ⟨_, _, ⟨T121, L121, k121, n121⟩, -, X121, ⟨Lc121, hQ121, l121, y121, z121⟩, st121⟩ := X111.virtualBack hx (y := (⟨"com/example/burn_to_balance/burntobalance/io/CsvRecord", "charAt", "(II)C"⟩ : MethodName)) (z := (⟨"com/example/burn_to_balance/burntobalance/io/CsvRecord", "charAt", "(II)C"⟩ : MethodName)) hown (mvT hZ ww56) (mvT hZ ww57) (notFace_of_selects (args := #[]) (mvT hZ ww59)) (mvT hZ ww59) (mvT hZ ww58) (by decide) (backOf (W := 0) (rm10 l Z a0 hw [] b79 bf0_80 kf0_80 (nar .char (t0_12 p0_2)) T111.heap n0 (Nat.le_trans Z0 K111.1) f116 f114 f122) hZ ww60 ww3 (by decide) (by decide)) q121a q121c (g := (mkF m 133 #[.val (.long q0_0), .second, .val (.int p0_1), .val (.int p0_2), .val (.int p0_3), .val (.int (t0_5 p0_1)), .val (.int (t0_12 p0_2)), .val (.ref b79), .val (.int 1)] [(.int 0), (.int 0), (.ref b79)])) rfl (by rw [hml]; rfl) (Steps.refl _) (argsL := [(.int 0), (.int 0)]) (rest := []) (lenOf pd__II_C rfl) rfl (by show 2 * 0 + _ ≤ _; exact Nat.le_of_eq rfl) (hb hby at_133) (fun _ _ => ⟨rfl, rfl, (by decide : 3 + 0 ≤ _), (by decide : 277 + 0 ≤ _)⟩)
    dsimp only [Pt.U, Pt.locs, Pt.cells, Pt.slots] at X121 l121 y121 z121 st121 hQ121
    subst l121 y121 z121
    obtain ⟨rfl, N121q, eh121⟩ := hQ121
    have N121 := Fr.app N111 N121q
    refine own_trans (g' := (mkF m 136 #[.val (.long q0_0), .second, .val (.int p0_1), .val (.int p0_2), .val (.int p0_3), .val (.int (t0_5 p0_1)), .val (.int (t0_12 p0_2)), .val (.ref b79), .val (.int 1)] [(.int (r10 (nar .char (t0_12 p0_2))))])) st121 ?_
    refine own_s (g' := (mkF m 138 #[.val (.long q0_0), .second, .val (.int p0_1), .val (.int p0_2), .val (.int p0_3), .val (.int (t0_5 p0_1)), .val (.int (t0_12 p0_2)), .val (.ref b79), .val (.int 1)] [(.int (t0_12 p0_2)), (.int (r10 (nar .char (t0_12 p0_2))))])) (fun _ k => XS.iload X121.here hx rfl (hb hby at_136) rfl k) ?_
    refine own_s (g' := (mkF m 141 #[.val (.long q0_0), .second, .val (.int p0_1), .val (.int p0_2), .val (.int p0_3), .val (.int (t0_5 p0_1)), .val (.int (t0_12 p0_2)), .val (.ref b79), .val (.int 1)] [])) (fun _ k => XS.icmpNo X121.here hx rfl (hb hby at_138) rfl (teq ((own_i2c2 _) : (r10 (nar .char (t0_12 p0_2))) = (t0_12 p0_2))).2 k) ?_
    refine own_s (g' := (mkF m 142 #[.val (.long q0_0), .second, .val (.int p0_1), .val (.int p0_2), .val (.int p0_3), .val (.int (t0_5 p0_1)), .val (.int (t0_12 p0_2)), .val (.ref b79), .val (.int 1)] [(.int 1)])) (fun _ k => XS.iconst X121.here hx rfl (hb hby at_141) k) ?_
    refine own_s (g' := (mkF m 146 #[.val (.long q0_0), .second, .val (.int p0_1), .val (.int p0_2), .val (.int p0_3), .val (.int (t0_5 p0_1)), .val (.int (t0_12 p0_2)), .val (.ref b79), .val (.int 1)] [(.int 1)])) (fun _ k => XS.goto X121.here hx rfl (pc0 := 142) (pc' := 146) rfl (hb hby at_142) (by decide) (by decide) k) ?_
    refine own_s (g' := (mkF m 148 #[.val (.long q0_0), .second, .val (.int p0_1), .val (.int p0_2), .val (.int p0_3), .val (.int (t0_5 p0_1)), .val (.int (t0_12 p0_2)), .val (.ref b79), .val (.int 1)] [])) (fun _ k => XS.istore X121.here hx rfl (hb hby at_146) rfl (l' := #[.val (.long q0_0), .second, .val (.int p0_1), .val (.int p0_2), .val (.int p0_3), .val (.int (t0_5 p0_1)), .val (.int (t0_12 p0_2)), .val (.ref b79), .val (.int 1)]) rfl k) ?_
    refine own_s (g' := (mkF m 150 #[.val (.long q0_0), .second, .val (.int p0_1), .val (.int p0_2), .val (.int p0_3), .val (.int (t0_5 p0_1)), .val (.int (t0_12 p0_2)), .val (.ref b79), .val (.int 1)] [(.int 1)])) (fun _ k => XS.iload X121.here hx rfl (hb hby at_148) rfl k) ?_
    refine own_retN X121 hx hlk (t := .boolean) hret (by simp) (hb hby at_150) (z' := (1 : Int32)) (by decide) (by decide) (by decide) ?_
    show Q0 Z q0_0 p0_1 p0_2 p0_3 h0 n0 _ T121.heap _
    rw [eh121]
    exact ⟨rfl, N121⟩
   ·skip
    refine own_s (g' := (mkF m 44 #[.val (.long q0_0), .second, .val (.int p0_1), .val (.int p0_2), .val (.int p0_3), .val (.int (t0_5 p0_1)), .val (.int (t0_12 p0_2)), .val (.ref b79), .unset] [])) (fun _ k => XS.ifNo X80.here hx rfl (hb hby at_41) rfl ((if0 _ _).trans (feq c90).1) k) ?_
    refine own_s (g' := (mkF m 46 #[.val (.long q0_0), .second, .val (.int p0_1), .val (.int p0_2), .val (.int p0_3), .val (.int (t0_5 p0_1)), .val (.int (t0_12 p0_2)), .val (.ref b79), .unset] [(.ref b79)])) (fun _ k => XS.aload X80.here hx rfl (hb hby at_44) rfl rfl k) ?_
    have ne124 : b79 ≠ bf1_80 := Nat.ne_of_lt (Nat.lt_of_lt_of_le A79.lt hs_bf1_80)
    obtain ⟨cq123, kq123, q123a, q123b, q123c⟩ := isOf hZ rfl f83
    obtain ⟨_, _, ⟨T123, L123, k123, n123⟩, -, X123, ⟨Lc123, hQ123, l123, y123, z123⟩, st123⟩ := X80.virtualBack hx (y := (⟨"com/example/burn_to_balance/burntobalance/io/CsvRecord", "endField", "()V"⟩ : MethodName)) (z := (⟨"com/example/burn_to_balance/burntobalance/io/CsvRecord", "endField", "()V"⟩ : MethodName)) hown (mvT hZ ww51) (mvT hZ ww52) (notFace_of_selects (args := #[]) (mvT hZ ww54)) (mvT hZ ww54) (mvT hZ ww53) (by decide) (backOf (W := 0) (rm9 l Z a0 hw [] b79 bf1_80 bf0_80 (0 : Int64) (0 : Int32) kf1_80 (0 : Int32) T80.heap n0 (Nat.le_trans Z0 K80.1) f86 f88 f87 f84 f85 f83 f82 g_b79 g_bf1_80 (Ne.symm ne124)) hZ ww55 ww3 (by decide) (by decide)) q123a q123c (g := (mkF m 46 #[.val (.long q0_0), .second, .val (.int p0_1), .val (.int p0_2), .val (.int p0_3), .val (.int (t0_5 p0_1)), .val (.int (t0_12 p0_2)), .val (.ref b79), .unset] [(.ref b79)])) rfl (by rw [hml]; rfl) (Steps.refl _) (argsL := []) (rest := []) (lenOf pd___V rfl) rfl (by show 2 * 0 + _ ≤ _; exact Nat.le_of_eq rfl) (hb hby at_46) (fun _ _ => ⟨rfl, rfl, (by decide : 3 + 0 ≤ _), (by decide : 277 + 0 ≤ _)⟩)
    dsimp only [Pt.U, Pt.locs, Pt.cells, Pt.slots] at X123 l123 y123 z123 st123 hQ123
    subst l123 y123 z123
    obtain ⟨rfl, N123q, K123q, f125, f126, f127, f128, f129, f130, f131⟩ := hQ123
    have K123 := K80.trans K123q (allS (Or.inr sz_b79) (allS (Or.inr sz_bf1_80) all0))
    have N123 := Fr.app N80 N123q
    refine own_trans (g' := (mkF m 49 #[.val (.long q0_0), .second, .val (.int p0_1), .val (.int p0_2), .val (.int p0_3), .val (.int (t0_5 p0_1)), .val (.int (t0_12 p0_2)), .val (.ref b79), .unset] [])) st123 ?_
    refine own_s (g' := (mkF m 51 #[.val (.long q0_0), .second, .val (.int p0_1), .val (.int p0_2), .val (.int p0_3), .val (.int (t0_5 p0_1)), .val (.int (t0_12 p0_2)), .val (.ref b79), .unset] [(.ref b79)])) (fun _ k => XS.aload X123.here hx rfl (hb hby at_49) rfl rfl k) ?_
    refine own_s (g' := (mkF m 52 #[.val (.long q0_0), .second, .val (.int p0_1), .val (.int p0_2), .val (.int p0_3), .val (.int (t0_5 p0_1)), .val (.int (t0_12 p0_2)), .val (.ref b79), .unset] [(.long q0_0), (.ref b79)])) (fun _ k => XS.lloadN X123.here hx rfl (hb hby at_51) rfl k) ?_
    obtain ⟨cq132, kq132, q132a, q132b, q132c⟩ := isOf hZ rfl f125
    obtain ⟨_, _, ⟨T132, L132, k132, n132⟩, -, X132, ⟨Lc132, hQ132, l132, y132, z132⟩, st132⟩ := X123.virtualBack hx (y := (⟨"com/example/burn_to_balance/burntobalance/io/CsvRecord", "start", "(J)V"⟩ : MethodName)) (z := (⟨"com/example/burn_to_balance/burntobalance/io/CsvRecord", "start", "(J)V"⟩ : MethodName)) hown (mvT hZ ww16) (mvT hZ ww17) (notFace_of_selects (args := #[]) (mvT hZ ww19)) (mvT hZ ww19) (mvT hZ ww18) (by decide) (backOf (W := 0) (rm3 l Z a0 hw [] b79 q0_0 (0 : Int64) bf0_80 bf1_80 (0 : Int32) (1 : Int32) T123.heap n0 (Nat.le_trans Z0 K123.1) f128 f127 f126 f129 f130 f125 g_b79) hZ ww20 ww3 (by decide) (by decide)) q132a q132c (g := (mkF m 52 #[.val (.long q0_0), .second, .val (.int p0_1), .val (.int p0_2), .val (.int p0_3), .val (.int (t0_5 p0_1)), .val (.int (t0_12 p0_2)), .val (.ref b79), .unset] [(.long q0_0), (.ref b79)])) rfl (by rw [hml]; rfl) (Steps.refl _) (argsL := [(.long q0_0)]) (rest := []) (lenOf pd__J_V rfl) rfl (by show 2 * 0 + _ ≤ _; exact Nat.le_of_eq rfl) (hb hby at_52) (fun _ _ => ⟨rfl, rfl, (by decide : 3 + 0 ≤ _), (by decide : 277 + 0 ≤ _)⟩)
    dsimp only [Pt.U, Pt.locs, Pt.cells, Pt.slots] at X132 l132 y132 z132 st132 hQ132
    subst l132 y132 z132
    obtain ⟨rfl, N132q, K132q, f133, f134, f135, f136, f137, f138⟩ := hQ132
    have K132 := K123.trans K132q (allS (Or.inr sz_b79) all0)
    have N132 := Fr.app N123 N132q
    refine own_trans (g' := (mkF m 55 #[.val (.long q0_0), .second, .val (.int p0_1), .val (.int p0_2), .val (.int p0_3), .val (.int (t0_5 p0_1)), .val (.int (t0_12 p0_2)), .val (.ref b79), .unset] [])) st132 ?_
    refine own_s (g' := (mkF m 57 #[.val (.long q0_0), .second, .val (.int p0_1), .val (.int p0_2), .val (.int p0_3), .val (.int (t0_5 p0_1)), .val (.int (t0_12 p0_2)), .val (.ref b79), .unset] [(.ref b79)])) (fun _ k => XS.aload X132.here hx rfl (hb hby at_55) rfl rfl k) ?_
    obtain ⟨cq139, kq139, q139a, q139b, q139c⟩ := isOf hZ rfl f133
    obtain ⟨_, _, ⟨T139, L139, k139, n139⟩, -, X139, ⟨Lc139, hQ139, l139, y139, z139⟩, st139⟩ := X132.virtualBack hx (y := (⟨"com/example/burn_to_balance/burntobalance/io/CsvRecord", "line", "()J"⟩ : MethodName)) (z := (⟨"com/example/burn_to_balance/burntobalance/io/CsvRecord", "line", "()J"⟩ : MethodName)) hown (mvT hZ ww27) (mvT hZ ww28) (notFace_of_selects (args := #[]) (mvT hZ ww30)) (mvT hZ ww30) (mvT hZ ww29) (by decide) (backOf (W := 0) (rm4 l Z a0 hw [] b79 q0_0 T132.heap n0 (Nat.le_trans Z0 K132.1) f136) hZ ww31 ww3 (by decide) (by decide)) q139a q139c (g := (mkF m 57 #[.val (.long q0_0), .second, .val (.int p0_1), .val (.int p0_2), .val (.int p0_3), .val (.int (t0_5 p0_1)), .val (.int (t0_12 p0_2)), .val (.ref b79), .unset] [(.ref b79)])) rfl (by rw [hml]; rfl) (Steps.refl _) (argsL := []) (rest := []) (lenOf pd___J rfl) rfl (by show 2 * 0 + _ ≤ _; exact Nat.le_of_eq rfl) (hb hby at_57) (fun _ _ => ⟨rfl, rfl, (by decide : 3 + 0 ≤ _), (by decide : 277 + 0 ≤ _)⟩)
    dsimp only [Pt.U, Pt.locs, Pt.cells, Pt.slots] at X139 l139 y139 z139 st139 hQ139
    subst l139 y139 z139
    obtain ⟨rfl, N139q, eh139⟩ := hQ139
    have N139 := Fr.app N132 N139q
    refine own_trans (g' := (mkF m 60 #[.val (.long q0_0), .second, .val (.int p0_1), .val (.int p0_2), .val (.int p0_3), .val (.int (t0_5 p0_1)), .val (.int (t0_12 p0_2)), .val (.ref b79), .unset] [(.long q0_0)])) st139 ?_
    refine own_s (g' := (mkF m 61 #[.val (.long q0_0), .second, .val (.int p0_1), .val (.int p0_2), .val (.int p0_3), .val (.int (t0_5 p0_1)), .val (.int (t0_12 p0_2)), .val (.ref b79), .unset] [(.long q0_0), (.long q0_0)])) (fun _ k => XS.lloadN X139.here hx rfl (hb hby at_60) rfl k) ?_
    refine own_s (g' := (mkF m 62 #[.val (.long q0_0), .second, .val (.int p0_1), .val (.int p0_2), .val (.int p0_3), .val (.int (t0_5 p0_1)), .val (.int (t0_12 p0_2)), .val (.ref b79), .unset] [(.int (lcmpW q0_0 q0_0))])) (fun _ k => XS.lcmp X139.here hx rfl (hb hby at_61) rfl k) ?_
    refine own_s (g' := (mkF m 65 #[.val (.long q0_0), .second, .val (.int p0_1), .val (.int p0_2), .val (.int p0_3), .val (.int (t0_5 p0_1)), .val (.int (t0_12 p0_2)), .val (.ref b79), .unset] [])) (fun _ k => XS.ifNo X139.here hx rfl (hb hby at_62) rfl ((if0 _ _).trans (teq ((lw_eq q0_0 q0_0).mpr rfl)).2) k) ?_
    refine own_s (g' := (mkF m 66 #[.val (.long q0_0), .second, .val (.int p0_1), .val (.int p0_2), .val (.int p0_3), .val (.int (t0_5 p0_1)), .val (.int (t0_12 p0_2)), .val (.ref b79), .unset] [(.int 1)])) (fun _ k => XS.iconst X139.here hx rfl (hb hby at_65) k) ?_
    refine own_s (g' := (mkF m 70 #[.val (.long q0_0), .second, .val (.int p0_1), .val (.int p0_2), .val (.int p0_3), .val (.int (t0_5 p0_1)), .val (.int (t0_12 p0_2)), .val (.ref b79), .unset] [(.int 1)])) (fun _ k => XS.goto X139.here hx rfl (pc0 := 66) (pc' := 70) rfl (hb hby at_66) (by decide) (by decide) k) ?_
    refine own_s (g' := (mkF m 72 #[.val (.long q0_0), .second, .val (.int p0_1), .val (.int p0_2), .val (.int p0_3), .val (.int (t0_5 p0_1)), .val (.int (t0_12 p0_2)), .val (.ref b79), .val (.int 1)] [])) (fun _ k => XS.istore X139.here hx rfl (hb hby at_70) rfl (l' := #[.val (.long q0_0), .second, .val (.int p0_1), .val (.int p0_2), .val (.int p0_3), .val (.int (t0_5 p0_1)), .val (.int (t0_12 p0_2)), .val (.ref b79), .val (.int 1)]) rfl k) ?_
    refine own_s (g' := (mkF m 74 #[.val (.long q0_0), .second, .val (.int p0_1), .val (.int p0_2), .val (.int p0_3), .val (.int (t0_5 p0_1)), .val (.int (t0_12 p0_2)), .val (.ref b79), .val (.int 1)] [(.int 1)])) (fun _ k => XS.iload X139.here hx rfl (hb hby at_72) rfl k) ?_
    refine own_s (g' := (mkF m 77 #[.val (.long q0_0), .second, .val (.int p0_1), .val (.int p0_2), .val (.int p0_3), .val (.int (t0_5 p0_1)), .val (.int (t0_12 p0_2)), .val (.ref b79), .val (.int 1)] [])) (fun _ k => XS.ifNo X139.here hx rfl (hb hby at_74) rfl ((if0 _ _).trans (feq ((by decide) : ¬ (1 : Int32) = (0 : Int32))).1) k) ?_
    refine own_s (g' := (mkF m 79 #[.val (.long q0_0), .second, .val (.int p0_1), .val (.int p0_2), .val (.int p0_3), .val (.int (t0_5 p0_1)), .val (.int (t0_12 p0_2)), .val (.ref b79), .val (.int 1)] [(.ref b79)])) (fun _ k => XS.aload X139.here hx rfl (hb hby at_77) rfl rfl k) ?_
    obtain ⟨cq140, kq140, q140a, q140b, q140c⟩ := isOf hZ eh139 f133
    obtain ⟨_, _, ⟨T140, L140, k140, n140⟩, -, X140, ⟨Lc140, hQ140, l140, y140, z140⟩, st140⟩ := X139.virtualBack hx (y := (⟨"com/example/burn_to_balance/burntobalance/io/CsvRecord", "size", "()I"⟩ : MethodName)) (z := (⟨"com/example/burn_to_balance/burntobalance/io/CsvRecord", "size", "()I"⟩ : MethodName)) hown (mvT hZ ww32) (mvT hZ ww33) (notFace_of_selects (args := #[]) (mvT hZ ww35)) (mvT hZ ww35) (mvT hZ ww34) (by decide) (backOf (W := 0) (rm5 l Z a0 hw [] b79 (0 : Int32) T132.heap n0 (Nat.le_trans Z0 K132.1) f138) hZ ww36 ww3 (by decide) (by decide)) q140a q140c (g := (mkF m 79 #[.val (.long q0_0), .second, .val (.int p0_1), .val (.int p0_2), .val (.int p0_3), .val (.int (t0_5 p0_1)), .val (.int (t0_12 p0_2)), .val (.ref b79), .val (.int 1)] [(.ref b79)])) rfl (by rw [hml]; rfl) (Steps.refl _) (argsL := []) (rest := []) (lenOf pd___I rfl) rfl (by show 2 * 0 + _ ≤ _; exact Nat.le_of_eq rfl) (hb hby at_79) (fun _ _ => ⟨rfl, eh139, (by decide : 3 + 0 ≤ _), (by decide : 277 + 0 ≤ _)⟩)
    dsimp only [Pt.U, Pt.locs, Pt.cells, Pt.slots] at X140 l140 y140 z140 st140 hQ140
    subst l140 y140 z140
    obtain ⟨rfl, N140q, eh140⟩ := hQ140
    have N140 := Fr.app N139 N140q
    refine own_trans (g' := (mkF m 82 #[.val (.long q0_0), .second, .val (.int p0_1), .val (.int p0_2), .val (.int p0_3), .val (.int (t0_5 p0_1)), .val (.int (t0_12 p0_2)), .val (.ref b79), .val (.int 1)] [(.int 0)])) st140 ?_
    refine own_s (g' := (mkF m 85 #[.val (.long q0_0), .second, .val (.int p0_1), .val (.int p0_2), .val (.int p0_3), .val (.int (t0_5 p0_1)), .val (.int (t0_12 p0_2)), .val (.ref b79), .val (.int 1)] [])) (fun _ k => XS.ifNo X140.here hx rfl (hb hby at_82) rfl ((if0 _ _).trans (teq ((by decide) : (0 : Int32) = (0 : Int32))).2) k) ?_
    refine own_s (g' := (mkF m 86 #[.val (.long q0_0), .second, .val (.int p0_1), .val (.int p0_2), .val (.int p0_3), .val (.int (t0_5 p0_1)), .val (.int (t0_12 p0_2)), .val (.ref b79), .val (.int 1)] [(.int 1)])) (fun _ k => XS.iconst X140.here hx rfl (hb hby at_85) k) ?_
    refine own_s (g' := (mkF m 90 #[.val (.long q0_0), .second, .val (.int p0_1), .val (.int p0_2), .val (.int p0_3), .val (.int (t0_5 p0_1)), .val (.int (t0_12 p0_2)), .val (.ref b79), .val (.int 1)] [(.int 1)])) (fun _ k => XS.goto X140.here hx rfl (pc0 := 86) (pc' := 90) rfl (hb hby at_86) (by decide) (by decide) k) ?_
    refine own_s (g' := (mkF m 92 #[.val (.long q0_0), .second, .val (.int p0_1), .val (.int p0_2), .val (.int p0_3), .val (.int (t0_5 p0_1)), .val (.int (t0_12 p0_2)), .val (.ref b79), .val (.int 1)] [])) (fun _ k => XS.istore X140.here hx rfl (hb hby at_90) rfl (l' := #[.val (.long q0_0), .second, .val (.int p0_1), .val (.int p0_2), .val (.int p0_3), .val (.int (t0_5 p0_1)), .val (.int (t0_12 p0_2)), .val (.ref b79), .val (.int 1)]) rfl k) ?_
    refine own_s (g' := (mkF m 94 #[.val (.long q0_0), .second, .val (.int p0_1), .val (.int p0_2), .val (.int p0_3), .val (.int (t0_5 p0_1)), .val (.int (t0_12 p0_2)), .val (.ref b79), .val (.int 1)] [(.int 1)])) (fun _ k => XS.iload X140.here hx rfl (hb hby at_92) rfl k) ?_
    refine own_s (g' := (mkF m 97 #[.val (.long q0_0), .second, .val (.int p0_1), .val (.int p0_2), .val (.int p0_3), .val (.int (t0_5 p0_1)), .val (.int (t0_12 p0_2)), .val (.ref b79), .val (.int 1)] [])) (fun _ k => XS.ifNo X140.here hx rfl (hb hby at_94) rfl ((if0 _ _).trans (feq ((by decide) : ¬ (1 : Int32) = (0 : Int32))).1) k) ?_
    refine own_s (g' := (mkF m 99 #[.val (.long q0_0), .second, .val (.int p0_1), .val (.int p0_2), .val (.int p0_3), .val (.int (t0_5 p0_1)), .val (.int (t0_12 p0_2)), .val (.ref b79), .val (.int 1)] [(.ref b79)])) (fun _ k => XS.aload X140.here hx rfl (hb hby at_97) rfl rfl k) ?_
    obtain ⟨cq141, kq141, q141a, q141b, q141c⟩ := isOf hZ eh140 f133
    obtain ⟨_, _, ⟨T141, L141, k141, n141⟩, -, X141, ⟨Lc141, hQ141, l141, y141, z141⟩, st141⟩ := X140.virtualBack hx (y := (⟨"com/example/burn_to_balance/burntobalance/io/CsvRecord", "isBlank", "()Z"⟩ : MethodName)) (z := (⟨"com/example/burn_to_balance/burntobalance/io/CsvRecord", "isBlank", "()Z"⟩ : MethodName)) hown (mvT hZ ww37) (mvT hZ ww38) (notFace_of_selects (args := #[]) (mvT hZ ww40)) (mvT hZ ww40) (mvT hZ ww39) (by decide) (backOf (W := 0) (rm6 l Z a0 hw [] b79 (0 : Int32) T132.heap n0 (Nat.le_trans Z0 K132.1) f137) hZ ww41 ww3 (by decide) (by decide)) q141a q141c (g := (mkF m 99 #[.val (.long q0_0), .second, .val (.int p0_1), .val (.int p0_2), .val (.int p0_3), .val (.int (t0_5 p0_1)), .val (.int (t0_12 p0_2)), .val (.ref b79), .val (.int 1)] [(.ref b79)])) rfl (by rw [hml]; rfl) (Steps.refl _) (argsL := []) (rest := []) (lenOf pd___Z rfl) rfl (by show 2 * 0 + _ ≤ _; exact Nat.le_of_eq rfl) (hb hby at_99) (fun _ _ => ⟨rfl, eh140, (by decide : 3 + 0 ≤ _), (by decide : 277 + 0 ≤ _)⟩)
    dsimp only [Pt.U, Pt.locs, Pt.cells, Pt.slots] at X141 l141 y141 z141 st141 hQ141
    subst l141 y141 z141
    obtain ⟨rfl, N141q, eh141⟩ := hQ141
    have N141 := Fr.app N140 N141q
    refine own_trans (g' := (mkF m 102 #[.val (.long q0_0), .second, .val (.int p0_1), .val (.int p0_2), .val (.int p0_3), .val (.int (t0_5 p0_1)), .val (.int (t0_12 p0_2)), .val (.ref b79), .val (.int 1)] [(.int (r6 (0 : Int32)))])) st141 ?_
    rw [show (r6 (0 : Int32)) = (1 : Int32) from (if_pos ((by decide) : (0 : Int32) = (0 : Int32)))]
    refine own_s (g' := (mkF m 105 #[.val (.long q0_0), .second, .val (.int p0_1), .val (.int p0_2), .val (.int p0_3), .val (.int (t0_5 p0_1)), .val (.int (t0_12 p0_2)), .val (.ref b79), .val (.int 1)] [])) (fun _ k => XS.ifNo X141.here hx rfl (hb hby at_102) rfl ((if0 _ _).trans (feq ((by decide) : ¬ (1 : Int32) = (0 : Int32))).1) k) ?_
    refine own_s (g' := (mkF m 106 #[.val (.long q0_0), .second, .val (.int p0_1), .val (.int p0_2), .val (.int p0_3), .val (.int (t0_5 p0_1)), .val (.int (t0_12 p0_2)), .val (.ref b79), .val (.int 1)] [(.int 1)])) (fun _ k => XS.iconst X141.here hx rfl (hb hby at_105) k) ?_
    refine own_s (g' := (mkF m 110 #[.val (.long q0_0), .second, .val (.int p0_1), .val (.int p0_2), .val (.int p0_3), .val (.int (t0_5 p0_1)), .val (.int (t0_12 p0_2)), .val (.ref b79), .val (.int 1)] [(.int 1)])) (fun _ k => XS.goto X141.here hx rfl (pc0 := 106) (pc' := 110) rfl (hb hby at_106) (by decide) (by decide) k) ?_
    refine own_s (g' := (mkF m 112 #[.val (.long q0_0), .second, .val (.int p0_1), .val (.int p0_2), .val (.int p0_3), .val (.int (t0_5 p0_1)), .val (.int (t0_12 p0_2)), .val (.ref b79), .val (.int 1)] [])) (fun _ k => XS.istore X141.here hx rfl (hb hby at_110) rfl (l' := #[.val (.long q0_0), .second, .val (.int p0_1), .val (.int p0_2), .val (.int p0_3), .val (.int (t0_5 p0_1)), .val (.int (t0_12 p0_2)), .val (.ref b79), .val (.int 1)]) rfl k) ?_
    refine own_s (g' := (mkF m 114 #[.val (.long q0_0), .second, .val (.int p0_1), .val (.int p0_2), .val (.int p0_3), .val (.int (t0_5 p0_1)), .val (.int (t0_12 p0_2)), .val (.ref b79), .val (.int 1)] [(.ref b79)])) (fun _ k => XS.aload X141.here hx rfl (hb hby at_112) rfl rfl k) ?_
    refine own_s (g' := (mkF m 116 #[.val (.long q0_0), .second, .val (.int p0_1), .val (.int p0_2), .val (.int p0_3), .val (.int (t0_5 p0_1)), .val (.int (t0_12 p0_2)), .val (.ref b79), .val (.int 1)] [(.int (t0_12 p0_2)), (.ref b79)])) (fun _ k => XS.iload X141.here hx rfl (hb hby at_114) rfl k) ?_
    have ne143 : b79 ≠ bf0_80 := Nat.ne_of_lt (Nat.lt_of_lt_of_le A79.lt hs_bf0_80)
    have f144 := ((f81.keep K123q (ninS (Ne.symm ne143) (ninS ne_bf0_80_bf1_80 nin0))).keep K132q (ninS (Ne.symm ne143) nin0))
    obtain ⟨cq142, kq142, q142a, q142b, q142c⟩ := isOf hZ eh141 f133
    obtain ⟨_, _, ⟨T142, L142, k142, n142⟩, -, X142, ⟨Lc142, hQ142, l142, y142, z142⟩, st142⟩ := X141.virtualBack hx (y := (⟨"com/example/burn_to_balance/burntobalance/io/CsvRecord", "append", "(C)V"⟩ : MethodName)) (z := (⟨"com/example/burn_to_balance/burntobalance/io/CsvRecord", "append", "(C)V"⟩ : MethodName)) hown (mvT hZ ww42) (mvT hZ ww43) (notFace_of_selects (args := #[]) (mvT hZ ww45)) (mvT hZ ww45) (mvT hZ ww44) (by decide) (backOf (W := 0) (rm7 l Z a0 hw [] b79 (t0_12 p0_2) bf0_80 bf1_80 q0_0 (0 : Int32) kf0_80 (0 : Int32) T132.heap n0 (Nat.le_trans Z0 K132.1) f137 f134 f135 f136 f138 f133 f144 g_b79 g_bf0_80 (Ne.symm ne143)) hZ ww46 ww3 (by decide) (by decide)) q142a q142c (g := (mkF m 116 #[.val (.long q0_0), .second, .val (.int p0_1), .val (.int p0_2), .val (.int p0_3), .val (.int (t0_5 p0_1)), .val (.int (t0_12 p0_2)), .val (.ref b79), .val (.int 1)] [(.int (t0_12 p0_2)), (.ref b79)])) rfl (by rw [hml]; rfl) (Steps.refl _) (argsL := [(.int (t0_12 p0_2))]) (rest := []) (lenOf pd__C_V rfl) rfl (by show 2 * 0 + _ ≤ _; exact Nat.le_of_eq rfl) (hb hby at_116) (fun _ _ => ⟨rfl, eh141, (by decide : 3 + 0 ≤ _), (by decide : 277 + 0 ≤ _)⟩)
    dsimp only [Pt.U, Pt.locs, Pt.cells, Pt.slots] at X142 l142 y142 z142 st142 hQ142
    subst l142 y142 z142
    obtain ⟨rfl, N142q, K142q, f145, f146, f147, f148, f149, f150, f151⟩ := hQ142
    have K142 := K132.trans K142q (allS (Or.inr sz_b79) (allS (Or.inr sz_bf0_80) all0))
    have N142 := Fr.app N141 N142q
    refine own_trans (g' := (mkF m 119 #[.val (.long q0_0), .second, .val (.int p0_1), .val (.int p0_2), .val (.int p0_3), .val (.int (t0_5 p0_1)), .val (.int (t0_12 p0_2)), .val (.ref b79), .val (.int 1)] [])) st142 ?_
    refine own_s (g' := (mkF m 121 #[.val (.long q0_0), .second, .val (.int p0_1), .val (.int p0_2), .val (.int p0_3), .val (.int (t0_5 p0_1)), .val (.int (t0_12 p0_2)), .val (.ref b79), .val (.int 1)] [(.ref b79)])) (fun _ k => XS.aload X142.here hx rfl (hb hby at_119) rfl rfl k) ?_
    have f153 := ((f131.keep K132q (ninS (Ne.symm ne124) nin0)).keep K142q (ninS (Ne.symm ne124) (ninS (Ne.symm ne_bf0_80_bf1_80) nin0)))
    obtain ⟨cq152, kq152, q152a, q152b, q152c⟩ := isOf hZ rfl f145
    obtain ⟨_, _, ⟨T152, L152, k152, n152⟩, -, X152, ⟨Lc152, hQ152, l152, y152, z152⟩, st152⟩ := X142.virtualBack hx (y := (⟨"com/example/burn_to_balance/burntobalance/io/CsvRecord", "endField", "()V"⟩ : MethodName)) (z := (⟨"com/example/burn_to_balance/burntobalance/io/CsvRecord", "endField", "()V"⟩ : MethodName)) hown (mvT hZ ww51) (mvT hZ ww52) (notFace_of_selects (args := #[]) (mvT hZ ww54)) (mvT hZ ww54) (mvT hZ ww53) (by decide) (backOf (W := 0) (rm9 l Z a0 hw [] b79 bf1_80 bf0_80 q0_0 (1 : Int32) kf1_80 (0 : Int32) T142.heap n0 (Nat.le_trans Z0 K142.1) f149 f147 f146 f148 f150 f145 f153 g_b79 g_bf1_80 (Ne.symm ne124)) hZ ww55 ww3 (by decide) (by decide)) q152a q152c (g := (mkF m 121 #[.val (.long q0_0), .second, .val (.int p0_1), .val (.int p0_2), .val (.int p0_3), .val (.int (t0_5 p0_1)), .val (.int (t0_12 p0_2)), .val (.ref b79), .val (.int 1)] [(.ref b79)])) rfl (by rw [hml]; rfl) (Steps.refl _) (argsL := []) (rest := []) (lenOf pd___V rfl) rfl (by show 2 * 0 + _ ≤ _; exact Nat.le_of_eq rfl) (hb hby at_121) (fun _ _ => ⟨rfl, rfl, (by decide : 3 + 0 ≤ _), (by decide : 277 + 0 ≤ _)⟩)
    dsimp only [Pt.U, Pt.locs, Pt.cells, Pt.slots] at X152 l152 y152 z152 st152 hQ152
    subst l152 y152 z152
    obtain ⟨rfl, N152q, K152q, f154, f155, f156, f157, f158, f159, f160⟩ := hQ152
    have K152 := K142.trans K152q (allS (Or.inr sz_b79) (allS (Or.inr sz_bf1_80) all0))
    have N152 := Fr.app N142 N152q
    refine own_trans (g' := (mkF m 124 #[.val (.long q0_0), .second, .val (.int p0_1), .val (.int p0_2), .val (.int p0_3), .val (.int (t0_5 p0_1)), .val (.int (t0_12 p0_2)), .val (.ref b79), .val (.int 1)] [])) st152 ?_
    refine own_s (g' := (mkF m 126 #[.val (.long q0_0), .second, .val (.int p0_1), .val (.int p0_2), .val (.int p0_3), .val (.int (t0_5 p0_1)), .val (.int (t0_12 p0_2)), .val (.ref b79), .val (.int 1)] [(.int 1)])) (fun _ k => XS.iload X152.here hx rfl (hb hby at_124) rfl k) ?_
    refine own_s (g' := (mkF m 129 #[.val (.long q0_0), .second, .val (.int p0_1), .val (.int p0_2), .val (.int p0_3), .val (.int (t0_5 p0_1)), .val (.int (t0_12 p0_2)), .val (.ref b79), .val (.int 1)] [])) (fun _ k => XS.ifNo X152.here hx rfl (hb hby at_126) rfl ((if0 _ _).trans (feq ((by decide) : ¬ (1 : Int32) = (0 : Int32))).1) k) ?_
    refine own_s (g' := (mkF m 131 #[.val (.long q0_0), .second, .val (.int p0_1), .val (.int p0_2), .val (.int p0_3), .val (.int (t0_5 p0_1)), .val (.int (t0_12 p0_2)), .val (.ref b79), .val (.int 1)] [(.ref b79)])) (fun _ k => XS.aload X152.here hx rfl (hb hby at_129) rfl rfl k) ?_
    refine own_s (g' := (mkF m 132 #[.val (.long q0_0), .second, .val (.int p0_1), .val (.int p0_2), .val (.int p0_3), .val (.int (t0_5 p0_1)), .val (.int (t0_12 p0_2)), .val (.ref b79), .val (.int 1)] [(.int 0), (.ref b79)])) (fun _ k => XS.iconst X152.here hx rfl (hb hby at_131) k) ?_
    refine own_s (g' := (mkF m 133 #[.val (.long q0_0), .second, .val (.int p0_1), .val (.int p0_2), .val (.int p0_3), .val (.int (t0_5 p0_1)), .val (.int (t0_12 p0_2)), .val (.ref b79), .val (.int 1)] [(.int 0), (.int 0), (.ref b79)])) (fun _ k => XS.iconst X152.here hx rfl (hb hby at_132) k) ?_
    have f162 := (f151.keep K152q (ninS (Ne.symm ne143) (ninS ne_bf0_80_bf1_80 nin0)))
    obtain ⟨cq161, kq161, q161a, q161b, q161c⟩ := isOf hZ rfl f154
    obtain ⟨_, _, ⟨T161, L161, k161, n161⟩, -, X161, ⟨Lc161, hQ161, l161, y161, z161⟩, st161⟩ := X152.virtualBack hx (y := (⟨"com/example/burn_to_balance/burntobalance/io/CsvRecord", "charAt", "(II)C"⟩ : MethodName)) (z := (⟨"com/example/burn_to_balance/burntobalance/io/CsvRecord", "charAt", "(II)C"⟩ : MethodName)) hown (mvT hZ ww56) (mvT hZ ww57) (notFace_of_selects (args := #[]) (mvT hZ ww59)) (mvT hZ ww59) (mvT hZ ww58) (by decide) (backOf (W := 0) (rm10 l Z a0 hw [] b79 bf0_80 kf0_80 (nar .char (t0_12 p0_2)) T152.heap n0 (Nat.le_trans Z0 K152.1) f156 f154 f162) hZ ww60 ww3 (by decide) (by decide)) q161a q161c (g := (mkF m 133 #[.val (.long q0_0), .second, .val (.int p0_1), .val (.int p0_2), .val (.int p0_3), .val (.int (t0_5 p0_1)), .val (.int (t0_12 p0_2)), .val (.ref b79), .val (.int 1)] [(.int 0), (.int 0), (.ref b79)])) rfl (by rw [hml]; rfl) (Steps.refl _) (argsL := [(.int 0), (.int 0)]) (rest := []) (lenOf pd__II_C rfl) rfl (by show 2 * 0 + _ ≤ _; exact Nat.le_of_eq rfl) (hb hby at_133) (fun _ _ => ⟨rfl, rfl, (by decide : 3 + 0 ≤ _), (by decide : 277 + 0 ≤ _)⟩)
    dsimp only [Pt.U, Pt.locs, Pt.cells, Pt.slots] at X161 l161 y161 z161 st161 hQ161
    subst l161 y161 z161
    obtain ⟨rfl, N161q, eh161⟩ := hQ161
    have N161 := Fr.app N152 N161q
    refine own_trans (g' := (mkF m 136 #[.val (.long q0_0), .second, .val (.int p0_1), .val (.int p0_2), .val (.int p0_3), .val (.int (t0_5 p0_1)), .val (.int (t0_12 p0_2)), .val (.ref b79), .val (.int 1)] [(.int (r10 (nar .char (t0_12 p0_2))))])) st161 ?_
    refine own_s (g' := (mkF m 138 #[.val (.long q0_0), .second, .val (.int p0_1), .val (.int p0_2), .val (.int p0_3), .val (.int (t0_5 p0_1)), .val (.int (t0_12 p0_2)), .val (.ref b79), .val (.int 1)] [(.int (t0_12 p0_2)), (.int (r10 (nar .char (t0_12 p0_2))))])) (fun _ k => XS.iload X161.here hx rfl (hb hby at_136) rfl k) ?_
    refine own_s (g' := (mkF m 141 #[.val (.long q0_0), .second, .val (.int p0_1), .val (.int p0_2), .val (.int p0_3), .val (.int (t0_5 p0_1)), .val (.int (t0_12 p0_2)), .val (.ref b79), .val (.int 1)] [])) (fun _ k => XS.icmpNo X161.here hx rfl (hb hby at_138) rfl (teq ((own_i2c2 _) : (r10 (nar .char (t0_12 p0_2))) = (t0_12 p0_2))).2 k) ?_
    refine own_s (g' := (mkF m 142 #[.val (.long q0_0), .second, .val (.int p0_1), .val (.int p0_2), .val (.int p0_3), .val (.int (t0_5 p0_1)), .val (.int (t0_12 p0_2)), .val (.ref b79), .val (.int 1)] [(.int 1)])) (fun _ k => XS.iconst X161.here hx rfl (hb hby at_141) k) ?_
    refine own_s (g' := (mkF m 146 #[.val (.long q0_0), .second, .val (.int p0_1), .val (.int p0_2), .val (.int p0_3), .val (.int (t0_5 p0_1)), .val (.int (t0_12 p0_2)), .val (.ref b79), .val (.int 1)] [(.int 1)])) (fun _ k => XS.goto X161.here hx rfl (pc0 := 142) (pc' := 146) rfl (hb hby at_142) (by decide) (by decide) k) ?_
    refine own_s (g' := (mkF m 148 #[.val (.long q0_0), .second, .val (.int p0_1), .val (.int p0_2), .val (.int p0_3), .val (.int (t0_5 p0_1)), .val (.int (t0_12 p0_2)), .val (.ref b79), .val (.int 1)] [])) (fun _ k => XS.istore X161.here hx rfl (hb hby at_146) rfl (l' := #[.val (.long q0_0), .second, .val (.int p0_1), .val (.int p0_2), .val (.int p0_3), .val (.int (t0_5 p0_1)), .val (.int (t0_12 p0_2)), .val (.ref b79), .val (.int 1)]) rfl k) ?_
    refine own_s (g' := (mkF m 150 #[.val (.long q0_0), .second, .val (.int p0_1), .val (.int p0_2), .val (.int p0_3), .val (.int (t0_5 p0_1)), .val (.int (t0_12 p0_2)), .val (.ref b79), .val (.int 1)] [(.int 1)])) (fun _ k => XS.iload X161.here hx rfl (hb hby at_148) rfl k) ?_
    refine own_retN X161 hx hlk (t := .boolean) hret (by simp) (hb hby at_150) (z' := (1 : Int32)) (by decide) (by decide) (by decide) ?_
    show Q0 Z q0_0 p0_1 p0_2 p0_3 h0 n0 _ T161.heap _
    rw [eh161]
    exact ⟨rfl, N161⟩
  ·skip
   refine own_s (g' := (mkF m 30 #[.val (.long q0_0), .second, .val (.int p0_1), .val (.int p0_2), .val (.int p0_3), .val (.int (t0_5 p0_1)), .val (.int (t0_12 p0_2)), .val (.ref b79), .unset] [])) (fun _ k => XS.ifNo X80.here hx rfl (hb hby at_27) rfl ((if0 _ _).trans (feq c89).1) k) ?_
   refine own_s (g' := (mkF m 32 #[.val (.long q0_0), .second, .val (.int p0_1), .val (.int p0_2), .val (.int p0_3), .val (.int (t0_5 p0_1)), .val (.int (t0_12 p0_2)), .val (.ref b79), .unset] [(.ref b79)])) (fun _ k => XS.aload X80.here hx rfl (hb hby at_30) rfl rfl k) ?_
   refine own_s (g' := (mkF m 34 #[.val (.long q0_0), .second, .val (.int p0_1), .val (.int p0_2), .val (.int p0_3), .val (.int (t0_5 p0_1)), .val (.int (t0_12 p0_2)), .val (.ref b79), .unset] [(.int (t0_5 p0_1)), (.ref b79)])) (fun _ k => XS.iload X80.here hx rfl (hb hby at_32) rfl k) ?_
   have ne164 : b79 ≠ bf0_80 := Nat.ne_of_lt (Nat.lt_of_lt_of_le A79.lt hs_bf0_80)
   obtain ⟨cq163, kq163, q163a, q163b, q163c⟩ := isOf hZ rfl f83
   obtain ⟨_, _, ⟨T163, L163, k163, n163⟩, -, X163, ⟨Lc163, hQ163, l163, y163, z163⟩, st163⟩ := X80.virtualBack hx (y := (⟨"com/example/burn_to_balance/burntobalance/io/CsvRecord", "append", "(C)V"⟩ : MethodName)) (z := (⟨"com/example/burn_to_balance/burntobalance/io/CsvRecord", "append", "(C)V"⟩ : MethodName)) hown (mvT hZ ww42) (mvT hZ ww43) (notFace_of_selects (args := #[]) (mvT hZ ww45)) (mvT hZ ww45) (mvT hZ ww44) (by decide) (backOf (W := 0) (rm7 l Z a0 hw [] b79 (t0_5 p0_1) bf0_80 bf1_80 (0 : Int64) (0 : Int32) kf0_80 (0 : Int32) T80.heap n0 (Nat.le_trans Z0 K80.1) f85 f87 f88 f84 f86 f83 f81 g_b79 g_bf0_80 (Ne.symm ne164)) hZ ww46 ww3 (by decide) (by decide)) q163a q163c (g := (mkF m 34 #[.val (.long q0_0), .second, .val (.int p0_1), .val (.int p0_2), .val (.int p0_3), .val (.int (t0_5 p0_1)), .val (.int (t0_12 p0_2)), .val (.ref b79), .unset] [(.int (t0_5 p0_1)), (.ref b79)])) rfl (by rw [hml]; rfl) (Steps.refl _) (argsL := [(.int (t0_5 p0_1))]) (rest := []) (lenOf pd__C_V rfl) rfl (by show 2 * 0 + _ ≤ _; exact Nat.le_of_eq rfl) (hb hby at_34) (fun _ _ => ⟨rfl, rfl, (by decide : 3 + 0 ≤ _), (by decide : 277 + 0 ≤ _)⟩)
   dsimp only [Pt.U, Pt.locs, Pt.cells, Pt.slots] at X163 l163 y163 z163 st163 hQ163
   subst l163 y163 z163
   obtain ⟨rfl, N163q, K163q, f165, f166, f167, f168, f169, f170, f171⟩ := hQ163
   have K163 := K80.trans K163q (allS (Or.inr sz_b79) (allS (Or.inr sz_bf0_80) all0))
   have N163 := Fr.app N80 N163q
   refine own_trans (g' := (mkF m 37 #[.val (.long q0_0), .second, .val (.int p0_1), .val (.int p0_2), .val (.int p0_3), .val (.int (t0_5 p0_1)), .val (.int (t0_12 p0_2)), .val (.ref b79), .unset] [])) st163 ?_
   refine own_s (g' := (mkF m 39 #[.val (.long q0_0), .second, .val (.int p0_1), .val (.int p0_2), .val (.int p0_3), .val (.int (t0_5 p0_1)), .val (.int (t0_12 p0_2)), .val (.ref b79), .unset] [(.int p0_3)])) (fun _ k => XS.iload X163.here hx rfl (hb hby at_37) rfl k) ?_
   refine own_s (g' := (mkF m 40 #[.val (.long q0_0), .second, .val (.int p0_1), .val (.int p0_2), .val (.int p0_3), .val (.int (t0_5 p0_1)), .val (.int (t0_12 p0_2)), .val (.ref b79), .unset] [(.int 2), (.int p0_3)])) (fun _ k => XS.iconst X163.here hx rfl (hb hby at_39) k) ?_
   refine own_s (g' := (mkF m 41 #[.val (.long q0_0), .second, .val (.int p0_1), .val (.int p0_2), .val (.int p0_3), .val (.int (t0_5 p0_1)), .val (.int (t0_12 p0_2)), .val (.ref b79), .unset] [(.int (p0_3 &&& (2 : Int32)))])) (fun _ k => XS.iand X163.here hx rfl (hb hby at_40) rfl k) ?_
   by_cases c172 : (p0_3 &&& (2 : Int32)) = (0 : Int32)
   ·skip
    refine own_s (g' := (mkF m 49 #[.val (.long q0_0), .second, .val (.int p0_1), .val (.int p0_2), .val (.int p0_3), .val (.int (t0_5 p0_1)), .val (.int (t0_12 p0_2)), .val (.ref b79), .unset] [])) (fun _ k => XS.ifYes X163.here hx rfl (pc0 := 41) (pc' := 49) rfl (hb hby at_41) rfl ((if0 _ _).trans (teq c172).1) (by decide) (by decide) k) ?_
    refine own_s (g' := (mkF m 51 #[.val (.long q0_0), .second, .val (.int p0_1), .val (.int p0_2), .val (.int p0_3), .val (.int (t0_5 p0_1)), .val (.int (t0_12 p0_2)), .val (.ref b79), .unset] [(.ref b79)])) (fun _ k => XS.aload X163.here hx rfl (hb hby at_49) rfl rfl k) ?_
    refine own_s (g' := (mkF m 52 #[.val (.long q0_0), .second, .val (.int p0_1), .val (.int p0_2), .val (.int p0_3), .val (.int (t0_5 p0_1)), .val (.int (t0_12 p0_2)), .val (.ref b79), .unset] [(.long q0_0), (.ref b79)])) (fun _ k => XS.lloadN X163.here hx rfl (hb hby at_51) rfl k) ?_
    obtain ⟨cq173, kq173, q173a, q173b, q173c⟩ := isOf hZ rfl f165
    obtain ⟨_, _, ⟨T173, L173, k173, n173⟩, -, X173, ⟨Lc173, hQ173, l173, y173, z173⟩, st173⟩ := X163.virtualBack hx (y := (⟨"com/example/burn_to_balance/burntobalance/io/CsvRecord", "start", "(J)V"⟩ : MethodName)) (z := (⟨"com/example/burn_to_balance/burntobalance/io/CsvRecord", "start", "(J)V"⟩ : MethodName)) hown (mvT hZ ww16) (mvT hZ ww17) (notFace_of_selects (args := #[]) (mvT hZ ww19)) (mvT hZ ww19) (mvT hZ ww18) (by decide) (backOf (W := 0) (rm3 l Z a0 hw [] b79 q0_0 (0 : Int64) bf0_80 bf1_80 (1 : Int32) (0 : Int32) T163.heap n0 (Nat.le_trans Z0 K163.1) f168 f166 f167 f170 f169 f165 g_b79) hZ ww20 ww3 (by decide) (by decide)) q173a q173c (g := (mkF m 52 #[.val (.long q0_0), .second, .val (.int p0_1), .val (.int p0_2), .val (.int p0_3), .val (.int (t0_5 p0_1)), .val (.int (t0_12 p0_2)), .val (.ref b79), .unset] [(.long q0_0), (.ref b79)])) rfl (by rw [hml]; rfl) (Steps.refl _) (argsL := [(.long q0_0)]) (rest := []) (lenOf pd__J_V rfl) rfl (by show 2 * 0 + _ ≤ _; exact Nat.le_of_eq rfl) (hb hby at_52) (fun _ _ => ⟨rfl, rfl, (by decide : 3 + 0 ≤ _), (by decide : 277 + 0 ≤ _)⟩)
    dsimp only [Pt.U, Pt.locs, Pt.cells, Pt.slots] at X173 l173 y173 z173 st173 hQ173
    subst l173 y173 z173
    obtain ⟨rfl, N173q, K173q, f174, f175, f176, f177, f178, f179⟩ := hQ173
    have K173 := K163.trans K173q (allS (Or.inr sz_b79) all0)
    have N173 := Fr.app N163 N173q
    refine own_trans (g' := (mkF m 55 #[.val (.long q0_0), .second, .val (.int p0_1), .val (.int p0_2), .val (.int p0_3), .val (.int (t0_5 p0_1)), .val (.int (t0_12 p0_2)), .val (.ref b79), .unset] [])) st173 ?_
    refine own_s (g' := (mkF m 57 #[.val (.long q0_0), .second, .val (.int p0_1), .val (.int p0_2), .val (.int p0_3), .val (.int (t0_5 p0_1)), .val (.int (t0_12 p0_2)), .val (.ref b79), .unset] [(.ref b79)])) (fun _ k => XS.aload X173.here hx rfl (hb hby at_55) rfl rfl k) ?_
    obtain ⟨cq180, kq180, q180a, q180b, q180c⟩ := isOf hZ rfl f174
    obtain ⟨_, _, ⟨T180, L180, k180, n180⟩, -, X180, ⟨Lc180, hQ180, l180, y180, z180⟩, st180⟩ := X173.virtualBack hx (y := (⟨"com/example/burn_to_balance/burntobalance/io/CsvRecord", "line", "()J"⟩ : MethodName)) (z := (⟨"com/example/burn_to_balance/burntobalance/io/CsvRecord", "line", "()J"⟩ : MethodName)) hown (mvT hZ ww27) (mvT hZ ww28) (notFace_of_selects (args := #[]) (mvT hZ ww30)) (mvT hZ ww30) (mvT hZ ww29) (by decide) (backOf (W := 0) (rm4 l Z a0 hw [] b79 q0_0 T173.heap n0 (Nat.le_trans Z0 K173.1) f177) hZ ww31 ww3 (by decide) (by decide)) q180a q180c (g := (mkF m 57 #[.val (.long q0_0), .second, .val (.int p0_1), .val (.int p0_2), .val (.int p0_3), .val (.int (t0_5 p0_1)), .val (.int (t0_12 p0_2)), .val (.ref b79), .unset] [(.ref b79)])) rfl (by rw [hml]; rfl) (Steps.refl _) (argsL := []) (rest := []) (lenOf pd___J rfl) rfl (by show 2 * 0 + _ ≤ _; exact Nat.le_of_eq rfl) (hb hby at_57) (fun _ _ => ⟨rfl, rfl, (by decide : 3 + 0 ≤ _), (by decide : 277 + 0 ≤ _)⟩)
    dsimp only [Pt.U, Pt.locs, Pt.cells, Pt.slots] at X180 l180 y180 z180 st180 hQ180
    subst l180 y180 z180
    obtain ⟨rfl, N180q, eh180⟩ := hQ180
    have N180 := Fr.app N173 N180q
    refine own_trans (g' := (mkF m 60 #[.val (.long q0_0), .second, .val (.int p0_1), .val (.int p0_2), .val (.int p0_3), .val (.int (t0_5 p0_1)), .val (.int (t0_12 p0_2)), .val (.ref b79), .unset] [(.long q0_0)])) st180 ?_
    refine own_s (g' := (mkF m 61 #[.val (.long q0_0), .second, .val (.int p0_1), .val (.int p0_2), .val (.int p0_3), .val (.int (t0_5 p0_1)), .val (.int (t0_12 p0_2)), .val (.ref b79), .unset] [(.long q0_0), (.long q0_0)])) (fun _ k => XS.lloadN X180.here hx rfl (hb hby at_60) rfl k) ?_
    refine own_s (g' := (mkF m 62 #[.val (.long q0_0), .second, .val (.int p0_1), .val (.int p0_2), .val (.int p0_3), .val (.int (t0_5 p0_1)), .val (.int (t0_12 p0_2)), .val (.ref b79), .unset] [(.int (lcmpW q0_0 q0_0))])) (fun _ k => XS.lcmp X180.here hx rfl (hb hby at_61) rfl k) ?_
    refine own_s (g' := (mkF m 65 #[.val (.long q0_0), .second, .val (.int p0_1), .val (.int p0_2), .val (.int p0_3), .val (.int (t0_5 p0_1)), .val (.int (t0_12 p0_2)), .val (.ref b79), .unset] [])) (fun _ k => XS.ifNo X180.here hx rfl (hb hby at_62) rfl ((if0 _ _).trans (teq ((lw_eq q0_0 q0_0).mpr rfl)).2) k) ?_
    refine own_s (g' := (mkF m 66 #[.val (.long q0_0), .second, .val (.int p0_1), .val (.int p0_2), .val (.int p0_3), .val (.int (t0_5 p0_1)), .val (.int (t0_12 p0_2)), .val (.ref b79), .unset] [(.int 1)])) (fun _ k => XS.iconst X180.here hx rfl (hb hby at_65) k) ?_
    refine own_s (g' := (mkF m 70 #[.val (.long q0_0), .second, .val (.int p0_1), .val (.int p0_2), .val (.int p0_3), .val (.int (t0_5 p0_1)), .val (.int (t0_12 p0_2)), .val (.ref b79), .unset] [(.int 1)])) (fun _ k => XS.goto X180.here hx rfl (pc0 := 66) (pc' := 70) rfl (hb hby at_66) (by decide) (by decide) k) ?_
    refine own_s (g' := (mkF m 72 #[.val (.long q0_0), .second, .val (.int p0_1), .val (.int p0_2), .val (.int p0_3), .val (.int (t0_5 p0_1)), .val (.int (t0_12 p0_2)), .val (.ref b79), .val (.int 1)] [])) (fun _ k => XS.istore X180.here hx rfl (hb hby at_70) rfl (l' := #[.val (.long q0_0), .second, .val (.int p0_1), .val (.int p0_2), .val (.int p0_3), .val (.int (t0_5 p0_1)), .val (.int (t0_12 p0_2)), .val (.ref b79), .val (.int 1)]) rfl k) ?_
    refine own_s (g' := (mkF m 74 #[.val (.long q0_0), .second, .val (.int p0_1), .val (.int p0_2), .val (.int p0_3), .val (.int (t0_5 p0_1)), .val (.int (t0_12 p0_2)), .val (.ref b79), .val (.int 1)] [(.int 1)])) (fun _ k => XS.iload X180.here hx rfl (hb hby at_72) rfl k) ?_
    refine own_s (g' := (mkF m 77 #[.val (.long q0_0), .second, .val (.int p0_1), .val (.int p0_2), .val (.int p0_3), .val (.int (t0_5 p0_1)), .val (.int (t0_12 p0_2)), .val (.ref b79), .val (.int 1)] [])) (fun _ k => XS.ifNo X180.here hx rfl (hb hby at_74) rfl ((if0 _ _).trans (feq ((by decide) : ¬ (1 : Int32) = (0 : Int32))).1) k) ?_
    refine own_s (g' := (mkF m 79 #[.val (.long q0_0), .second, .val (.int p0_1), .val (.int p0_2), .val (.int p0_3), .val (.int (t0_5 p0_1)), .val (.int (t0_12 p0_2)), .val (.ref b79), .val (.int 1)] [(.ref b79)])) (fun _ k => XS.aload X180.here hx rfl (hb hby at_77) rfl rfl k) ?_
    obtain ⟨cq181, kq181, q181a, q181b, q181c⟩ := isOf hZ eh180 f174
    obtain ⟨_, _, ⟨T181, L181, k181, n181⟩, -, X181, ⟨Lc181, hQ181, l181, y181, z181⟩, st181⟩ := X180.virtualBack hx (y := (⟨"com/example/burn_to_balance/burntobalance/io/CsvRecord", "size", "()I"⟩ : MethodName)) (z := (⟨"com/example/burn_to_balance/burntobalance/io/CsvRecord", "size", "()I"⟩ : MethodName)) hown (mvT hZ ww32) (mvT hZ ww33) (notFace_of_selects (args := #[]) (mvT hZ ww35)) (mvT hZ ww35) (mvT hZ ww34) (by decide) (backOf (W := 0) (rm5 l Z a0 hw [] b79 (0 : Int32) T173.heap n0 (Nat.le_trans Z0 K173.1) f179) hZ ww36 ww3 (by decide) (by decide)) q181a q181c (g := (mkF m 79 #[.val (.long q0_0), .second, .val (.int p0_1), .val (.int p0_2), .val (.int p0_3), .val (.int (t0_5 p0_1)), .val (.int (t0_12 p0_2)), .val (.ref b79), .val (.int 1)] [(.ref b79)])) rfl (by rw [hml]; rfl) (Steps.refl _) (argsL := []) (rest := []) (lenOf pd___I rfl) rfl (by show 2 * 0 + _ ≤ _; exact Nat.le_of_eq rfl) (hb hby at_79) (fun _ _ => ⟨rfl, eh180, (by decide : 3 + 0 ≤ _), (by decide : 277 + 0 ≤ _)⟩)
    dsimp only [Pt.U, Pt.locs, Pt.cells, Pt.slots] at X181 l181 y181 z181 st181 hQ181
    subst l181 y181 z181
    obtain ⟨rfl, N181q, eh181⟩ := hQ181
    have N181 := Fr.app N180 N181q
    refine own_trans (g' := (mkF m 82 #[.val (.long q0_0), .second, .val (.int p0_1), .val (.int p0_2), .val (.int p0_3), .val (.int (t0_5 p0_1)), .val (.int (t0_12 p0_2)), .val (.ref b79), .val (.int 1)] [(.int 0)])) st181 ?_
    refine own_s (g' := (mkF m 85 #[.val (.long q0_0), .second, .val (.int p0_1), .val (.int p0_2), .val (.int p0_3), .val (.int (t0_5 p0_1)), .val (.int (t0_12 p0_2)), .val (.ref b79), .val (.int 1)] [])) (fun _ k => XS.ifNo X181.here hx rfl (hb hby at_82) rfl ((if0 _ _).trans (teq ((by decide) : (0 : Int32) = (0 : Int32))).2) k) ?_
    refine own_s (g' := (mkF m 86 #[.val (.long q0_0), .second, .val (.int p0_1), .val (.int p0_2), .val (.int p0_3), .val (.int (t0_5 p0_1)), .val (.int (t0_12 p0_2)), .val (.ref b79), .val (.int 1)] [(.int 1)])) (fun _ k => XS.iconst X181.here hx rfl (hb hby at_85) k) ?_
    refine own_s (g' := (mkF m 90 #[.val (.long q0_0), .second, .val (.int p0_1), .val (.int p0_2), .val (.int p0_3), .val (.int (t0_5 p0_1)), .val (.int (t0_12 p0_2)), .val (.ref b79), .val (.int 1)] [(.int 1)])) (fun _ k => XS.goto X181.here hx rfl (pc0 := 86) (pc' := 90) rfl (hb hby at_86) (by decide) (by decide) k) ?_
    refine own_s (g' := (mkF m 92 #[.val (.long q0_0), .second, .val (.int p0_1), .val (.int p0_2), .val (.int p0_3), .val (.int (t0_5 p0_1)), .val (.int (t0_12 p0_2)), .val (.ref b79), .val (.int 1)] [])) (fun _ k => XS.istore X181.here hx rfl (hb hby at_90) rfl (l' := #[.val (.long q0_0), .second, .val (.int p0_1), .val (.int p0_2), .val (.int p0_3), .val (.int (t0_5 p0_1)), .val (.int (t0_12 p0_2)), .val (.ref b79), .val (.int 1)]) rfl k) ?_
    refine own_s (g' := (mkF m 94 #[.val (.long q0_0), .second, .val (.int p0_1), .val (.int p0_2), .val (.int p0_3), .val (.int (t0_5 p0_1)), .val (.int (t0_12 p0_2)), .val (.ref b79), .val (.int 1)] [(.int 1)])) (fun _ k => XS.iload X181.here hx rfl (hb hby at_92) rfl k) ?_
    refine own_s (g' := (mkF m 97 #[.val (.long q0_0), .second, .val (.int p0_1), .val (.int p0_2), .val (.int p0_3), .val (.int (t0_5 p0_1)), .val (.int (t0_12 p0_2)), .val (.ref b79), .val (.int 1)] [])) (fun _ k => XS.ifNo X181.here hx rfl (hb hby at_94) rfl ((if0 _ _).trans (feq ((by decide) : ¬ (1 : Int32) = (0 : Int32))).1) k) ?_
    refine own_s (g' := (mkF m 99 #[.val (.long q0_0), .second, .val (.int p0_1), .val (.int p0_2), .val (.int p0_3), .val (.int (t0_5 p0_1)), .val (.int (t0_12 p0_2)), .val (.ref b79), .val (.int 1)] [(.ref b79)])) (fun _ k => XS.aload X181.here hx rfl (hb hby at_97) rfl rfl k) ?_
    obtain ⟨cq182, kq182, q182a, q182b, q182c⟩ := isOf hZ eh181 f174
    obtain ⟨_, _, ⟨T182, L182, k182, n182⟩, -, X182, ⟨Lc182, hQ182, l182, y182, z182⟩, st182⟩ := X181.virtualBack hx (y := (⟨"com/example/burn_to_balance/burntobalance/io/CsvRecord", "isBlank", "()Z"⟩ : MethodName)) (z := (⟨"com/example/burn_to_balance/burntobalance/io/CsvRecord", "isBlank", "()Z"⟩ : MethodName)) hown (mvT hZ ww37) (mvT hZ ww38) (notFace_of_selects (args := #[]) (mvT hZ ww40)) (mvT hZ ww40) (mvT hZ ww39) (by decide) (backOf (W := 0) (rm6 l Z a0 hw [] b79 (0 : Int32) T173.heap n0 (Nat.le_trans Z0 K173.1) f178) hZ ww41 ww3 (by decide) (by decide)) q182a q182c (g := (mkF m 99 #[.val (.long q0_0), .second, .val (.int p0_1), .val (.int p0_2), .val (.int p0_3), .val (.int (t0_5 p0_1)), .val (.int (t0_12 p0_2)), .val (.ref b79), .val (.int 1)] [(.ref b79)])) rfl (by rw [hml]; rfl) (Steps.refl _) (argsL := []) (rest := []) (lenOf pd___Z rfl) rfl (by show 2 * 0 + _ ≤ _; exact Nat.le_of_eq rfl) (hb hby at_99) (fun _ _ => ⟨rfl, eh181, (by decide : 3 + 0 ≤ _), (by decide : 277 + 0 ≤ _)⟩)
    dsimp only [Pt.U, Pt.locs, Pt.cells, Pt.slots] at X182 l182 y182 z182 st182 hQ182
    subst l182 y182 z182
    obtain ⟨rfl, N182q, eh182⟩ := hQ182
    have N182 := Fr.app N181 N182q
    refine own_trans (g' := (mkF m 102 #[.val (.long q0_0), .second, .val (.int p0_1), .val (.int p0_2), .val (.int p0_3), .val (.int (t0_5 p0_1)), .val (.int (t0_12 p0_2)), .val (.ref b79), .val (.int 1)] [(.int (r6 (0 : Int32)))])) st182 ?_
    rw [show (r6 (0 : Int32)) = (1 : Int32) from (if_pos ((by decide) : (0 : Int32) = (0 : Int32)))]
    refine own_s (g' := (mkF m 105 #[.val (.long q0_0), .second, .val (.int p0_1), .val (.int p0_2), .val (.int p0_3), .val (.int (t0_5 p0_1)), .val (.int (t0_12 p0_2)), .val (.ref b79), .val (.int 1)] [])) (fun _ k => XS.ifNo X182.here hx rfl (hb hby at_102) rfl ((if0 _ _).trans (feq ((by decide) : ¬ (1 : Int32) = (0 : Int32))).1) k) ?_
    refine own_s (g' := (mkF m 106 #[.val (.long q0_0), .second, .val (.int p0_1), .val (.int p0_2), .val (.int p0_3), .val (.int (t0_5 p0_1)), .val (.int (t0_12 p0_2)), .val (.ref b79), .val (.int 1)] [(.int 1)])) (fun _ k => XS.iconst X182.here hx rfl (hb hby at_105) k) ?_
    refine own_s (g' := (mkF m 110 #[.val (.long q0_0), .second, .val (.int p0_1), .val (.int p0_2), .val (.int p0_3), .val (.int (t0_5 p0_1)), .val (.int (t0_12 p0_2)), .val (.ref b79), .val (.int 1)] [(.int 1)])) (fun _ k => XS.goto X182.here hx rfl (pc0 := 106) (pc' := 110) rfl (hb hby at_106) (by decide) (by decide) k) ?_
    refine own_s (g' := (mkF m 112 #[.val (.long q0_0), .second, .val (.int p0_1), .val (.int p0_2), .val (.int p0_3), .val (.int (t0_5 p0_1)), .val (.int (t0_12 p0_2)), .val (.ref b79), .val (.int 1)] [])) (fun _ k => XS.istore X182.here hx rfl (hb hby at_110) rfl (l' := #[.val (.long q0_0), .second, .val (.int p0_1), .val (.int p0_2), .val (.int p0_3), .val (.int (t0_5 p0_1)), .val (.int (t0_12 p0_2)), .val (.ref b79), .val (.int 1)]) rfl k) ?_
    refine own_s (g' := (mkF m 114 #[.val (.long q0_0), .second, .val (.int p0_1), .val (.int p0_2), .val (.int p0_3), .val (.int (t0_5 p0_1)), .val (.int (t0_12 p0_2)), .val (.ref b79), .val (.int 1)] [(.ref b79)])) (fun _ k => XS.aload X182.here hx rfl (hb hby at_112) rfl rfl k) ?_
    refine own_s (g' := (mkF m 116 #[.val (.long q0_0), .second, .val (.int p0_1), .val (.int p0_2), .val (.int p0_3), .val (.int (t0_5 p0_1)), .val (.int (t0_12 p0_2)), .val (.ref b79), .val (.int 1)] [(.int (t0_12 p0_2)), (.ref b79)])) (fun _ k => XS.iload X182.here hx rfl (hb hby at_114) rfl k) ?_
    have f184 := (f171.keep K173q (ninS (Ne.symm ne164) nin0))
    obtain ⟨cq183, kq183, q183a, q183b, q183c⟩ := isOf hZ eh182 f174
    obtain ⟨_, _, ⟨T183, L183, k183, n183⟩, -, X183, ⟨Lc183, hQ183, l183, y183, z183⟩, st183⟩ := X182.virtualBack hx (y := (⟨"com/example/burn_to_balance/burntobalance/io/CsvRecord", "append", "(C)V"⟩ : MethodName)) (z := (⟨"com/example/burn_to_balance/burntobalance/io/CsvRecord", "append", "(C)V"⟩ : MethodName)) hown (mvT hZ ww42) (mvT hZ ww43) (notFace_of_selects (args := #[]) (mvT hZ ww45)) (mvT hZ ww45) (mvT hZ ww44) (by decide) (backOf (W := 0) (rm7 l Z a0 hw [] b79 (t0_12 p0_2) bf0_80 bf1_80 q0_0 (0 : Int32) kf0_80 (nar .char (t0_5 p0_1)) T173.heap n0 (Nat.le_trans Z0 K173.1) f178 f175 f176 f177 f179 f174 f184 g_b79 g_bf0_80 (Ne.symm ne164)) hZ ww46 ww3 (by decide) (by decide)) q183a q183c (g := (mkF m 116 #[.val (.long q0_0), .second, .val (.int p0_1), .val (.int p0_2), .val (.int p0_3), .val (.int (t0_5 p0_1)), .val (.int (t0_12 p0_2)), .val (.ref b79), .val (.int 1)] [(.int (t0_12 p0_2)), (.ref b79)])) rfl (by rw [hml]; rfl) (Steps.refl _) (argsL := [(.int (t0_12 p0_2))]) (rest := []) (lenOf pd__C_V rfl) rfl (by show 2 * 0 + _ ≤ _; exact Nat.le_of_eq rfl) (hb hby at_116) (fun _ _ => ⟨rfl, eh182, (by decide : 3 + 0 ≤ _), (by decide : 277 + 0 ≤ _)⟩)
    dsimp only [Pt.U, Pt.locs, Pt.cells, Pt.slots] at X183 l183 y183 z183 st183 hQ183
    subst l183 y183 z183
    obtain ⟨rfl, N183q, K183q, f185, f186, f187, f188, f189, f190, f191⟩ := hQ183
    have K183 := K173.trans K183q (allS (Or.inr sz_b79) (allS (Or.inr sz_bf0_80) all0))
    have N183 := Fr.app N182 N183q
    refine own_trans (g' := (mkF m 119 #[.val (.long q0_0), .second, .val (.int p0_1), .val (.int p0_2), .val (.int p0_3), .val (.int (t0_5 p0_1)), .val (.int (t0_12 p0_2)), .val (.ref b79), .val (.int 1)] [])) st183 ?_
    refine own_s (g' := (mkF m 121 #[.val (.long q0_0), .second, .val (.int p0_1), .val (.int p0_2), .val (.int p0_3), .val (.int (t0_5 p0_1)), .val (.int (t0_12 p0_2)), .val (.ref b79), .val (.int 1)] [(.ref b79)])) (fun _ k => XS.aload X183.here hx rfl (hb hby at_119) rfl rfl k) ?_
    have ne193 : b79 ≠ bf1_80 := Nat.ne_of_lt (Nat.lt_of_lt_of_le A79.lt hs_bf1_80)
    have f194 := (((f82.keep K163q (ninS (Ne.symm ne193) (ninS (Ne.symm ne_bf0_80_bf1_80) nin0))).keep K173q (ninS (Ne.symm ne193) nin0)).keep K183q (ninS (Ne.symm ne193) (ninS (Ne.symm ne_bf0_80_bf1_80) nin0)))
    obtain ⟨cq192, kq192, q192a, q192b, q192c⟩ := isOf hZ rfl f185
    obtain ⟨_, _, ⟨T192, L192, k192, n192⟩, -, X192, ⟨Lc192, hQ192, l192, y192, z192⟩, st192⟩ := X183.virtualBack hx (y := (⟨"com/example/burn_to_balance/burntobalance/io/CsvRecord", "endField", "()V"⟩ : MethodName)) (z := (⟨"com/example/burn_to_balance/burntobalance/io/CsvRecord", "endField", "()V"⟩ : MethodName)) hown (mvT hZ ww51) (mvT hZ ww52) (notFace_of_selects (args := #[]) (mvT hZ ww54)) (mvT hZ ww54) (mvT hZ ww53) (by decide) (backOf (W := 0) (rm9 l Z a0 hw [] b79 bf1_80 bf0_80 q0_0 (1 : Int32) kf1_80 (0 : Int32) T183.heap n0 (Nat.le_trans Z0 K183.1) f189 f187 f186 f188 f190 f185 f194 g_b79 g_bf1_80 (Ne.symm ne193)) hZ ww55 ww3 (by decide) (by decide)) q192a q192c (g := (mkF m 121 #[.val (.long q0_0), .second, .val (.int p0_1), .val (.int p0_2), .val (.int p0_3), .val (.int (t0_5 p0_1)), .val (.int (t0_12 p0_2)), .val (.ref b79), .val (.int 1)] [(.ref b79)])) rfl (by rw [hml]; rfl) (Steps.refl _) (argsL := []) (rest := []) (lenOf pd___V rfl) rfl (by show 2 * 0 + _ ≤ _; exact Nat.le_of_eq rfl) (hb hby at_121) (fun _ _ => ⟨rfl, rfl, (by decide : 3 + 0 ≤ _), (by decide : 277 + 0 ≤ _)⟩)
    dsimp only [Pt.U, Pt.locs, Pt.cells, Pt.slots] at X192 l192 y192 z192 st192 hQ192
    subst l192 y192 z192
    obtain ⟨rfl, N192q, K192q, f195, f196, f197, f198, f199, f200, f201⟩ := hQ192
    have K192 := K183.trans K192q (allS (Or.inr sz_b79) (allS (Or.inr sz_bf1_80) all0))
    have N192 := Fr.app N183 N192q
    refine own_trans (g' := (mkF m 124 #[.val (.long q0_0), .second, .val (.int p0_1), .val (.int p0_2), .val (.int p0_3), .val (.int (t0_5 p0_1)), .val (.int (t0_12 p0_2)), .val (.ref b79), .val (.int 1)] [])) st192 ?_
    refine own_s (g' := (mkF m 126 #[.val (.long q0_0), .second, .val (.int p0_1), .val (.int p0_2), .val (.int p0_3), .val (.int (t0_5 p0_1)), .val (.int (t0_12 p0_2)), .val (.ref b79), .val (.int 1)] [(.int 1)])) (fun _ k => XS.iload X192.here hx rfl (hb hby at_124) rfl k) ?_
    refine own_s (g' := (mkF m 129 #[.val (.long q0_0), .second, .val (.int p0_1), .val (.int p0_2), .val (.int p0_3), .val (.int (t0_5 p0_1)), .val (.int (t0_12 p0_2)), .val (.ref b79), .val (.int 1)] [])) (fun _ k => XS.ifNo X192.here hx rfl (hb hby at_126) rfl ((if0 _ _).trans (feq ((by decide) : ¬ (1 : Int32) = (0 : Int32))).1) k) ?_
    refine own_s (g' := (mkF m 131 #[.val (.long q0_0), .second, .val (.int p0_1), .val (.int p0_2), .val (.int p0_3), .val (.int (t0_5 p0_1)), .val (.int (t0_12 p0_2)), .val (.ref b79), .val (.int 1)] [(.ref b79)])) (fun _ k => XS.aload X192.here hx rfl (hb hby at_129) rfl rfl k) ?_
    refine own_s (g' := (mkF m 132 #[.val (.long q0_0), .second, .val (.int p0_1), .val (.int p0_2), .val (.int p0_3), .val (.int (t0_5 p0_1)), .val (.int (t0_12 p0_2)), .val (.ref b79), .val (.int 1)] [(.int 0), (.ref b79)])) (fun _ k => XS.iconst X192.here hx rfl (hb hby at_131) k) ?_
    refine own_s (g' := (mkF m 133 #[.val (.long q0_0), .second, .val (.int p0_1), .val (.int p0_2), .val (.int p0_3), .val (.int (t0_5 p0_1)), .val (.int (t0_12 p0_2)), .val (.ref b79), .val (.int 1)] [(.int 0), (.int 0), (.ref b79)])) (fun _ k => XS.iconst X192.here hx rfl (hb hby at_132) k) ?_
    have f203 := (f191.keep K192q (ninS (Ne.symm ne164) (ninS ne_bf0_80_bf1_80 nin0)))
    obtain ⟨cq202, kq202, q202a, q202b, q202c⟩ := isOf hZ rfl f195
    obtain ⟨_, _, ⟨T202, L202, k202, n202⟩, -, X202, ⟨Lc202, hQ202, l202, y202, z202⟩, st202⟩ := X192.virtualBack hx (y := (⟨"com/example/burn_to_balance/burntobalance/io/CsvRecord", "charAt", "(II)C"⟩ : MethodName)) (z := (⟨"com/example/burn_to_balance/burntobalance/io/CsvRecord", "charAt", "(II)C"⟩ : MethodName)) hown (mvT hZ ww56) (mvT hZ ww57) (notFace_of_selects (args := #[]) (mvT hZ ww59)) (mvT hZ ww59) (mvT hZ ww58) (by decide) (backOf (W := 0) (rm10 l Z a0 hw [] b79 bf0_80 kf0_80 (nar .char (t0_12 p0_2)) T192.heap n0 (Nat.le_trans Z0 K192.1) f197 f195 f203) hZ ww60 ww3 (by decide) (by decide)) q202a q202c (g := (mkF m 133 #[.val (.long q0_0), .second, .val (.int p0_1), .val (.int p0_2), .val (.int p0_3), .val (.int (t0_5 p0_1)), .val (.int (t0_12 p0_2)), .val (.ref b79), .val (.int 1)] [(.int 0), (.int 0), (.ref b79)])) rfl (by rw [hml]; rfl) (Steps.refl _) (argsL := [(.int 0), (.int 0)]) (rest := []) (lenOf pd__II_C rfl) rfl (by show 2 * 0 + _ ≤ _; exact Nat.le_of_eq rfl) (hb hby at_133) (fun _ _ => ⟨rfl, rfl, (by decide : 3 + 0 ≤ _), (by decide : 277 + 0 ≤ _)⟩)
    dsimp only [Pt.U, Pt.locs, Pt.cells, Pt.slots] at X202 l202 y202 z202 st202 hQ202
    subst l202 y202 z202
    obtain ⟨rfl, N202q, eh202⟩ := hQ202
    have N202 := Fr.app N192 N202q
    refine own_trans (g' := (mkF m 136 #[.val (.long q0_0), .second, .val (.int p0_1), .val (.int p0_2), .val (.int p0_3), .val (.int (t0_5 p0_1)), .val (.int (t0_12 p0_2)), .val (.ref b79), .val (.int 1)] [(.int (r10 (nar .char (t0_12 p0_2))))])) st202 ?_
    refine own_s (g' := (mkF m 138 #[.val (.long q0_0), .second, .val (.int p0_1), .val (.int p0_2), .val (.int p0_3), .val (.int (t0_5 p0_1)), .val (.int (t0_12 p0_2)), .val (.ref b79), .val (.int 1)] [(.int (t0_12 p0_2)), (.int (r10 (nar .char (t0_12 p0_2))))])) (fun _ k => XS.iload X202.here hx rfl (hb hby at_136) rfl k) ?_
    refine own_s (g' := (mkF m 141 #[.val (.long q0_0), .second, .val (.int p0_1), .val (.int p0_2), .val (.int p0_3), .val (.int (t0_5 p0_1)), .val (.int (t0_12 p0_2)), .val (.ref b79), .val (.int 1)] [])) (fun _ k => XS.icmpNo X202.here hx rfl (hb hby at_138) rfl (teq ((own_i2c2 _) : (r10 (nar .char (t0_12 p0_2))) = (t0_12 p0_2))).2 k) ?_
    refine own_s (g' := (mkF m 142 #[.val (.long q0_0), .second, .val (.int p0_1), .val (.int p0_2), .val (.int p0_3), .val (.int (t0_5 p0_1)), .val (.int (t0_12 p0_2)), .val (.ref b79), .val (.int 1)] [(.int 1)])) (fun _ k => XS.iconst X202.here hx rfl (hb hby at_141) k) ?_
    refine own_s (g' := (mkF m 146 #[.val (.long q0_0), .second, .val (.int p0_1), .val (.int p0_2), .val (.int p0_3), .val (.int (t0_5 p0_1)), .val (.int (t0_12 p0_2)), .val (.ref b79), .val (.int 1)] [(.int 1)])) (fun _ k => XS.goto X202.here hx rfl (pc0 := 142) (pc' := 146) rfl (hb hby at_142) (by decide) (by decide) k) ?_
    refine own_s (g' := (mkF m 148 #[.val (.long q0_0), .second, .val (.int p0_1), .val (.int p0_2), .val (.int p0_3), .val (.int (t0_5 p0_1)), .val (.int (t0_12 p0_2)), .val (.ref b79), .val (.int 1)] [])) (fun _ k => XS.istore X202.here hx rfl (hb hby at_146) rfl (l' := #[.val (.long q0_0), .second, .val (.int p0_1), .val (.int p0_2), .val (.int p0_3), .val (.int (t0_5 p0_1)), .val (.int (t0_12 p0_2)), .val (.ref b79), .val (.int 1)]) rfl k) ?_
    refine own_s (g' := (mkF m 150 #[.val (.long q0_0), .second, .val (.int p0_1), .val (.int p0_2), .val (.int p0_3), .val (.int (t0_5 p0_1)), .val (.int (t0_12 p0_2)), .val (.ref b79), .val (.int 1)] [(.int 1)])) (fun _ k => XS.iload X202.here hx rfl (hb hby at_148) rfl k) ?_
    refine own_retN X202 hx hlk (t := .boolean) hret (by simp) (hb hby at_150) (z' := (1 : Int32)) (by decide) (by decide) (by decide) ?_
    show Q0 Z q0_0 p0_1 p0_2 p0_3 h0 n0 _ T202.heap _
    rw [eh202]
    exact ⟨rfl, N202⟩
   ·skip
    refine own_s (g' := (mkF m 44 #[.val (.long q0_0), .second, .val (.int p0_1), .val (.int p0_2), .val (.int p0_3), .val (.int (t0_5 p0_1)), .val (.int (t0_12 p0_2)), .val (.ref b79), .unset] [])) (fun _ k => XS.ifNo X163.here hx rfl (hb hby at_41) rfl ((if0 _ _).trans (feq c172).1) k) ?_
    refine own_s (g' := (mkF m 46 #[.val (.long q0_0), .second, .val (.int p0_1), .val (.int p0_2), .val (.int p0_3), .val (.int (t0_5 p0_1)), .val (.int (t0_12 p0_2)), .val (.ref b79), .unset] [(.ref b79)])) (fun _ k => XS.aload X163.here hx rfl (hb hby at_44) rfl rfl k) ?_
    have ne205 : b79 ≠ bf1_80 := Nat.ne_of_lt (Nat.lt_of_lt_of_le A79.lt hs_bf1_80)
    have f206 := (f82.keep K163q (ninS (Ne.symm ne205) (ninS (Ne.symm ne_bf0_80_bf1_80) nin0)))
    obtain ⟨cq204, kq204, q204a, q204b, q204c⟩ := isOf hZ rfl f165
    obtain ⟨_, _, ⟨T204, L204, k204, n204⟩, -, X204, ⟨Lc204, hQ204, l204, y204, z204⟩, st204⟩ := X163.virtualBack hx (y := (⟨"com/example/burn_to_balance/burntobalance/io/CsvRecord", "endField", "()V"⟩ : MethodName)) (z := (⟨"com/example/burn_to_balance/burntobalance/io/CsvRecord", "endField", "()V"⟩ : MethodName)) hown (mvT hZ ww51) (mvT hZ ww52) (notFace_of_selects (args := #[]) (mvT hZ ww54)) (mvT hZ ww54) (mvT hZ ww53) (by decide) (backOf (W := 0) (rm9 l Z a0 hw [] b79 bf1_80 bf0_80 (0 : Int64) (1 : Int32) kf1_80 (0 : Int32) T163.heap n0 (Nat.le_trans Z0 K163.1) f169 f167 f166 f168 f170 f165 f206 g_b79 g_bf1_80 (Ne.symm ne205)) hZ ww55 ww3 (by decide) (by decide)) q204a q204c (g := (mkF m 46 #[.val (.long q0_0), .second, .val (.int p0_1), .val (.int p0_2), .val (.int p0_3), .val (.int (t0_5 p0_1)), .val (.int (t0_12 p0_2)), .val (.ref b79), .unset] [(.ref b79)])) rfl (by rw [hml]; rfl) (Steps.refl _) (argsL := []) (rest := []) (lenOf pd___V rfl) rfl (by show 2 * 0 + _ ≤ _; exact Nat.le_of_eq rfl) (hb hby at_46) (fun _ _ => ⟨rfl, rfl, (by decide : 3 + 0 ≤ _), (by decide : 277 + 0 ≤ _)⟩)
    dsimp only [Pt.U, Pt.locs, Pt.cells, Pt.slots] at X204 l204 y204 z204 st204 hQ204
    subst l204 y204 z204
    obtain ⟨rfl, N204q, K204q, f207, f208, f209, f210, f211, f212, f213⟩ := hQ204
    have K204 := K163.trans K204q (allS (Or.inr sz_b79) (allS (Or.inr sz_bf1_80) all0))
    have N204 := Fr.app N163 N204q
    refine own_trans (g' := (mkF m 49 #[.val (.long q0_0), .second, .val (.int p0_1), .val (.int p0_2), .val (.int p0_3), .val (.int (t0_5 p0_1)), .val (.int (t0_12 p0_2)), .val (.ref b79), .unset] [])) st204 ?_
    refine own_s (g' := (mkF m 51 #[.val (.long q0_0), .second, .val (.int p0_1), .val (.int p0_2), .val (.int p0_3), .val (.int (t0_5 p0_1)), .val (.int (t0_12 p0_2)), .val (.ref b79), .unset] [(.ref b79)])) (fun _ k => XS.aload X204.here hx rfl (hb hby at_49) rfl rfl k) ?_
    refine own_s (g' := (mkF m 52 #[.val (.long q0_0), .second, .val (.int p0_1), .val (.int p0_2), .val (.int p0_3), .val (.int (t0_5 p0_1)), .val (.int (t0_12 p0_2)), .val (.ref b79), .unset] [(.long q0_0), (.ref b79)])) (fun _ k => XS.lloadN X204.here hx rfl (hb hby at_51) rfl k) ?_
    obtain ⟨cq214, kq214, q214a, q214b, q214c⟩ := isOf hZ rfl f207
    obtain ⟨_, _, ⟨T214, L214, k214, n214⟩, -, X214, ⟨Lc214, hQ214, l214, y214, z214⟩, st214⟩ := X204.virtualBack hx (y := (⟨"com/example/burn_to_balance/burntobalance/io/CsvRecord", "start", "(J)V"⟩ : MethodName)) (z := (⟨"com/example/burn_to_balance/burntobalance/io/CsvRecord", "start", "(J)V"⟩ : MethodName)) hown (mvT hZ ww16) (mvT hZ ww17) (notFace_of_selects (args := #[]) (mvT hZ ww19)) (mvT hZ ww19) (mvT hZ ww18) (by decide) (backOf (W := 0) (rm3 l Z a0 hw [] b79 q0_0 (0 : Int64) bf0_80 bf1_80 (1 : Int32) (1 : Int32) T204.heap n0 (Nat.le_trans Z0 K204.1) f210 f209 f208 f211 f212 f207 g_b79) hZ ww20 ww3 (by decide) (by decide)) q214a q214c (g := (mkF m 52 #[.val (.long q0_0), .second, .val (.int p0_1), .val (.int p0_2), .val (.int p0_3), .val (.int (t0_5 p0_1)), .val (.int (t0_12 p0_2)), .val (.ref b79), .unset] [(.long q0_0), (.ref b79)])) rfl (by rw [hml]; rfl) (Steps.refl _) (argsL := [(.long q0_0)]) (rest := []) (lenOf pd__J_V rfl) rfl (by show 2 * 0 + _ ≤ _; exact Nat.le_of_eq rfl) (hb hby at_52) (fun _ _ => ⟨rfl, rfl, (by decide : 3 + 0 ≤ _), (by decide : 277 + 0 ≤ _)⟩)
    dsimp only [Pt.U, Pt.locs, Pt.cells, Pt.slots] at X214 l214 y214 z214 st214 hQ214
    subst l214 y214 z214
    obtain ⟨rfl, N214q, K214q, f215, f216, f217, f218, f219, f220⟩ := hQ214
    have K214 := K204.trans K214q (allS (Or.inr sz_b79) all0)
    have N214 := Fr.app N204 N214q
    refine own_trans (g' := (mkF m 55 #[.val (.long q0_0), .second, .val (.int p0_1), .val (.int p0_2), .val (.int p0_3), .val (.int (t0_5 p0_1)), .val (.int (t0_12 p0_2)), .val (.ref b79), .unset] [])) st214 ?_
    refine own_s (g' := (mkF m 57 #[.val (.long q0_0), .second, .val (.int p0_1), .val (.int p0_2), .val (.int p0_3), .val (.int (t0_5 p0_1)), .val (.int (t0_12 p0_2)), .val (.ref b79), .unset] [(.ref b79)])) (fun _ k => XS.aload X214.here hx rfl (hb hby at_55) rfl rfl k) ?_
    obtain ⟨cq221, kq221, q221a, q221b, q221c⟩ := isOf hZ rfl f215
    obtain ⟨_, _, ⟨T221, L221, k221, n221⟩, -, X221, ⟨Lc221, hQ221, l221, y221, z221⟩, st221⟩ := X214.virtualBack hx (y := (⟨"com/example/burn_to_balance/burntobalance/io/CsvRecord", "line", "()J"⟩ : MethodName)) (z := (⟨"com/example/burn_to_balance/burntobalance/io/CsvRecord", "line", "()J"⟩ : MethodName)) hown (mvT hZ ww27) (mvT hZ ww28) (notFace_of_selects (args := #[]) (mvT hZ ww30)) (mvT hZ ww30) (mvT hZ ww29) (by decide) (backOf (W := 0) (rm4 l Z a0 hw [] b79 q0_0 T214.heap n0 (Nat.le_trans Z0 K214.1) f218) hZ ww31 ww3 (by decide) (by decide)) q221a q221c (g := (mkF m 57 #[.val (.long q0_0), .second, .val (.int p0_1), .val (.int p0_2), .val (.int p0_3), .val (.int (t0_5 p0_1)), .val (.int (t0_12 p0_2)), .val (.ref b79), .unset] [(.ref b79)])) rfl (by rw [hml]; rfl) (Steps.refl _) (argsL := []) (rest := []) (lenOf pd___J rfl) rfl (by show 2 * 0 + _ ≤ _; exact Nat.le_of_eq rfl) (hb hby at_57) (fun _ _ => ⟨rfl, rfl, (by decide : 3 + 0 ≤ _), (by decide : 277 + 0 ≤ _)⟩)
    dsimp only [Pt.U, Pt.locs, Pt.cells, Pt.slots] at X221 l221 y221 z221 st221 hQ221
    subst l221 y221 z221
    obtain ⟨rfl, N221q, eh221⟩ := hQ221
    have N221 := Fr.app N214 N221q
    refine own_trans (g' := (mkF m 60 #[.val (.long q0_0), .second, .val (.int p0_1), .val (.int p0_2), .val (.int p0_3), .val (.int (t0_5 p0_1)), .val (.int (t0_12 p0_2)), .val (.ref b79), .unset] [(.long q0_0)])) st221 ?_
    refine own_s (g' := (mkF m 61 #[.val (.long q0_0), .second, .val (.int p0_1), .val (.int p0_2), .val (.int p0_3), .val (.int (t0_5 p0_1)), .val (.int (t0_12 p0_2)), .val (.ref b79), .unset] [(.long q0_0), (.long q0_0)])) (fun _ k => XS.lloadN X221.here hx rfl (hb hby at_60) rfl k) ?_
    refine own_s (g' := (mkF m 62 #[.val (.long q0_0), .second, .val (.int p0_1), .val (.int p0_2), .val (.int p0_3), .val (.int (t0_5 p0_1)), .val (.int (t0_12 p0_2)), .val (.ref b79), .unset] [(.int (lcmpW q0_0 q0_0))])) (fun _ k => XS.lcmp X221.here hx rfl (hb hby at_61) rfl k) ?_
    refine own_s (g' := (mkF m 65 #[.val (.long q0_0), .second, .val (.int p0_1), .val (.int p0_2), .val (.int p0_3), .val (.int (t0_5 p0_1)), .val (.int (t0_12 p0_2)), .val (.ref b79), .unset] [])) (fun _ k => XS.ifNo X221.here hx rfl (hb hby at_62) rfl ((if0 _ _).trans (teq ((lw_eq q0_0 q0_0).mpr rfl)).2) k) ?_
    refine own_s (g' := (mkF m 66 #[.val (.long q0_0), .second, .val (.int p0_1), .val (.int p0_2), .val (.int p0_3), .val (.int (t0_5 p0_1)), .val (.int (t0_12 p0_2)), .val (.ref b79), .unset] [(.int 1)])) (fun _ k => XS.iconst X221.here hx rfl (hb hby at_65) k) ?_
    refine own_s (g' := (mkF m 70 #[.val (.long q0_0), .second, .val (.int p0_1), .val (.int p0_2), .val (.int p0_3), .val (.int (t0_5 p0_1)), .val (.int (t0_12 p0_2)), .val (.ref b79), .unset] [(.int 1)])) (fun _ k => XS.goto X221.here hx rfl (pc0 := 66) (pc' := 70) rfl (hb hby at_66) (by decide) (by decide) k) ?_
    refine own_s (g' := (mkF m 72 #[.val (.long q0_0), .second, .val (.int p0_1), .val (.int p0_2), .val (.int p0_3), .val (.int (t0_5 p0_1)), .val (.int (t0_12 p0_2)), .val (.ref b79), .val (.int 1)] [])) (fun _ k => XS.istore X221.here hx rfl (hb hby at_70) rfl (l' := #[.val (.long q0_0), .second, .val (.int p0_1), .val (.int p0_2), .val (.int p0_3), .val (.int (t0_5 p0_1)), .val (.int (t0_12 p0_2)), .val (.ref b79), .val (.int 1)]) rfl k) ?_
    refine own_s (g' := (mkF m 74 #[.val (.long q0_0), .second, .val (.int p0_1), .val (.int p0_2), .val (.int p0_3), .val (.int (t0_5 p0_1)), .val (.int (t0_12 p0_2)), .val (.ref b79), .val (.int 1)] [(.int 1)])) (fun _ k => XS.iload X221.here hx rfl (hb hby at_72) rfl k) ?_
    refine own_s (g' := (mkF m 77 #[.val (.long q0_0), .second, .val (.int p0_1), .val (.int p0_2), .val (.int p0_3), .val (.int (t0_5 p0_1)), .val (.int (t0_12 p0_2)), .val (.ref b79), .val (.int 1)] [])) (fun _ k => XS.ifNo X221.here hx rfl (hb hby at_74) rfl ((if0 _ _).trans (feq ((by decide) : ¬ (1 : Int32) = (0 : Int32))).1) k) ?_
    refine own_s (g' := (mkF m 79 #[.val (.long q0_0), .second, .val (.int p0_1), .val (.int p0_2), .val (.int p0_3), .val (.int (t0_5 p0_1)), .val (.int (t0_12 p0_2)), .val (.ref b79), .val (.int 1)] [(.ref b79)])) (fun _ k => XS.aload X221.here hx rfl (hb hby at_77) rfl rfl k) ?_
    obtain ⟨cq222, kq222, q222a, q222b, q222c⟩ := isOf hZ eh221 f215
    obtain ⟨_, _, ⟨T222, L222, k222, n222⟩, -, X222, ⟨Lc222, hQ222, l222, y222, z222⟩, st222⟩ := X221.virtualBack hx (y := (⟨"com/example/burn_to_balance/burntobalance/io/CsvRecord", "size", "()I"⟩ : MethodName)) (z := (⟨"com/example/burn_to_balance/burntobalance/io/CsvRecord", "size", "()I"⟩ : MethodName)) hown (mvT hZ ww32) (mvT hZ ww33) (notFace_of_selects (args := #[]) (mvT hZ ww35)) (mvT hZ ww35) (mvT hZ ww34) (by decide) (backOf (W := 0) (rm5 l Z a0 hw [] b79 (0 : Int32) T214.heap n0 (Nat.le_trans Z0 K214.1) f220) hZ ww36 ww3 (by decide) (by decide)) q222a q222c (g := (mkF m 79 #[.val (.long q0_0), .second, .val (.int p0_1), .val (.int p0_2), .val (.int p0_3), .val (.int (t0_5 p0_1)), .val (.int (t0_12 p0_2)), .val (.ref b79), .val (.int 1)] [(.ref b79)])) rfl (by rw [hml]; rfl) (Steps.refl _) (argsL := []) (rest := []) (lenOf pd___I rfl) rfl (by show 2 * 0 + _ ≤ _; exact Nat.le_of_eq rfl) (hb hby at_79) (fun _ _ => ⟨rfl, eh221, (by decide : 3 + 0 ≤ _), (by decide : 277 + 0 ≤ _)⟩)
    dsimp only [Pt.U, Pt.locs, Pt.cells, Pt.slots] at X222 l222 y222 z222 st222 hQ222
    subst l222 y222 z222
    obtain ⟨rfl, N222q, eh222⟩ := hQ222
    have N222 := Fr.app N221 N222q
    refine own_trans (g' := (mkF m 82 #[.val (.long q0_0), .second, .val (.int p0_1), .val (.int p0_2), .val (.int p0_3), .val (.int (t0_5 p0_1)), .val (.int (t0_12 p0_2)), .val (.ref b79), .val (.int 1)] [(.int 0)])) st222 ?_
    refine own_s (g' := (mkF m 85 #[.val (.long q0_0), .second, .val (.int p0_1), .val (.int p0_2), .val (.int p0_3), .val (.int (t0_5 p0_1)), .val (.int (t0_12 p0_2)), .val (.ref b79), .val (.int 1)] [])) (fun _ k => XS.ifNo X222.here hx rfl (hb hby at_82) rfl ((if0 _ _).trans (teq ((by decide) : (0 : Int32) = (0 : Int32))).2) k) ?_
    refine own_s (g' := (mkF m 86 #[.val (.long q0_0), .second, .val (.int p0_1), .val (.int p0_2), .val (.int p0_3), .val (.int (t0_5 p0_1)), .val (.int (t0_12 p0_2)), .val (.ref b79), .val (.int 1)] [(.int 1)])) (fun _ k => XS.iconst X222.here hx rfl (hb hby at_85) k) ?_
    refine own_s (g' := (mkF m 90 #[.val (.long q0_0), .second, .val (.int p0_1), .val (.int p0_2), .val (.int p0_3), .val (.int (t0_5 p0_1)), .val (.int (t0_12 p0_2)), .val (.ref b79), .val (.int 1)] [(.int 1)])) (fun _ k => XS.goto X222.here hx rfl (pc0 := 86) (pc' := 90) rfl (hb hby at_86) (by decide) (by decide) k) ?_
    refine own_s (g' := (mkF m 92 #[.val (.long q0_0), .second, .val (.int p0_1), .val (.int p0_2), .val (.int p0_3), .val (.int (t0_5 p0_1)), .val (.int (t0_12 p0_2)), .val (.ref b79), .val (.int 1)] [])) (fun _ k => XS.istore X222.here hx rfl (hb hby at_90) rfl (l' := #[.val (.long q0_0), .second, .val (.int p0_1), .val (.int p0_2), .val (.int p0_3), .val (.int (t0_5 p0_1)), .val (.int (t0_12 p0_2)), .val (.ref b79), .val (.int 1)]) rfl k) ?_
    refine own_s (g' := (mkF m 94 #[.val (.long q0_0), .second, .val (.int p0_1), .val (.int p0_2), .val (.int p0_3), .val (.int (t0_5 p0_1)), .val (.int (t0_12 p0_2)), .val (.ref b79), .val (.int 1)] [(.int 1)])) (fun _ k => XS.iload X222.here hx rfl (hb hby at_92) rfl k) ?_
    refine own_s (g' := (mkF m 97 #[.val (.long q0_0), .second, .val (.int p0_1), .val (.int p0_2), .val (.int p0_3), .val (.int (t0_5 p0_1)), .val (.int (t0_12 p0_2)), .val (.ref b79), .val (.int 1)] [])) (fun _ k => XS.ifNo X222.here hx rfl (hb hby at_94) rfl ((if0 _ _).trans (feq ((by decide) : ¬ (1 : Int32) = (0 : Int32))).1) k) ?_
    refine own_s (g' := (mkF m 99 #[.val (.long q0_0), .second, .val (.int p0_1), .val (.int p0_2), .val (.int p0_3), .val (.int (t0_5 p0_1)), .val (.int (t0_12 p0_2)), .val (.ref b79), .val (.int 1)] [(.ref b79)])) (fun _ k => XS.aload X222.here hx rfl (hb hby at_97) rfl rfl k) ?_
    obtain ⟨cq223, kq223, q223a, q223b, q223c⟩ := isOf hZ eh222 f215
    obtain ⟨_, _, ⟨T223, L223, k223, n223⟩, -, X223, ⟨Lc223, hQ223, l223, y223, z223⟩, st223⟩ := X222.virtualBack hx (y := (⟨"com/example/burn_to_balance/burntobalance/io/CsvRecord", "isBlank", "()Z"⟩ : MethodName)) (z := (⟨"com/example/burn_to_balance/burntobalance/io/CsvRecord", "isBlank", "()Z"⟩ : MethodName)) hown (mvT hZ ww37) (mvT hZ ww38) (notFace_of_selects (args := #[]) (mvT hZ ww40)) (mvT hZ ww40) (mvT hZ ww39) (by decide) (backOf (W := 0) (rm6 l Z a0 hw [] b79 (0 : Int32) T214.heap n0 (Nat.le_trans Z0 K214.1) f219) hZ ww41 ww3 (by decide) (by decide)) q223a q223c (g := (mkF m 99 #[.val (.long q0_0), .second, .val (.int p0_1), .val (.int p0_2), .val (.int p0_3), .val (.int (t0_5 p0_1)), .val (.int (t0_12 p0_2)), .val (.ref b79), .val (.int 1)] [(.ref b79)])) rfl (by rw [hml]; rfl) (Steps.refl _) (argsL := []) (rest := []) (lenOf pd___Z rfl) rfl (by show 2 * 0 + _ ≤ _; exact Nat.le_of_eq rfl) (hb hby at_99) (fun _ _ => ⟨rfl, eh222, (by decide : 3 + 0 ≤ _), (by decide : 277 + 0 ≤ _)⟩)
    dsimp only [Pt.U, Pt.locs, Pt.cells, Pt.slots] at X223 l223 y223 z223 st223 hQ223
    subst l223 y223 z223
    obtain ⟨rfl, N223q, eh223⟩ := hQ223
    have N223 := Fr.app N222 N223q
    refine own_trans (g' := (mkF m 102 #[.val (.long q0_0), .second, .val (.int p0_1), .val (.int p0_2), .val (.int p0_3), .val (.int (t0_5 p0_1)), .val (.int (t0_12 p0_2)), .val (.ref b79), .val (.int 1)] [(.int (r6 (0 : Int32)))])) st223 ?_
    rw [show (r6 (0 : Int32)) = (1 : Int32) from (if_pos ((by decide) : (0 : Int32) = (0 : Int32)))]
    refine own_s (g' := (mkF m 105 #[.val (.long q0_0), .second, .val (.int p0_1), .val (.int p0_2), .val (.int p0_3), .val (.int (t0_5 p0_1)), .val (.int (t0_12 p0_2)), .val (.ref b79), .val (.int 1)] [])) (fun _ k => XS.ifNo X223.here hx rfl (hb hby at_102) rfl ((if0 _ _).trans (feq ((by decide) : ¬ (1 : Int32) = (0 : Int32))).1) k) ?_
    refine own_s (g' := (mkF m 106 #[.val (.long q0_0), .second, .val (.int p0_1), .val (.int p0_2), .val (.int p0_3), .val (.int (t0_5 p0_1)), .val (.int (t0_12 p0_2)), .val (.ref b79), .val (.int 1)] [(.int 1)])) (fun _ k => XS.iconst X223.here hx rfl (hb hby at_105) k) ?_
    refine own_s (g' := (mkF m 110 #[.val (.long q0_0), .second, .val (.int p0_1), .val (.int p0_2), .val (.int p0_3), .val (.int (t0_5 p0_1)), .val (.int (t0_12 p0_2)), .val (.ref b79), .val (.int 1)] [(.int 1)])) (fun _ k => XS.goto X223.here hx rfl (pc0 := 106) (pc' := 110) rfl (hb hby at_106) (by decide) (by decide) k) ?_
    refine own_s (g' := (mkF m 112 #[.val (.long q0_0), .second, .val (.int p0_1), .val (.int p0_2), .val (.int p0_3), .val (.int (t0_5 p0_1)), .val (.int (t0_12 p0_2)), .val (.ref b79), .val (.int 1)] [])) (fun _ k => XS.istore X223.here hx rfl (hb hby at_110) rfl (l' := #[.val (.long q0_0), .second, .val (.int p0_1), .val (.int p0_2), .val (.int p0_3), .val (.int (t0_5 p0_1)), .val (.int (t0_12 p0_2)), .val (.ref b79), .val (.int 1)]) rfl k) ?_
    refine own_s (g' := (mkF m 114 #[.val (.long q0_0), .second, .val (.int p0_1), .val (.int p0_2), .val (.int p0_3), .val (.int (t0_5 p0_1)), .val (.int (t0_12 p0_2)), .val (.ref b79), .val (.int 1)] [(.ref b79)])) (fun _ k => XS.aload X223.here hx rfl (hb hby at_112) rfl rfl k) ?_
    refine own_s (g' := (mkF m 116 #[.val (.long q0_0), .second, .val (.int p0_1), .val (.int p0_2), .val (.int p0_3), .val (.int (t0_5 p0_1)), .val (.int (t0_12 p0_2)), .val (.ref b79), .val (.int 1)] [(.int (t0_12 p0_2)), (.ref b79)])) (fun _ k => XS.iload X223.here hx rfl (hb hby at_114) rfl k) ?_
    have f225 := ((f171.keep K204q (ninS (Ne.symm ne164) (ninS ne_bf0_80_bf1_80 nin0))).keep K214q (ninS (Ne.symm ne164) nin0))
    obtain ⟨cq224, kq224, q224a, q224b, q224c⟩ := isOf hZ eh223 f215
    obtain ⟨_, _, ⟨T224, L224, k224, n224⟩, -, X224, ⟨Lc224, hQ224, l224, y224, z224⟩, st224⟩ := X223.virtualBack hx (y := (⟨"com/example/burn_to_balance/burntobalance/io/CsvRecord", "append", "(C)V"⟩ : MethodName)) (z := (⟨"com/example/burn_to_balance/burntobalance/io/CsvRecord", "append", "(C)V"⟩ : MethodName)) hown (mvT hZ ww42) (mvT hZ ww43) (notFace_of_selects (args := #[]) (mvT hZ ww45)) (mvT hZ ww45) (mvT hZ ww44) (by decide) (backOf (W := 0) (rm7 l Z a0 hw [] b79 (t0_12 p0_2) bf0_80 bf1_80 q0_0 (0 : Int32) kf0_80 (nar .char (t0_5 p0_1)) T214.heap n0 (Nat.le_trans Z0 K214.1) f219 f216 f217 f218 f220 f215 f225 g_b79 g_bf0_80 (Ne.symm ne164)) hZ ww46 ww3 (by decide) (by decide)) q224a q224c (g := (mkF m 116 #[.val (.long q0_0), .second, .val (.int p0_1), .val (.int p0_2), .val (.int p0_3), .val (.int (t0_5 p0_1)), .val (.int (t0_12 p0_2)), .val (.ref b79), .val (.int 1)] [(.int (t0_12 p0_2)), (.ref b79)])) rfl (by rw [hml]; rfl) (Steps.refl _) (argsL := [(.int (t0_12 p0_2))]) (rest := []) (lenOf pd__C_V rfl) rfl (by show 2 * 0 + _ ≤ _; exact Nat.le_of_eq rfl) (hb hby at_116) (fun _ _ => ⟨rfl, eh223, (by decide : 3 + 0 ≤ _), (by decide : 277 + 0 ≤ _)⟩)
    dsimp only [Pt.U, Pt.locs, Pt.cells, Pt.slots] at X224 l224 y224 z224 st224 hQ224
    subst l224 y224 z224
    obtain ⟨rfl, N224q, K224q, f226, f227, f228, f229, f230, f231, f232⟩ := hQ224
    have K224 := K214.trans K224q (allS (Or.inr sz_b79) (allS (Or.inr sz_bf0_80) all0))
    have N224 := Fr.app N223 N224q
    refine own_trans (g' := (mkF m 119 #[.val (.long q0_0), .second, .val (.int p0_1), .val (.int p0_2), .val (.int p0_3), .val (.int (t0_5 p0_1)), .val (.int (t0_12 p0_2)), .val (.ref b79), .val (.int 1)] [])) st224 ?_
    refine own_s (g' := (mkF m 121 #[.val (.long q0_0), .second, .val (.int p0_1), .val (.int p0_2), .val (.int p0_3), .val (.int (t0_5 p0_1)), .val (.int (t0_12 p0_2)), .val (.ref b79), .val (.int 1)] [(.ref b79)])) (fun _ k => XS.aload X224.here hx rfl (hb hby at_119) rfl rfl k) ?_
    have f234 := ((f213.keep K214q (ninS (Ne.symm ne205) nin0)).keep K224q (ninS (Ne.symm ne205) (ninS (Ne.symm ne_bf0_80_bf1_80) nin0)))
    obtain ⟨cq233, kq233, q233a, q233b, q233c⟩ := isOf hZ rfl f226
    obtain ⟨_, _, ⟨T233, L233, k233, n233⟩, -, X233, ⟨Lc233, hQ233, l233, y233, z233⟩, st233⟩ := X224.virtualBack hx (y := (⟨"com/example/burn_to_balance/burntobalance/io/CsvRecord", "endField", "()V"⟩ : MethodName)) (z := (⟨"com/example/burn_to_balance/burntobalance/io/CsvRecord", "endField", "()V"⟩ : MethodName)) hown (mvT hZ ww51) (mvT hZ ww52) (notFace_of_selects (args := #[]) (mvT hZ ww54)) (mvT hZ ww54) (mvT hZ ww53) (by decide) (backOf (W := 0) (rm9 l Z a0 hw [] b79 bf1_80 bf0_80 q0_0 (1 : Int32) kf1_80 (1 : Int32) T224.heap n0 (Nat.le_trans Z0 K224.1) f230 f228 f227 f229 f231 f226 f234 g_b79 g_bf1_80 (Ne.symm ne205)) hZ ww55 ww3 (by decide) (by decide)) q233a q233c (g := (mkF m 121 #[.val (.long q0_0), .second, .val (.int p0_1), .val (.int p0_2), .val (.int p0_3), .val (.int (t0_5 p0_1)), .val (.int (t0_12 p0_2)), .val (.ref b79), .val (.int 1)] [(.ref b79)])) rfl (by rw [hml]; rfl) (Steps.refl _) (argsL := []) (rest := []) (lenOf pd___V rfl) rfl (by show 2 * 0 + _ ≤ _; exact Nat.le_of_eq rfl) (hb hby at_121) (fun _ _ => ⟨rfl, rfl, (by decide : 3 + 0 ≤ _), (by decide : 277 + 0 ≤ _)⟩)
    dsimp only [Pt.U, Pt.locs, Pt.cells, Pt.slots] at X233 l233 y233 z233 st233 hQ233
    subst l233 y233 z233
    obtain ⟨rfl, N233q, K233q, f235, f236, f237, f238, f239, f240, f241⟩ := hQ233
    have K233 := K224.trans K233q (allS (Or.inr sz_b79) (allS (Or.inr sz_bf1_80) all0))
    have N233 := Fr.app N224 N233q
    refine own_trans (g' := (mkF m 124 #[.val (.long q0_0), .second, .val (.int p0_1), .val (.int p0_2), .val (.int p0_3), .val (.int (t0_5 p0_1)), .val (.int (t0_12 p0_2)), .val (.ref b79), .val (.int 1)] [])) st233 ?_
    refine own_s (g' := (mkF m 126 #[.val (.long q0_0), .second, .val (.int p0_1), .val (.int p0_2), .val (.int p0_3), .val (.int (t0_5 p0_1)), .val (.int (t0_12 p0_2)), .val (.ref b79), .val (.int 1)] [(.int 1)])) (fun _ k => XS.iload X233.here hx rfl (hb hby at_124) rfl k) ?_
    refine own_s (g' := (mkF m 129 #[.val (.long q0_0), .second, .val (.int p0_1), .val (.int p0_2), .val (.int p0_3), .val (.int (t0_5 p0_1)), .val (.int (t0_12 p0_2)), .val (.ref b79), .val (.int 1)] [])) (fun _ k => XS.ifNo X233.here hx rfl (hb hby at_126) rfl ((if0 _ _).trans (feq ((by decide) : ¬ (1 : Int32) = (0 : Int32))).1) k) ?_
    refine own_s (g' := (mkF m 131 #[.val (.long q0_0), .second, .val (.int p0_1), .val (.int p0_2), .val (.int p0_3), .val (.int (t0_5 p0_1)), .val (.int (t0_12 p0_2)), .val (.ref b79), .val (.int 1)] [(.ref b79)])) (fun _ k => XS.aload X233.here hx rfl (hb hby at_129) rfl rfl k) ?_
    refine own_s (g' := (mkF m 132 #[.val (.long q0_0), .second, .val (.int p0_1), .val (.int p0_2), .val (.int p0_3), .val (.int (t0_5 p0_1)), .val (.int (t0_12 p0_2)), .val (.ref b79), .val (.int 1)] [(.int 0), (.ref b79)])) (fun _ k => XS.iconst X233.here hx rfl (hb hby at_131) k) ?_
    refine own_s (g' := (mkF m 133 #[.val (.long q0_0), .second, .val (.int p0_1), .val (.int p0_2), .val (.int p0_3), .val (.int (t0_5 p0_1)), .val (.int (t0_12 p0_2)), .val (.ref b79), .val (.int 1)] [(.int 0), (.int 0), (.ref b79)])) (fun _ k => XS.iconst X233.here hx rfl (hb hby at_132) k) ?_
    have f243 := (f232.keep K233q (ninS (Ne.symm ne164) (ninS ne_bf0_80_bf1_80 nin0)))
    obtain ⟨cq242, kq242, q242a, q242b, q242c⟩ := isOf hZ rfl f235
    obtain ⟨_, _, ⟨T242, L242, k242, n242⟩, -, X242, ⟨Lc242, hQ242, l242, y242, z242⟩, st242⟩ := X233.virtualBack hx (y := (⟨"com/example/burn_to_balance/burntobalance/io/CsvRecord", "charAt", "(II)C"⟩ : MethodName)) (z := (⟨"com/example/burn_to_balance/burntobalance/io/CsvRecord", "charAt", "(II)C"⟩ : MethodName)) hown (mvT hZ ww56) (mvT hZ ww57) (notFace_of_selects (args := #[]) (mvT hZ ww59)) (mvT hZ ww59) (mvT hZ ww58) (by decide) (backOf (W := 0) (rm10 l Z a0 hw [] b79 bf0_80 kf0_80 (nar .char (t0_12 p0_2)) T233.heap n0 (Nat.le_trans Z0 K233.1) f237 f235 f243) hZ ww60 ww3 (by decide) (by decide)) q242a q242c (g := (mkF m 133 #[.val (.long q0_0), .second, .val (.int p0_1), .val (.int p0_2), .val (.int p0_3), .val (.int (t0_5 p0_1)), .val (.int (t0_12 p0_2)), .val (.ref b79), .val (.int 1)] [(.int 0), (.int 0), (.ref b79)])) rfl (by rw [hml]; rfl) (Steps.refl _) (argsL := [(.int 0), (.int 0)]) (rest := []) (lenOf pd__II_C rfl) rfl (by show 2 * 0 + _ ≤ _; exact Nat.le_of_eq rfl) (hb hby at_133) (fun _ _ => ⟨rfl, rfl, (by decide : 3 + 0 ≤ _), (by decide : 277 + 0 ≤ _)⟩)
    dsimp only [Pt.U, Pt.locs, Pt.cells, Pt.slots] at X242 l242 y242 z242 st242 hQ242
    subst l242 y242 z242
    obtain ⟨rfl, N242q, eh242⟩ := hQ242
    have N242 := Fr.app N233 N242q
    refine own_trans (g' := (mkF m 136 #[.val (.long q0_0), .second, .val (.int p0_1), .val (.int p0_2), .val (.int p0_3), .val (.int (t0_5 p0_1)), .val (.int (t0_12 p0_2)), .val (.ref b79), .val (.int 1)] [(.int (r10 (nar .char (t0_12 p0_2))))])) st242 ?_
    refine own_s (g' := (mkF m 138 #[.val (.long q0_0), .second, .val (.int p0_1), .val (.int p0_2), .val (.int p0_3), .val (.int (t0_5 p0_1)), .val (.int (t0_12 p0_2)), .val (.ref b79), .val (.int 1)] [(.int (t0_12 p0_2)), (.int (r10 (nar .char (t0_12 p0_2))))])) (fun _ k => XS.iload X242.here hx rfl (hb hby at_136) rfl k) ?_
    refine own_s (g' := (mkF m 141 #[.val (.long q0_0), .second, .val (.int p0_1), .val (.int p0_2), .val (.int p0_3), .val (.int (t0_5 p0_1)), .val (.int (t0_12 p0_2)), .val (.ref b79), .val (.int 1)] [])) (fun _ k => XS.icmpNo X242.here hx rfl (hb hby at_138) rfl (teq ((own_i2c2 _) : (r10 (nar .char (t0_12 p0_2))) = (t0_12 p0_2))).2 k) ?_
    refine own_s (g' := (mkF m 142 #[.val (.long q0_0), .second, .val (.int p0_1), .val (.int p0_2), .val (.int p0_3), .val (.int (t0_5 p0_1)), .val (.int (t0_12 p0_2)), .val (.ref b79), .val (.int 1)] [(.int 1)])) (fun _ k => XS.iconst X242.here hx rfl (hb hby at_141) k) ?_
    refine own_s (g' := (mkF m 146 #[.val (.long q0_0), .second, .val (.int p0_1), .val (.int p0_2), .val (.int p0_3), .val (.int (t0_5 p0_1)), .val (.int (t0_12 p0_2)), .val (.ref b79), .val (.int 1)] [(.int 1)])) (fun _ k => XS.goto X242.here hx rfl (pc0 := 142) (pc' := 146) rfl (hb hby at_142) (by decide) (by decide) k) ?_
    refine own_s (g' := (mkF m 148 #[.val (.long q0_0), .second, .val (.int p0_1), .val (.int p0_2), .val (.int p0_3), .val (.int (t0_5 p0_1)), .val (.int (t0_12 p0_2)), .val (.ref b79), .val (.int 1)] [])) (fun _ k => XS.istore X242.here hx rfl (hb hby at_146) rfl (l' := #[.val (.long q0_0), .second, .val (.int p0_1), .val (.int p0_2), .val (.int p0_3), .val (.int (t0_5 p0_1)), .val (.int (t0_12 p0_2)), .val (.ref b79), .val (.int 1)]) rfl k) ?_
    refine own_s (g' := (mkF m 150 #[.val (.long q0_0), .second, .val (.int p0_1), .val (.int p0_2), .val (.int p0_3), .val (.int (t0_5 p0_1)), .val (.int (t0_12 p0_2)), .val (.ref b79), .val (.int 1)] [(.int 1)])) (fun _ k => XS.iload X242.here hx rfl (hb hby at_148) rfl k) ?_
    refine own_retN X242 hx hlk (t := .boolean) hret (by simp) (hb hby at_150) (z' := (1 : Int32)) (by decide) (by decide) (by decide) ?_
    show Q0 Z q0_0 p0_1 p0_2 p0_3 h0 n0 _ T242.heap _
    rw [eh242]
    exact ⟨rfl, N242⟩
set_option maxRecDepth 65536 in
set_option maxHeartbeats 40000000 in
theorem comes_1 {Post : Tables → Env → Array Value → State → Outcome → State → Prop} (hpost : ∀ tb e args s v u, (limb_1_1.after args s (.returned v) u = true ∧ limb_1_2.after args s (.returned v) u = true ∧ True) → FrameEnd s (.returned v) u (Jvm.fieldLocs frame_1_writes args s ++ Jvm.arrayLocs frame_1_arrays args s ++ Jvm.staticLocs frame_1_statics s) 16 640 → Post tb e args s (.returned v) u) :
    ArmFor flags0 classFile x code maxLocals ret World_1 tables_1 room_1 Calls_1 rest_1 Pre_1 Post := by
  intro l hfl _ _ p e ha hc hk s m args below hf hA hF happ hP
  obtain ⟨hcalls, hrest, hpre⟩ := hP
  obtain ⟨-, -, -, hnamed, -, -, -, hat⟩ := (Spec.applies_iff hf).mp happ
  obtain ⟨hg, hn⟩ := and_e (Cond.before_iff.mp (show (Jvm.Cond.and given_1 narrow_1).before args s = true from hpre))
  obtain ⟨gc, hg⟩ := and_e hg
  obtain ⟨gi0, hg⟩ := and_e hg
  obtain ⟨gi1, hg⟩ := and_e hg
  obtain ⟨gi2, hg⟩ := and_e hg
  obtain ⟨w0, w1, w2, w3, rfl⟩ : ∃ w0 w1 w2 w3 : Value, args = #[w0, w1, w2, w3] := by
    have hs : args.size = 4 := by simpa [Cond.value, given_1] using gc
    obtain ⟨L⟩ := args
    match L, hs with
    | [w0, w1, w2, w3], _ => exact ⟨w0, w1, w2, w3, rfl⟩
  have hw := fun d (hd : d ∈ tables_1) => atoms_spec (ws := Jvm.Cond.code x code maxLocals ret :: tables_1) hat d (List.mem_cons_of_mem _ hd)
  obtain ⟨i0, ei0⟩ := isL_v gi0
  obtain rfl : w0 = (.long i0) := Option.some.inj ei0
  obtain ⟨i1, ei1⟩ := is_v gi1
  obtain rfl : w1 = (.int i1) := Option.some.inj ei1
  obtain ⟨i2, ei2⟩ := is_v gi2
  obtain rfl : w2 = (.int i2) := Option.some.inj ei2
  obtain ⟨i3, ei3⟩ := is_v hg
  obtain rfl : w3 = (.int i3) := Option.some.inj ei3
  obtain ⟨n, o, h1, h2, h3, _, L, rfl, ⟨rfl, N⟩, hq⟩ := rm0 l s _ hw tables_1 i0 i1 i2 i3 s.heap s.heap.size (Nat.le_refl _)  p e ha hc hk s m _ below hf ((Spec.applies_iff_loose hf).mp happ).1 ⟨rfl, State.Warmed39.refl s, rfl⟩ trivial
  refine ⟨n, _, h1, h2, h3, hpost _ _ _ _ _ _ ⟨Cond.after_iff.mpr rfl, Cond.after_iff.mpr (eq_i res_at (Term.int_eval (1)) rfl), trivial⟩ ⟨hq.1, hq.2.1, (hq.2.2.sift fun y hy => Or.inr (N y hy)).mono (by decide) (by decide)⟩⟩
theorem main_1_1 : Claimed_1_1 := comes_1 fun _ _ _ _ _ _ h hF => ⟨h.1, hF⟩
theorem main_1_2 : Claimed_1_2 := comes_1 fun _ _ _ _ _ _ h hF => ⟨h.2.1, hF⟩
end Jvm.Pilot.@@N@@
namespace Jvm.Pilot.@@N@@
open Jvm Jvm.ClassFile Sem Op Lib Jvm.Free Jvm.Stand Jvm.Pilot.@@N@@.Jvm.D
/-! MADE BY PROGRAM (witnessworld.py) out of the Statement's table words and the real class files: 11 classes; the members and pool entries that the words name. The judged class is class 1, her method 1. -/
namespace start1
open Jvm.ClassFile
def u (s : String) : CpInfo := .utf8 (stringToUtf16 s)
/-- a pool by its gaps: so many unusable entries, then the entry; so many at the end -/
def gap : Nat → List CpInfo → List CpInfo
  | 0, r => r
  | n + 1, r => .unusable :: gap n r
def poolList (es : List (Nat × CpInfo)) (last : Nat) : List CpInfo := es.foldr (fun e r => gap e.1 (e.2 :: r)) (gap last [])
def pool (es : List (Nat × CpInfo)) (last : Nat) : Array CpInfo := ⟨poolList es last⟩
def fileOf (pool : Array CpInfo) (this : Nat) (attrs : Array Attribute := #[]) (ms : Array MethodInfo := #[]) (fl : Nat := 33) (sup : Nat := 0) (ifs : Array Nat := #[]) (fds : Array FieldInfo := #[]) : ClassFile where
  minorVersion := 0
  majorVersion := 65
  constantPool := pool
  accessFlags := fl
  thisClass := this
  superClass := sup
  interfaces := ifs
  fields := fds
  methods := ms
  attributes := attrs
def plain (name : String) (sup : Option ClassId) : Class where
  name := name
  kind := .ordinary
  loader := none
  accessFlags := 33
  super := sup
  interfaces := #[]
  cf := none
  fields := #[]
  methods := #[]
  instanceTypes := #[]
  staticTypes := #[]
  resolved := #[]
  callSites := []
  init := .initialized
  statics := none
  mirror := none

def pool0 : Array CpInfo := pool [(5, u "<init>"), (0, u "()V"), (1, .class_ 10), (1, u "java/lang/Object")] 113

def k0c0 : Code := { maxStack := 0, maxLocals := 1, code := object_method_1_code, exceptionTable := #[], attributes := #[] }
def k0m0 : Method := { name := "<init>", desc := "()V", sig := { parameters := [], returnType := none }, accessFlags := 1, code := some k0c0 }
/-- java/lang/Object -/
def k0 : Class := { plain "java/lang/Object" none with
  accessFlags := 33
  interfaces := #[]
  cf := some (fileOf pool0 8 #[] #[{ accessFlags := 1, nameIndex := 5, descriptorIndex := 6, attributes := #[] }] 33 0 #[] #[])
  fields := #[]
  methods := #[k0m0]
  instanceTypes := #[]
  staticTypes := #[]
  resolved := Array.replicate 124 none
  statics := none }

def pool1 : Array CpInfo := pool [(2, .class_ 4), (0, .nameAndType 5 6), (0, u "java/lang/Object"), (0, u "<init>"), (0, u "()V"), (0, .integer 65535), (0, .class_ 9), (0, u "com/example/burn_to_balance/burntobalance/io/CsvRecord"), (0, .methodref 8 3), (0, .methodref 8 12), (0, .nameAndType 13 14), (0, u "append"), (0, u "(C)V"), (0, .methodref 8 16), (0, .nameAndType 17 6), (0, u "endField"), (0, .methodref 8 19), (0, .nameAndType 20 21), (0, u "start"), (0, u "(J)V"), (0, .methodref 8 23), (0, .nameAndType 24 25), (0, u "line"), (0, u "()J"), (0, .methodref 8 27), (0, .nameAndType 28 29), (0, u "size"), (0, u "()I"), (0, .methodref 8 31), (0, .nameAndType 32 33), (0, u "isBlank"), (0, u "()Z"), (0, .methodref 8 35), (0, .nameAndType 36 37), (0, u "charAt"), (0, u "(II)C"), (0, .class_ 39), (0, u "com/example/burn_to_balance/burntobalance/io/CsvRecordStartPinLaw"), (2, u "law"), (0, u "(JIII)Z")] 3

def k1m0 : Method := { name := "<init>", desc := "()V", sig := { parameters := [], returnType := none }, accessFlags := 1, code := none }
def k1c1 : Code := { maxStack := 4, maxLocals := 9, code := code, exceptionTable := #[], attributes := #[] }
def k1m1 : Method := { name := "law", desc := "(JIII)Z", sig := { parameters := [.long, .int, .int, .int], returnType := some .boolean }, accessFlags := 9, code := some k1c1 }
/-- com/example/burn_to_balance/burntobalance/io/CsvRecordStartPinLaw -/
def k1 : Class := { plain "com/example/burn_to_balance/burntobalance/io/CsvRecordStartPinLaw" (some 0) with
  accessFlags := 49
  interfaces := #[]
  cf := some (fileOf pool1 38 #[] #[{ accessFlags := 1, nameIndex := 5, descriptorIndex := 6, attributes := #[] }, { accessFlags := 9, nameIndex := 42, descriptorIndex := 43, attributes := #[] }] 49 2 #[] #[])
  fields := #[]
  methods := #[k1m0, k1m1]
  instanceTypes := #[]
  staticTypes := #[]
  resolved := Array.replicate 47 none
  statics := none }

def pool2 : Array CpInfo := pool [(1, .methodref 2 3), (0, .class_ 4), (0, .nameAndType 5 6), (0, u "java/lang/Object"), (0, u "<init>"), (0, u "()V"), (0, .fieldref 8 9), (0, .class_ 10), (0, .nameAndType 11 12), (0, u "com/example/burn_to_balance/burntobalance/io/CsvRecord"), (0, u "chars"), (0, u "[C"), (0, .fieldref 8 14), (0, .nameAndType 15 16), (0, u "ends"), (0, u "[I"), (0, .fieldref 8 18), (0, .nameAndType 19 20), (0, u "line"), (0, u "J"), (0, .fieldref 8 22), (0, .nameAndType 23 24), (0, u "length"), (0, u "I"), (0, .fieldref 8 26), (0, .nameAndType 27 24), (0, u "size"), (0, .methodref 8 29), (0, .nameAndType 30 31), (0, u "ensureRoom"), (0, u "(I)V"), (12, .methodref 8 45), (0, .nameAndType 46 47), (0, u "start"), (0, u "(I)I"), (21, u "(J)V"), (0, u "append"), (0, u "(C)V"), (0, u "endField"), (1, u "()J"), (0, u "()I"), (0, u "isBlank"), (0, u "()Z"), (0, u "charAt"), (0, u "(II)C")] 6

def k2c0 : Code := { maxStack := 2, maxLocals := 1, code := prog_7_method_1_code, exceptionTable := #[], attributes := #[] }
def k2m0 : Method := { name := "<init>", desc := "()V", sig := { parameters := [], returnType := none }, accessFlags := 0, code := some k2c0 }
def k2c1 : Code := { maxStack := 3, maxLocals := 3, code := prog_7_method_2_code, exceptionTable := #[], attributes := #[] }
def k2m1 : Method := { name := "start", desc := "(J)V", sig := { parameters := [.long], returnType := none }, accessFlags := 0, code := some k2c1 }
def k2c2 : Code := { maxStack := 5, maxLocals := 2, code := prog_7_method_3_code, exceptionTable := #[], attributes := #[] }
def k2m2 : Method := { name := "append", desc := "(C)V", sig := { parameters := [.char], returnType := none }, accessFlags := 0, code := some k2c2 }
def k2c3 : Code := { maxStack := 5, maxLocals := 1, code := prog_7_method_5_code, exceptionTable := #[], attributes := #[] }
def k2m3 : Method := { name := "endField", desc := "()V", sig := { parameters := [], returnType := none }, accessFlags := 0, code := some k2c3 }
def k2c4 : Code := { maxStack := 2, maxLocals := 1, code := prog_7_method_6_code, exceptionTable := #[], attributes := #[] }
def k2m4 : Method := { name := "line", desc := "()J", sig := { parameters := [], returnType := some .long }, accessFlags := 0, code := some k2c4 }
def k2c5 : Code := { maxStack := 1, maxLocals := 1, code := prog_7_method_7_code, exceptionTable := #[], attributes := #[] }
def k2m5 : Method := { name := "size", desc := "()I", sig := { parameters := [], returnType := some .int }, accessFlags := 0, code := some k2c5 }
def k2c6 : Code := { maxStack := 1, maxLocals := 1, code := prog_7_method_8_code, exceptionTable := #[], attributes := #[] }
def k2m6 : Method := { name := "isBlank", desc := "()Z", sig := { parameters := [], returnType := some .boolean }, accessFlags := 0, code := some k2c6 }
def k2c7 : Code := { maxStack := 3, maxLocals := 3, code := prog_7_method_10_code, exceptionTable := #[], attributes := #[] }
def k2m7 : Method := { name := "charAt", desc := "(II)C", sig := { parameters := [.int, .int], returnType := some .char }, accessFlags := 0, code := some k2c7 }
def k2c8 : Code := { maxStack := 3, maxLocals := 2, code := prog_7_method_13_code, exceptionTable := #[], attributes := #[] }
def k2m8 : Method := { name := "start", desc := "(I)I", sig := { parameters := [.int], returnType := some .int }, accessFlags := 2, code := some k2c8 }
def k2c9 : Code := { maxStack := 5, maxLocals := 2, code := prog_7_method_14_code, exceptionTable := #[], attributes := #[] }
def k2m9 : Method := { name := "ensureRoom", desc := "(I)V", sig := { parameters := [.int], returnType := none }, accessFlags := 2, code := some k2c9 }
/-- com/example/burn_to_balance/burntobalance/io/CsvRecord -/
def k2 : Class := { plain "com/example/burn_to_balance/burntobalance/io/CsvRecord" (some 0) with
  accessFlags := 32
  interfaces := #[]
  cf := some (fileOf pool2 8 #[] #[{ accessFlags := 0, nameIndex := 5, descriptorIndex := 6, attributes := #[] }, { accessFlags := 0, nameIndex := 46, descriptorIndex := 69, attributes := #[] }, { accessFlags := 0, nameIndex := 70, descriptorIndex := 71, attributes := #[] }, { accessFlags := 0, nameIndex := 72, descriptorIndex := 6, attributes := #[] }, { accessFlags := 0, nameIndex := 19, descriptorIndex := 74, attributes := #[] }, { accessFlags := 0, nameIndex := 27, descriptorIndex := 75, attributes := #[] }, { accessFlags := 0, nameIndex := 76, descriptorIndex := 77, attributes := #[] }, { accessFlags := 0, nameIndex := 78, descriptorIndex := 79, attributes := #[] }, { accessFlags := 2, nameIndex := 46, descriptorIndex := 47, attributes := #[] }, { accessFlags := 2, nameIndex := 30, descriptorIndex := 31, attributes := #[] }] 32 2 #[] #[{ accessFlags := 2, nameIndex := 11, descriptorIndex := 12, attributes := #[] }, { accessFlags := 2, nameIndex := 23, descriptorIndex := 24, attributes := #[] }, { accessFlags := 2, nameIndex := 15, descriptorIndex := 16, attributes := #[] }, { accessFlags := 2, nameIndex := 27, descriptorIndex := 24, attributes := #[] }, { accessFlags := 2, nameIndex := 19, descriptorIndex := 20, attributes := #[] }])
  fields := #[{ name := "chars", type := (.array .char), accessFlags := 2, slot := 0, constantValue := 0 }, { name := "length", type := .int, accessFlags := 2, slot := 1, constantValue := 0 }, { name := "ends", type := (.array .int), accessFlags := 2, slot := 2, constantValue := 0 }, { name := "size", type := .int, accessFlags := 2, slot := 3, constantValue := 0 }, { name := "line", type := .long, accessFlags := 2, slot := 4, constantValue := 0 }]
  methods := #[k2m0, k2m1, k2m2, k2m3, k2m4, k2m5, k2m6, k2m7, k2m8, k2m9]
  instanceTypes := #[(.array .char), .int, (.array .int), .int, .long]
  staticTypes := #[]
  resolved := Array.replicate 86 none
  statics := none }

def pool3 : Array CpInfo := pool [(1, u "java/lang/Cloneable"), (0, .class_ 1), (0, u "java/lang/Object"), (0, .class_ 3)] 3

/-- java/lang/Cloneable -/
def k3 : Class := { plain "java/lang/Cloneable" (some 0) with
  accessFlags := 1537
  interfaces := #[]
  cf := some (fileOf pool3 2 #[] #[] 1537 4 #[] #[])
  fields := #[]
  methods := #[]
  instanceTypes := #[]
  staticTypes := #[]
  resolved := Array.replicate 8 none
  statics := none }

def pool4 : Array CpInfo := pool [(1, u "java/io/Serializable"), (0, .class_ 1), (0, u "java/lang/Object"), (0, .class_ 3)] 3

/-- java/io/Serializable -/
def k4 : Class := { plain "java/io/Serializable" (some 0) with
  accessFlags := 1537
  interfaces := #[]
  cf := some (fileOf pool4 2 #[] #[] 1537 4 #[] #[])
  fields := #[]
  methods := #[]
  instanceTypes := #[]
  staticTypes := #[]
  resolved := Array.replicate 8 none
  statics := none }

/-- the primitive byte -/
def k5 : Class := { plain "byte" none with kind := .primitive 'B', accessFlags := 0x411 }
/-- [B -/
def k6 : Class := { plain "[B" (some 0) with kind := .array 5 .byte, interfaces := #[3, 4], accessFlags := 1041 }

/-- the primitive char -/
def k7 : Class := { plain "char" none with kind := .primitive 'C', accessFlags := 0x411 }
/-- [C -/
def k8 : Class := { plain "[C" (some 0) with kind := .array 7 .char, interfaces := #[3, 4], accessFlags := 1041 }

/-- the primitive int -/
def k9 : Class := { plain "int" none with kind := .primitive 'I', accessFlags := 0x411 }
/-- [I -/
def k10 : Class := { plain "[I" (some 0) with kind := .array 9 .int, interfaces := #[3, 4], accessFlags := 1041 }

def heap : Heap := #[]
def classes : Array Class := #[k0, k1, k2, k3, k4, k5, k6, k7, k8, k9, k10]
def interned : List (Array UInt16 × Addr) := []
def slotsUsed : Nat := 0
def theMethod : MethodId := ⟨1, 1⟩
def args0 : Array Value := #[.long 7, .int 5, .int 5, .int 5]
def aboutOver (below : List Frame) : State where
  vm := { classes := classes, interned := interned.toArray }
  heap := heap
  slotsUsed := slotsUsed
  threads := #[{ frames := .invoking theMethod args0 :: below }]
def below0 : List Frame := [.native { method := ⟨0, 0⟩, args := #[] }]
def about1 : State := aboutOver below0
def p0 : Program := .bare "" "" ""
def e0 : Env := launch0.env 0 0 0
theorem w_frames : about1.frames = Frame.invoking theMethod args0 :: below0 := rfl
set_option maxRecDepth 65536 in
theorem w_args : argsFit about1.vm theMethod args0 = true := by decide +kernel
set_option maxRecDepth 65536 in
theorem w_heap : heapFits about1 = true := by decide +kernel
set_option maxRecDepth 65536 in
theorem w_runnable : about1.curStatus? = some .runnable := by decide +kernel
set_option maxRecDepth 65536 in
theorem w_alone : about1.alone = true := by decide +kernel
set_option maxRecDepth 65536 in
theorem w_named : about1.methodNamed? x = some theMethod := by decide +kernel
set_option maxRecDepth 65536 in
theorem w_hears : about1.hears theMethod below0 = true := by decide +kernel
set_option maxRecDepth 65536 in
theorem w_ripe : about1.ripe theMethod args0 below0 = true := by decide +kernel
theorem w_running : about1.status = .running := rfl
set_option maxRecDepth 65536 in
theorem w_room : about1.hasRoom e0.platform room_1 = true :=
  launch0.hasRoom_least _ room_1 (by decide +kernel) (by decide +kernel) (by decide +kernel) (by decide +kernel) (by decide +kernel) (by decide +kernel)
theorem allAtoms_all (ts : List Jvm.Cond) (a : Array Jvm.Value) (st : Jvm.State) : (allAtoms ts).before a st = ts.all (fun c => c.before a st) := by
  induction ts with
  | nil => rfl
  | cons c t ih =>
    show (Jvm.Cond.and c (allAtoms t)).before a st = _
    rw [Jvm.Cond.before_and, ih, List.all_cons]
def words1 : List Jvm.Cond := Jvm.Cond.code x code maxLocals ret :: tables_1
/-- a 'code' word, met by the world's own term for the bytes: nothing is compared byte by byte -/
theorem code_word {y : MethodName} {bytes : ByteArray} {mx : Nat} {rt : Option FieldType} {a : Array Value} {s : State} {m : MethodId} {meth : Method} {c : Code} (h1 : s.methodNamed? y = some m) (h2 : s.vm.method? m = some meth) (h3 : meth.code = some c) (h4 : c.code = bytes)
    (h5 : (c.maxLocals == mx && c.exceptionTable.isEmpty && decide (c.maxStack ≤ mostOperands) && decide (meth.sig.returnType = rt) && !meth.locks && decide (parseMethodDescriptor y.desc = some meth.sig)) = true) : (Jvm.Cond.code y bytes mx rt).before a s = true := by
  simp only [Bool.and_eq_true, beq_iff_eq, Bool.not_eq_true', decide_eq_true_eq] at h5
  obtain ⟨⟨⟨⟨⟨g1, g2⟩, g3⟩, g4⟩, g5⟩, g6⟩ := h5
  simp [Cond.before, Cond.holds, Cond.value, h1, h2, h3, h4, g1, g2, g3, g4, g5, g6]
def isCode : Jvm.Cond → Bool
  | .code _ _ _ _ => true
  | _ => false
theorem all_split {L : List Jvm.Cond} {P : Jvm.Cond → Bool} (h1 : L.all (fun c => isCode c || P c) = true) (h2 : ∀ c ∈ L.filter isCode, P c = true) : L.all P = true := by
  refine List.all_eq_true.mpr fun c hc => ?_
  have h := List.all_eq_true.mp h1 c hc
  rcases Bool.eq_false_or_eq_true (isCode c) with hi | hi
  · exact h2 c (List.mem_filter.mpr ⟨hc, hi⟩)
  · simpa [hi] using h
set_option maxRecDepth 65536 in
theorem w_c0 : (Jvm.Cond.code x code maxLocals ret).before args0 about1 = true := code_word (m := ⟨1, 1⟩) (meth := k1m1) (c := k1c1) (by decide +kernel) rfl rfl rfl (by decide +kernel)
set_option maxRecDepth 65536 in
theorem w_c1 : (Jvm.Cond.code ({ cls := "com/example/burn_to_balance/burntobalance/io/CsvRecord", name := "<init>", desc := "()V" } : Jvm.MethodName) prog_7_method_1_code (1 : Nat) (Option.none : Option Jvm.ClassFile.FieldType)).before args0 about1 = true := code_word (m := ⟨2, 0⟩) (meth := k2m0) (c := k2c0) (by decide +kernel) rfl rfl rfl (by decide +kernel)
set_option maxRecDepth 65536 in
theorem w_c2 : (Jvm.Cond.code ({ cls := "java/lang/Object", name := "<init>", desc := "()V" } : Jvm.MethodName) object_method_1_code (1 : Nat) (Option.none : Option Jvm.ClassFile.FieldType)).before args0 about1 = true := code_word (m := ⟨0, 0⟩) (meth := k0m0) (c := k0c0) (by decide +kernel) rfl rfl rfl (by decide +kernel)
set_option maxRecDepth 65536 in
theorem w_c3 : (Jvm.Cond.code ({ cls := "com/example/burn_to_balance/burntobalance/io/CsvRecord", name := "start", desc := "(J)V" } : Jvm.MethodName) prog_7_method_2_code (3 : Nat) (Option.none : Option Jvm.ClassFile.FieldType)).before args0 about1 = true := code_word (m := ⟨2, 1⟩) (meth := k2m1) (c := k2c1) (by decide +kernel) rfl rfl rfl (by decide +kernel)
set_option maxRecDepth 65536 in
theorem w_c4 : (Jvm.Cond.code ({ cls := "com/example/burn_to_balance/burntobalance/io/CsvRecord", name := "line", desc := "()J" } : Jvm.MethodName) prog_7_method_6_code (1 : Nat) (Option.some Jvm.ClassFile.FieldType.long)).before args0 about1 = true := code_word (m := ⟨2, 4⟩) (meth := k2m4) (c := k2c4) (by decide +kernel) rfl rfl rfl (by decide +kernel)
set_option maxRecDepth 65536 in
theorem w_c5 : (Jvm.Cond.code ({ cls := "com/example/burn_to_balance/burntobalance/io/CsvRecord", name := "size", desc := "()I" } : Jvm.MethodName) prog_7_method_7_code (1 : Nat) (Option.some Jvm.ClassFile.FieldType.int)).before args0 about1 = true := code_word (m := ⟨2, 5⟩) (meth := k2m5) (c := k2c5) (by decide +kernel) rfl rfl rfl (by decide +kernel)
set_option maxRecDepth 65536 in
theorem w_c6 : (Jvm.Cond.code ({ cls := "com/example/burn_to_balance/burntobalance/io/CsvRecord", name := "isBlank", desc := "()Z" } : Jvm.MethodName) prog_7_method_8_code (1 : Nat) (Option.some Jvm.ClassFile.FieldType.boolean)).before args0 about1 = true := code_word (m := ⟨2, 6⟩) (meth := k2m6) (c := k2c6) (by decide +kernel) rfl rfl rfl (by decide +kernel)
set_option maxRecDepth 65536 in
theorem w_c7 : (Jvm.Cond.code ({ cls := "com/example/burn_to_balance/burntobalance/io/CsvRecord", name := "append", desc := "(C)V" } : Jvm.MethodName) prog_7_method_3_code (2 : Nat) (Option.none : Option Jvm.ClassFile.FieldType)).before args0 about1 = true := code_word (m := ⟨2, 2⟩) (meth := k2m2) (c := k2c2) (by decide +kernel) rfl rfl rfl (by decide +kernel)
set_option maxRecDepth 65536 in
theorem w_c8 : (Jvm.Cond.code ({ cls := "com/example/burn_to_balance/burntobalance/io/CsvRecord", name := "ensureRoom", desc := "(I)V" } : Jvm.MethodName) prog_7_method_14_code (2 : Nat) (Option.none : Option Jvm.ClassFile.FieldType)).before args0 about1 = true := code_word (m := ⟨2, 9⟩) (meth := k2m9) (c := k2c9) (by decide +kernel) rfl rfl rfl (by decide +kernel)
set_option maxRecDepth 65536 in
theorem w_c9 : (Jvm.Cond.code ({ cls := "com/example/burn_to_balance/burntobalance/io/CsvRecord", name := "endField", desc := "()V" } : Jvm.MethodName) prog_7_method_5_code (1 : Nat) (Option.none : Option Jvm.ClassFile.FieldType)).before args0 about1 = true := code_word (m := ⟨2, 3⟩) (meth := k2m3) (c := k2c3) (by decide +kernel) rfl rfl rfl (by decide +kernel)
set_option maxRecDepth 65536 in
theorem w_c10 : (Jvm.Cond.code ({ cls := "com/example/burn_to_balance/burntobalance/io/CsvRecord", name := "charAt", desc := "(II)C" } : Jvm.MethodName) prog_7_method_10_code (3 : Nat) (Option.some Jvm.ClassFile.FieldType.char)).before args0 about1 = true := code_word (m := ⟨2, 7⟩) (meth := k2m7) (c := k2c7) (by decide +kernel) rfl rfl rfl (by decide +kernel)
set_option maxRecDepth 65536 in
theorem w_c11 : (Jvm.Cond.code ({ cls := "com/example/burn_to_balance/burntobalance/io/CsvRecord", name := "start", desc := "(I)I" } : Jvm.MethodName) prog_7_method_13_code (2 : Nat) (Option.some Jvm.ClassFile.FieldType.int)).before args0 about1 = true := code_word (m := ⟨2, 8⟩) (meth := k2m8) (c := k2c8) (by decide +kernel) rfl rfl rfl (by decide +kernel)
def codes1 : List Jvm.Cond := [Jvm.Cond.code x code maxLocals ret, Jvm.Cond.code ({ cls := "com/example/burn_to_balance/burntobalance/io/CsvRecord", name := "<init>", desc := "()V" } : Jvm.MethodName) prog_7_method_1_code (1 : Nat) (Option.none : Option Jvm.ClassFile.FieldType), Jvm.Cond.code ({ cls := "java/lang/Object", name := "<init>", desc := "()V" } : Jvm.MethodName) object_method_1_code (1 : Nat) (Option.none : Option Jvm.ClassFile.FieldType), Jvm.Cond.code ({ cls := "com/example/burn_to_balance/burntobalance/io/CsvRecord", name := "start", desc := "(J)V" } : Jvm.MethodName) prog_7_method_2_code (3 : Nat) (Option.none : Option Jvm.ClassFile.FieldType), Jvm.Cond.code ({ cls := "com/example/burn_to_balance/burntobalance/io/CsvRecord", name := "line", desc := "()J" } : Jvm.MethodName) prog_7_method_6_code (1 : Nat) (Option.some Jvm.ClassFile.FieldType.long), Jvm.Cond.code ({ cls := "com/example/burn_to_balance/burntobalance/io/CsvRecord", name := "size", desc := "()I" } : Jvm.MethodName) prog_7_method_7_code (1 : Nat) (Option.some Jvm.ClassFile.FieldType.int), Jvm.Cond.code ({ cls := "com/example/burn_to_balance/burntobalance/io/CsvRecord", name := "isBlank", desc := "()Z" } : Jvm.MethodName) prog_7_method_8_code (1 : Nat) (Option.some Jvm.ClassFile.FieldType.boolean), Jvm.Cond.code ({ cls := "com/example/burn_to_balance/burntobalance/io/CsvRecord", name := "append", desc := "(C)V" } : Jvm.MethodName) prog_7_method_3_code (2 : Nat) (Option.none : Option Jvm.ClassFile.FieldType), Jvm.Cond.code ({ cls := "com/example/burn_to_balance/burntobalance/io/CsvRecord", name := "ensureRoom", desc := "(I)V" } : Jvm.MethodName) prog_7_method_14_code (2 : Nat) (Option.none : Option Jvm.ClassFile.FieldType), Jvm.Cond.code ({ cls := "com/example/burn_to_balance/burntobalance/io/CsvRecord", name := "endField", desc := "()V" } : Jvm.MethodName) prog_7_method_5_code (1 : Nat) (Option.none : Option Jvm.ClassFile.FieldType), Jvm.Cond.code ({ cls := "com/example/burn_to_balance/burntobalance/io/CsvRecord", name := "charAt", desc := "(II)C" } : Jvm.MethodName) prog_7_method_10_code (3 : Nat) (Option.some Jvm.ClassFile.FieldType.char), Jvm.Cond.code ({ cls := "com/example/burn_to_balance/burntobalance/io/CsvRecord", name := "start", desc := "(I)I" } : Jvm.MethodName) prog_7_method_13_code (2 : Nat) (Option.some Jvm.ClassFile.FieldType.int)]
set_option maxRecDepth 65536 in
theorem codes_eq : words1.filter isCode = codes1 := rfl
theorem w_codes : ∀ c ∈ words1.filter isCode, c.before args0 about1 = true := by
  rw [codes_eq]
  intro c hc
  simp only [codes1, List.mem_cons, List.not_mem_nil, or_false] at hc
  rcases hc with rfl | rfl | rfl | rfl | rfl | rfl | rfl | rfl | rfl | rfl | rfl | rfl
  · exact w_c0
  · exact w_c1
  · exact w_c2
  · exact w_c3
  · exact w_c4
  · exact w_c5
  · exact w_c6
  · exact w_c7
  · exact w_c8
  · exact w_c9
  · exact w_c10
  · exact w_c11
set_option maxRecDepth 65536 in
theorem w_t1 : (words1.take 24).all (fun c => isCode c || c.before args0 about1) = true := by decide +kernel
set_option maxRecDepth 65536 in
theorem w_t2 : ((words1.drop 24).take 24).all (fun c => isCode c || c.before args0 about1) = true := by decide +kernel
set_option maxRecDepth 65536 in
theorem w_t3 : ((words1.drop 24).drop 24).all (fun c => isCode c || c.before args0 about1) = true := by decide +kernel
theorem w_tables : (allAtoms (Jvm.Cond.code x code maxLocals ret :: tables_1)).before args0 about1 = true := by
  rw [allAtoms_all]
  show words1.all (fun c => c.before args0 about1) = true
  refine all_split ?_ w_codes
  rw [← List.take_append_drop 24 words1, List.all_append, w_t1, ← List.take_append_drop 24 (words1.drop 24), List.all_append, w_t2, w_t3]
  rfl
set_option maxRecDepth 65536 in
theorem w_case : (Jvm.Cond.and given_1 narrow_1).before args0 about1 = true := by decide +kernel
theorem w_applies : (headSpec (Jvm.Cond.code x code maxLocals ret :: tables_1) room_1).applies x e0.platform about1 = true :=
  (Spec.applies_iff w_frames).mpr ⟨w_running, w_runnable, w_alone, w_named, w_hears, w_ripe, w_room, w_tables⟩
theorem atStart : AtStart classFile x code maxLocals ret World_1 tables_1 room_1 Calls_1 rest_1 Pre_1 launch0 p0 e0 about1 theMethod args0 below0 :=
  ⟨lists_1, trivial, launch0.admits_env _ _ _, launch0.least_env, fairChoices_fair.cas, fairChoices_fair.clock, w_frames, w_args, w_heap, w_applies, trivial, trivial, w_case⟩
end start1
theorem witness_1 : WitnessClaimed_1 := ⟨start1.p0, start1.e0, start1.about1, start1.theMethod, start1.args0, start1.below0, start1.atStart⟩
end Jvm.Pilot.@@N@@
