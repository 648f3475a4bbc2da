import JvmDerived
import JvmDerived.Pilot.@@N@@Statement
import JvmDerived.Pilot.@@N@@Code
set_option linter.unusedVariables false
set_option linter.unusedSimpArgs false
namespace Jvm.Pilot.@@N@@
open Jvm Jvm.ClassFile Sem Op Lib Jvm.Free Jvm.Stand Jvm.LawKit Jvm.RoadKit Bundle Jvm.Pilot.@@N@@.Jvm.D
/-- what is left of a walk: from the frame g on, the run ends as K says -/
def own_G (p : Program) (e : Env) (below : List Frame) (s : State) (K : Option Value → Heap → List Loc → Prop) (nc ns : Nat) (T : State) (g : JFrame) : Prop :=
  ∃ s₂ o, Steps p.tables e below (T.setTop g) s₂ ∧ s₂.status = .running ∧ Ended s₂ below o ∧ ∃ v L, o = .returned v ∧ K v s₂.heap L ∧ FrameEnd s o s₂ L nc ns
section Own
variable {p : Program} {l : Launch} {e : Env} {R : Room} {s : State} {m : MethodId} {args : Array Value} {below : List Frame} {meth : Method} {c : Code} {T T' : State} {locs : List Loc} {cells slots : Nat} {K : Option Value → Heap → List Loc → Prop} {nc ns : Nat} {g g' : JFrame}
theorem own_s (h : ∀ t, Steps p.tables e below (T'.setTop g') t → Steps p.tables e below (T.setTop g) t) (k : own_G p e below s K nc ns T' g') : own_G p e below s K nc ns T g := by
  obtain ⟨s₂, o, h1, r⟩ := k
  exact ⟨s₂, o, h _ h1, r⟩
theorem own_trans (h : Steps p.tables e below (T.setTop g) (T'.setTop g')) (k : own_G p e below s K nc ns T' g') : own_G p e below s K nc ns T g := by
  obtain ⟨s₂, o, h1, r⟩ := k
  exact ⟨s₂, o, h.trans h1, r⟩
theorem own_cast (q : g = g') (k : own_G p e below s K nc ns T g') : own_G p e below s K nc ns T g := q ▸ k
theorem own_leave (X : Stand p l e R s m args below meth c T locs cells slots) {v : Option Value} (hlk : meth.locks = false) (hv : meth.sig.returnType = none → v = none) (hc : cells ≤ nc) (hn : slots ≤ ns) (hq : K v T.heap locs)
    (st : ∀ fs, (∀ (f : JFrame) (acts : List Action), f.method = m → f.locked = none → f.entered = [] → (doReturn e (T.setTop f) acts v).1 = T.setFrames fs) → Steps p.tables e below (T.setTop g) (T.setFrames fs)) : own_G p e below s K nc ns T g := by
  obtain ⟨fs, hr, hrun, hended, hW, hsame⟩ := X.leave (v := v) hv hlk
  exact ⟨_, _, st fs hr, hrun, hended, _, _, rfl, hq, ⟨_, rfl⟩, hW, hsame.mono hc hn⟩
theorem own_retN (X : Stand p l e R s m args below meth c T locs cells slots) (hx : p.tables.exec = Jvm.exec) (hlk : meth.locks = false) {pc : Nat} {Ls : Array Slot} {z z' : Int32} {t : FieldType} {rest : List Value} (hret : meth.sig.returnType = some t) (ht : t = .boolean ∨ t = .byte ∨ t = .char ∨ t = .short)
    (hd : decode c.code pc = .ok (.ireturn, 1)) (hz : nar t z = z') (hc : cells ≤ nc) (hn : slots ≤ ns) (hq : K (some (.int z')) T.heap locs) : own_G p e below s K nc ns T (mkF m pc Ls (.int z :: rest)) := by
  subst hz
  exact own_leave X hlk (fun h => by rw [hret] at h; cases h) hc hn hq fun fs hr => retN X hx hret ht hd hr
theorem own_retI (X : Stand p l e R s m args below meth c T locs cells slots) (hx : p.tables.exec = Jvm.exec) (hlk : meth.locks = false) {pc : Nat} {Ls : Array Slot} {z : Int32} {rest : List Value} (hret : meth.sig.returnType = some .int)
    (hd : decode c.code pc = .ok (.ireturn, 1)) (hc : cells ≤ nc) (hn : slots ≤ ns) (hq : K (some (.int z)) T.heap locs) : own_G p e below s K nc ns T (mkF m pc Ls (.int z :: rest)) :=
  own_leave X hlk (fun h => by rw [hret] at h; cases h) hc hn hq fun fs hr => retOut X hx hret rfl (Or.inl ⟨rfl, Or.inl rfl, _, rfl⟩) hd hr
theorem own_retJ (X : Stand p l e R s m args below meth c T locs cells slots) (hx : p.tables.exec = Jvm.exec) (hlk : meth.locks = false) {pc : Nat} {Ls : Array Slot} {z : Int64} {rest : List Value} (hret : meth.sig.returnType = some .long)
    (hd : decode c.code pc = .ok (.lreturn, 1)) (hc : cells ≤ nc) (hn : slots ≤ ns) (hq : K (some (.long z)) T.heap locs) : own_G p e below s K nc ns T (mkF m pc Ls (.long z :: rest)) :=
  own_leave X hlk (fun h => by rw [hret] at h; cases h) hc hn hq fun fs hr => retOut X hx hret rfl (Or.inr (Or.inl ⟨rfl, rfl, _, rfl⟩)) hd hr
theorem own_retR (X : Stand p l e R s m args below meth c T locs cells slots) (hx : p.tables.exec = Jvm.exec) (hlk : meth.locks = false) {pc : Nat} {Ls : Array Slot} {v : Value} {t : FieldType} {rest : List Value} (hret : meth.sig.returnType = some t) (ht : t.isReference = true) (hv : v.isRef = true) (hnv : narrow t v = v)
    (hd : decode c.code pc = .ok (.areturn, 1)) (hc : cells ≤ nc) (hn : slots ≤ ns) (hq : K (some v) T.heap locs) : own_G p e below s K nc ns T (mkF m pc Ls (v :: rest)) :=
  own_leave X hlk (fun h => by rw [hret] at h; cases h) hc hn hq fun fs hr => retOut X hx hret hnv (Or.inr (Or.inr (Or.inr (Or.inr ⟨rfl, ht, hv⟩)))) hd hr
theorem own_retV (X : Stand p l e R s m args below meth c T locs cells slots) (hx : p.tables.exec = Jvm.exec) (hlk : meth.locks = false) {pc : Nat} {Ls : Array Slot} (hret : meth.sig.returnType = none)
    (hd : decode c.code pc = .ok (.return_, 1)) (hc : cells ≤ nc) (hn : slots ≤ ns) (hq : K none T.heap locs) : own_G p e below s K nc ns T (mkF m pc Ls []) :=
  own_leave X hlk (fun _ => rfl) hc hn hq fun fs hr => X.returnOut hx hret hd hr
theorem own_selp {s : State} {args : Array Value} {y : MethodName} {n : Nat} (wi : (Jvm.Cond.instantiable y.cls n).before args s = true) (hp : (Jvm.Cond.privateMethod y).before args s = true) (hi : (Jvm.Cond.instanceMethod y).before args s = true)
    (hy : y.cls ≠ "java/lang/invoke/MethodHandle" ∧ y.cls ≠ "java/lang/invoke/VarHandle") : (Jvm.Cond.selects y.cls y y).before args s = true := by
  obtain ⟨c, k, h1, h2, h3, h4, -⟩ := Cond.instantiable_spec wi
  exact Jvm.Stand.selects_self_of_private h1 h2 (Bool.or_eq_false_iff.mp h4).1 (Cond.privateMethod_at hp) hi hy
theorem own_miss {k : Int32} (i : Int) (n : Int32) (e : n.toInt = i) (hc : ¬ k = n) : i ≠ k.toInt := fun h => hc (Int32.toInt_inj.mp (h.symm.trans e.symm))
theorem own_posI {x : Int32} (h : (0 : Int32) < x) : x ≠ 0 := fun q => by rw [q] at h; exact absurd h (by decide)
theorem own_posJ {x : Int64} (h : (0 : Int64) < x) : x ≠ 0 := fun q => by rw [q] at h; exact absurd h (by decide)
theorem own_asI {x y : Int32} (h : y < x) : ¬ x < y := fun q => Int32.lt_irrefl (Int32.lt_trans h q)
theorem own_asJ {x y : Int64} (h : y < x) : ¬ x < y := fun q => Int64.lt_irrefl (Int64.lt_trans h q)
theorem own_eqltI {x y : Int32} (h : x = y) : ¬ x < y := fun q => by rw [h] at q; exact Int32.lt_irrefl q
theorem own_eqltJ {x y : Int64} (h : x = y) : ¬ x < y := fun q => by rw [h] at q; exact Int64.lt_irrefl q
theorem own_triI {x y : Int32} (h : ¬ x = y) (q : ¬ y < x) : x < y := by
  rw [Int32.lt_iff_toInt_lt] at *
  rw [← Int32.toInt_inj] at h
  omega
theorem own_triJ {x y : Int64} (h : ¬ x = y) (q : ¬ y < x) : x < y := by
  rw [Int64.lt_iff_toInt_lt] at *
  rw [← Int64.toInt_inj] at h
  omega
theorem own_ltneI {x y : Int32} (h : x < y) : ¬ x = y := fun q => by rw [q] at h; exact Int32.lt_irrefl h
theorem own_ltneJ {x y : Int64} (h : x < y) : ¬ x = y := fun q => by rw [q] at h; exact Int64.lt_irrefl h
theorem own_ltne'I {x y : Int32} (h : y < x) : ¬ x = y := fun q => by rw [q] at h; exact Int32.lt_irrefl h
theorem own_ltne'J {x y : Int64} (h : y < x) : ¬ x = y := fun q => by rw [q] at h; exact Int64.lt_irrefl h
theorem own_nnI {x y : Int32} (h : ¬ x < y) (q : ¬ y < x) : x = y := by
  rw [Int32.lt_iff_toInt_lt] at *
  rw [← Int32.toInt_inj]
  omega
theorem own_nnJ {x y : Int64} (h : ¬ x < y) (q : ¬ y < x) : x = y := by
  rw [Int64.lt_iff_toInt_lt] at *
  rw [← Int64.toInt_inj]
  omega
end Own
theorem own_mapD (bs : List Int32) (j : Nat) : (bs.map Value.int).getD j (.int 0) = .int (bs.getD j 0) := by
  simp only [List.getD_eq_getElem?_getD, List.getElem?_map]
  cases bs[j]? <;> rfl
theorem own_mapDJ (bs : List Int64) (j : Nat) : (bs.map Value.long).getD j (.long 0) = .long (bs.getD j 0) := by
  simp only [List.getD_eq_getElem?_getD, List.getElem?_map]
  cases bs[j]? <;> rfl
def own_in (cs : List Int32) (nn : Int32) : Nat → Int32 → Int32 → Option (Int32 × Int32)
  | 0, _, _ => none
  | f + 1, kth, more =>
    if more = (0 : Int32) then (if ¬ (kth + (-1 : Int32)) < (0 : Int32) ∧ (kth + (-1 : Int32)) < nn then own_in cs nn f (kth + (-1 : Int32)) (cs.getD (kth + (-1 : Int32)).toNatClampNeg 0) else none)
    else some (kth, more)
def own_val (k : Int32) (pre : Int64) (al : Int32) (sb : Int64) : Int64 := (((k.toInt64 * (k - (1 : Int32)).toInt64) + ((k.toInt64 * (al - k).toInt64) + sb)) - pre)
def own_out (cs : List Int32) (nn mm : Int32) : Nat → Int32 → Int32 → Int32 → Int64 → Int32 → Int64 → List Int64 → Option (Int32 × List Int64)
  | 0, _, _, _, _, _, _, _ => none
  | f + 1, k, kth, more, pre, al, sb, sl =>
    if nn < k then some (nn, sl)
    else if ¬ (k - (1 : Int32)) < (0 : Int32) ∧ (k - (1 : Int32)) < nn then
      (if (al - cs.getD (k - (1 : Int32)).toNatClampNeg 0) < k then some (k - (1 : Int32), sl)
       else match own_in cs nn 8 kth more with
        | none => none
        | some (kth', more') =>
          if ¬ k < (0 : Int32) ∧ k < mm then
            own_out cs nn mm f (k + (1 : Int32)) kth' (more' + (-1 : Int32)) (pre + kth'.toInt64) (al - cs.getD (k - (1 : Int32)).toNatClampNeg 0) (sb + ((k - (1 : Int32)).toInt64 * (cs.getD (k - (1 : Int32)).toNatClampNeg 0).toInt64))
              (sl.set k.toNatClampNeg (own_val k (pre + kth'.toInt64) (al - cs.getD (k - (1 : Int32)).toNatClampNeg 0) (sb + ((k - (1 : Int32)).toInt64 * (cs.getD (k - (1 : Int32)).toNatClampNeg 0).toInt64))))
          else none)
    else none
def own_two (l12 l13 : Slot) : Prop := (l12 = .unset ∧ l13 = .unset) ∨ ∃ b, l12 = .val (.long b) ∧ l13 = .second
theorem own_st12 {v0 v1 v2 v3 v4 v5 v6 v8 v9 v11 : Value} {l12 l13 : Slot} {x : Int64} (h : own_two l12 l13) :
    storeLocals #[.val v0, .val v1, .val v2, .val v3, .val v4, .val v5, .val v6, .second, .val v8, .val v9, .second, .val v11, l12, l13] 12 (.long x) = some #[.val v0, .val v1, .val v2, .val v3, .val v4, .val v5, .val v6, .second, .val v8, .val v9, .second, .val v11, .val (.long x), .second] := by
  rcases h with ⟨rfl, rfl⟩ | ⟨b, rfl, rfl⟩ <;> rfl
theorem own_ixN {i nn : Int32} {L : Nat} (h : ¬ i < (0 : Int32) ∧ i < nn) (hl : L = nn.toNatClampNeg) : i.toNatClampNeg < L := by
  have h1 := nat_of h.1
  have h2 := Int32.lt_iff_toInt_lt.mp h.2
  have h3 : ¬ nn < (0 : Int32) := fun q => by have := Int32.lt_iff_toInt_lt.mp q; have e : (0 : Int32).toInt = 0 := (by decide); omega
  have h4 := nat_of h3
  omega
theorem d4_0 : decode prog_35_method_5_code 0 = .ok (.aload_n 0, 1) := by decide +kernel
theorem d4_1 : decode prog_35_method_5_code 1 = .ok (.arraylength, 1) := by decide +kernel
theorem d4_2 : decode prog_35_method_5_code 2 = .ok (.istore_n 3, 1) := by decide +kernel
theorem d4_3 : decode prog_35_method_5_code 3 = .ok (.iload_n 1, 1) := by decide +kernel
theorem d4_4 : decode prog_35_method_5_code 4 = .ok (.iconst 1, 1) := by decide +kernel
theorem d4_5 : decode prog_35_method_5_code 5 = .ok (.iadd, 1) := by decide +kernel
theorem d4_6 : decode prog_35_method_5_code 6 = .ok (.istore 4, 2) := by decide +kernel
theorem d4_8 : decode prog_35_method_5_code 8 = .ok (.iconst 0, 1) := by decide +kernel
theorem d4_9 : decode prog_35_method_5_code 9 = .ok (.istore 5, 2) := by decide +kernel
theorem d4_11 : decode prog_35_method_5_code 11 = .ok (.lconst 0, 1) := by decide +kernel
theorem d4_12 : decode prog_35_method_5_code 12 = .ok (.lstore 6, 2) := by decide +kernel
theorem d4_14 : decode prog_35_method_5_code 14 = .ok (.iload_n 3, 1) := by decide +kernel
theorem d4_15 : decode prog_35_method_5_code 15 = .ok (.istore 8, 2) := by decide +kernel
theorem d4_17 : decode prog_35_method_5_code 17 = .ok (.lconst 0, 1) := by decide +kernel
theorem d4_18 : decode prog_35_method_5_code 18 = .ok (.lstore 9, 2) := by decide +kernel
theorem d4_20 : decode prog_35_method_5_code 20 = .ok (.iconst 1, 1) := by decide +kernel
theorem d4_21 : decode prog_35_method_5_code 21 = .ok (.istore 11, 2) := by decide +kernel
theorem d4_23 : decode prog_35_method_5_code 23 = .ok (.iload 11, 2) := by decide +kernel
theorem d4_25 : decode prog_35_method_5_code 25 = .ok (.iload_n 3, 1) := by decide +kernel
theorem d4_26 : decode prog_35_method_5_code 26 = .ok (.if_icmp .gt 112, 3) := by decide +kernel
theorem d4_29 : decode prog_35_method_5_code 29 = .ok (.iload 8, 2) := by decide +kernel
theorem d4_31 : decode prog_35_method_5_code 31 = .ok (.aload_n 0, 1) := by decide +kernel
theorem d4_32 : decode prog_35_method_5_code 32 = .ok (.iload 11, 2) := by decide +kernel
theorem d4_34 : decode prog_35_method_5_code 34 = .ok (.iconst 1, 1) := by decide +kernel
theorem d4_35 : decode prog_35_method_5_code 35 = .ok (.isub, 1) := by decide +kernel
theorem d4_36 : decode prog_35_method_5_code 36 = .ok (.iaload, 1) := by decide +kernel
theorem d4_37 : decode prog_35_method_5_code 37 = .ok (.isub, 1) := by decide +kernel
theorem d4_38 : decode prog_35_method_5_code 38 = .ok (.istore 8, 2) := by decide +kernel
theorem d4_40 : decode prog_35_method_5_code 40 = .ok (.iload 8, 2) := by decide +kernel
theorem d4_42 : decode prog_35_method_5_code 42 = .ok (.iload 11, 2) := by decide +kernel
theorem d4_44 : decode prog_35_method_5_code 44 = .ok (.if_icmp .ge 8, 3) := by decide +kernel
theorem d4_47 : decode prog_35_method_5_code 47 = .ok (.iload 11, 2) := by decide +kernel
theorem d4_49 : decode prog_35_method_5_code 49 = .ok (.iconst 1, 1) := by decide +kernel
theorem d4_50 : decode prog_35_method_5_code 50 = .ok (.isub, 1) := by decide +kernel
theorem d4_51 : decode prog_35_method_5_code 51 = .ok (.ireturn, 1) := by decide +kernel
theorem d4_52 : decode prog_35_method_5_code 52 = .ok (.iload 5, 2) := by decide +kernel
theorem d4_54 : decode prog_35_method_5_code 54 = .ok (.ifCond .ne 15, 3) := by decide +kernel
theorem d4_57 : decode prog_35_method_5_code 57 = .ok (.iinc 4 (-1), 3) := by decide +kernel
theorem d4_60 : decode prog_35_method_5_code 60 = .ok (.aload_n 0, 1) := by decide +kernel
theorem d4_61 : decode prog_35_method_5_code 61 = .ok (.iload 4, 2) := by decide +kernel
theorem d4_63 : decode prog_35_method_5_code 63 = .ok (.iaload, 1) := by decide +kernel
theorem d4_64 : decode prog_35_method_5_code 64 = .ok (.istore 5, 2) := by decide +kernel
theorem d4_66 : decode prog_35_method_5_code 66 = .ok (.goto (-14), 3) := by decide +kernel
theorem d4_69 : decode prog_35_method_5_code 69 = .ok (.iinc 5 (-1), 3) := by decide +kernel
theorem d4_72 : decode prog_35_method_5_code 72 = .ok (.lload 6, 2) := by decide +kernel
theorem d4_74 : decode prog_35_method_5_code 74 = .ok (.iload 4, 2) := by decide +kernel
theorem d4_76 : decode prog_35_method_5_code 76 = .ok (.i2l, 1) := by decide +kernel
theorem d4_77 : decode prog_35_method_5_code 77 = .ok (.ladd, 1) := by decide +kernel
theorem d4_78 : decode prog_35_method_5_code 78 = .ok (.lstore 6, 2) := by decide +kernel
theorem d4_80 : decode prog_35_method_5_code 80 = .ok (.lload 9, 2) := by decide +kernel
theorem d4_82 : decode prog_35_method_5_code 82 = .ok (.iload 11, 2) := by decide +kernel
theorem d4_84 : decode prog_35_method_5_code 84 = .ok (.iconst 1, 1) := by decide +kernel
theorem d4_85 : decode prog_35_method_5_code 85 = .ok (.isub, 1) := by decide +kernel
theorem d4_86 : decode prog_35_method_5_code 86 = .ok (.i2l, 1) := by decide +kernel
theorem d4_87 : decode prog_35_method_5_code 87 = .ok (.aload_n 0, 1) := by decide +kernel
theorem d4_88 : decode prog_35_method_5_code 88 = .ok (.iload 11, 2) := by decide +kernel
theorem d4_90 : decode prog_35_method_5_code 90 = .ok (.iconst 1, 1) := by decide +kernel
theorem d4_91 : decode prog_35_method_5_code 91 = .ok (.isub, 1) := by decide +kernel
theorem d4_92 : decode prog_35_method_5_code 92 = .ok (.iaload, 1) := by decide +kernel
theorem d4_93 : decode prog_35_method_5_code 93 = .ok (.i2l, 1) := by decide +kernel
theorem d4_94 : decode prog_35_method_5_code 94 = .ok (.lmul, 1) := by decide +kernel
theorem d4_95 : decode prog_35_method_5_code 95 = .ok (.ladd, 1) := by decide +kernel
theorem d4_96 : decode prog_35_method_5_code 96 = .ok (.lstore 9, 2) := by decide +kernel
theorem d4_98 : decode prog_35_method_5_code 98 = .ok (.iload 11, 2) := by decide +kernel
theorem d4_100 : decode prog_35_method_5_code 100 = .ok (.i2l, 1) := by decide +kernel
theorem d4_101 : decode prog_35_method_5_code 101 = .ok (.iload 8, 2) := by decide +kernel
theorem d4_103 : decode prog_35_method_5_code 103 = .ok (.iload 11, 2) := by decide +kernel
theorem d4_105 : decode prog_35_method_5_code 105 = .ok (.isub, 1) := by decide +kernel
theorem d4_106 : decode prog_35_method_5_code 106 = .ok (.i2l, 1) := by decide +kernel
theorem d4_107 : decode prog_35_method_5_code 107 = .ok (.lmul, 1) := by decide +kernel
theorem d4_108 : decode prog_35_method_5_code 108 = .ok (.lload 9, 2) := by decide +kernel
theorem d4_110 : decode prog_35_method_5_code 110 = .ok (.ladd, 1) := by decide +kernel
theorem d4_111 : decode prog_35_method_5_code 111 = .ok (.lstore 12, 2) := by decide +kernel
theorem d4_113 : decode prog_35_method_5_code 113 = .ok (.aload_n 2, 1) := by decide +kernel
theorem d4_114 : decode prog_35_method_5_code 114 = .ok (.iload 11, 2) := by decide +kernel
theorem d4_116 : decode prog_35_method_5_code 116 = .ok (.iload 11, 2) := by decide +kernel
theorem d4_118 : decode prog_35_method_5_code 118 = .ok (.i2l, 1) := by decide +kernel
theorem d4_119 : decode prog_35_method_5_code 119 = .ok (.iload 11, 2) := by decide +kernel
theorem d4_121 : decode prog_35_method_5_code 121 = .ok (.iconst 1, 1) := by decide +kernel
theorem d4_122 : decode prog_35_method_5_code 122 = .ok (.isub, 1) := by decide +kernel
theorem d4_123 : decode prog_35_method_5_code 123 = .ok (.i2l, 1) := by decide +kernel
theorem d4_124 : decode prog_35_method_5_code 124 = .ok (.lmul, 1) := by decide +kernel
theorem d4_125 : decode prog_35_method_5_code 125 = .ok (.lload 12, 2) := by decide +kernel
theorem d4_127 : decode prog_35_method_5_code 127 = .ok (.ladd, 1) := by decide +kernel
theorem d4_128 : decode prog_35_method_5_code 128 = .ok (.lload 6, 2) := by decide +kernel
theorem d4_130 : decode prog_35_method_5_code 130 = .ok (.lsub, 1) := by decide +kernel
theorem d4_131 : decode prog_35_method_5_code 131 = .ok (.lastore, 1) := by decide +kernel
theorem d4_132 : decode prog_35_method_5_code 132 = .ok (.iinc 11 1, 3) := by decide +kernel
theorem d4_135 : decode prog_35_method_5_code 135 = .ok (.goto (-112), 3) := by decide +kernel
theorem d4_138 : decode prog_35_method_5_code 138 = .ok (.iload_n 3, 1) := by decide +kernel
theorem d4_139 : decode prog_35_method_5_code 139 = .ok (.ireturn, 1) := by decide +kernel
theorem pn_gallai_service_Graphicality : plainName "gallai/service/Graphicality" = true := by first | (simp [plainName, overriddenIn]; done) | decide +kernel
theorem ef_4 (m : MethodId) (a4_0 : Addr) (p4_1 : Int32) (a4_2 : Addr) : entryFrame m #[(.ref a4_0), (.int p4_1), (.ref a4_2)] 14 = mkF m 0 #[.val (.ref a4_0), .val (.int p4_1), .val (.ref a4_2), .unset, .unset, .unset, .unset, .unset, .unset, .unset, .unset, .unset, .unset, .unset] [] := by first | (simp [entryFrame, mkF, argsToLocals, Value.category]; done) | rfl
def Q4 (Z : State) (a4_0 : Addr) (p4_1 : Int32) (a4_2 : Addr) (cs : List Int32) (sl : List Int64) (rr : Int32) (sx : List Int64) (kc : ClassId) (nn : Int32) (ks : ClassId) (mm : Int32) (h0 : Heap) (n0 : Nat) (v : Option Value) (h : Heap) (L : List Loc) : Prop := v = some (.int rr) ∧ Fr n0 L ∧ Keep h0 h [a4_2] ∧ Arv Z h a4_2 ks .long mm (sx.map Value.long) (.long 0)
set_option maxRecDepth 65536 in
set_option maxHeartbeats 40000000 in
theorem rm4 (l : Launch) (Z : State) (a0 : Array Value) (hw : ∀ d ∈ tables_1, d.before a0 Z = true) (ws : List Jvm.Cond) (a4_0 : Addr) (p4_1 : Int32) (a4_2 : Addr) (cs : List Int32) (sl : List Int64) (rr : Int32) (sx : List Int64) (kc : ClassId) (nn : Int32) (ks : ClassId) (mm : Int32) (h0 : Heap) (n0 : Nat) (Z0 : n0 ≤ h0.size) (V_a4_0 : Arv Z h0 a4_0 kc .int nn (cs.map Value.int) (.int 0)) (V_a4_2 : Arv Z h0 a4_2 ks .long mm (sl.map Value.long) (.long 0)) (g_a4_2 : n0 ≤ a4_2) (ne_a4_0_a4_2 : a4_0 ≠ a4_2) (hsl : sl.length = mm.toNatClampNeg) (hmod : own_out cs nn mm 7 (1 : Int32) (p4_1 + (1 : Int32)) (0 : Int32) (0 : Int64) nn (0 : Int64) sl = some (rr, sx)) :
    MetFree l (⟨"gallai/service/Graphicality", "slacks", "([II[J)I"⟩ : MethodName) (head1 (Jvm.Cond.code (⟨"gallai/service/Graphicality", "slacks", "([II[J)I"⟩ : MethodName) prog_35_method_5_code 14 (some .int) :: ws) ({ frames := 0, cells := 0, slots := 0, locals := 0 } : Room)) (fun a U => a = #[(.ref a4_0), (.int p4_1), (.ref a4_2)] ∧ Z.Warmed39 U.vm ∧ U.heap = h0) (fun _ _ _ _ _ => True) (fun _ U o U' => ∃ v L, o = .returned v ∧ Q4 Z a4_0 p4_1 a4_2 cs sl rr sx kc nn ks mm h0 n0 v U'.heap L ∧ FrameEnd U o U' L ({ frames := 0, cells := 0, slots := 0, locals := 0 } : Room).cells ({ frames := 0, cells := 0, slots := 0, locals := 0 } : Room).slots) := by
  refine MetFree.of_bodySF (plainFor_of_name pn_gallai_service_Graphicality) hisR ?_
  intro p e s m args below meth c s₁ Bd hml0 hP hK
  obtain ⟨rfl, hZ, hh⟩ := hP
  have hx := Bd.exec
  have hby := Bd.bytes
  have hlk := Bd.notSynchronized
  have hret := Bd.returns
  have hml : c.maxLocals = 14 := hml0
  have hown : s.vm.findClass "gallai/service/Graphicality" = some m.cls := findClass_of_methodNamed Bd.named
  have hnm := (name_of_methodNamed Bd.named Bd.method).1
  have X0 : Stand p l e ({ frames := 0, cells := 0, slots := 0, locals := 0 } : Room) s m #[(.ref a4_0), (.int p4_1), (.ref a4_2)] below meth c s₁ [] 0 0 := Stand.of_body Bd
  have e0 : s₁.heap = h0 := by rw [← hh, Bd.state]; rfl
  have N0 := Fr.nil n0
  have K0 : Keep h0 h0 [a4_2] := Keep.refl _ _
  show own_G p e below s (Q4 Z a4_0 p4_1 a4_2 cs sl rr sx kc nn ks mm h0 n0) ({ frames := 0, cells := 0, slots := 0, locals := 0 } : Room).cells ({ frames := 0, cells := 0, slots := 0, locals := 0 } : Room).slots s₁ (entryFrame m #[(.ref a4_0), (.int p4_1), (.ref a4_2)] 14)
  refine own_cast (ef_4 m a4_0 p4_1 a4_2) ?_
  refine own_s (g' := (mkF m 1 #[.val (.ref a4_0), .val (.int p4_1), .val (.ref a4_2), .unset, .unset, .unset, .unset, .unset, .unset, .unset, .unset, .unset, .unset, .unset] [(.ref a4_0)])) (fun _ kz => XS.aloadN X0.here hx rfl (hb hby d4_0) rfl rfl kz) ?_
  obtain ⟨cl1, Ar1, -, S1, M1, -, -⟩ := id V_a4_0
  refine own_s (g' := (mkF m 2 #[.val (.ref a4_0), .val (.int p4_1), .val (.ref a4_2), .unset, .unset, .unset, .unset, .unset, .unset, .unset, .unset, .unset, .unset, .unset] [(.int nn)])) (fun t k => X0.arraylength hx (by rw [e0]; exact Ar1.1) (State.isArrayOf_alike hZ.alike Ar1.2.1) (g := (mkF m 1 #[.val (.ref a4_0), .val (.int p4_1), .val (.ref a4_2), .unset, .unset, .unset, .unset, .unset, .unset, .unset, .unset, .unset, .unset, .unset] [(.ref a4_0)])) rfl rfl (hb hby d4_1) _ (by rw [len_of S1 M1]; exact k)) ?_
  refine own_s (g' := (mkF m 3 #[.val (.ref a4_0), .val (.int p4_1), .val (.ref a4_2), .val (.int nn), .unset, .unset, .unset, .unset, .unset, .unset, .unset, .unset, .unset, .unset] [])) (fun _ kz => XS.istoreN X0.here hx rfl (hb hby d4_2) rfl (l' := #[.val (.ref a4_0), .val (.int p4_1), .val (.ref a4_2), .val (.int nn), .unset, .unset, .unset, .unset, .unset, .unset, .unset, .unset, .unset, .unset]) rfl kz) ?_
  refine own_s (g' := (mkF m 4 #[.val (.ref a4_0), .val (.int p4_1), .val (.ref a4_2), .val (.int nn), .unset, .unset, .unset, .unset, .unset, .unset, .unset, .unset, .unset, .unset] [(.int p4_1)])) (fun _ kz => XS.iloadN X0.here hx rfl (hb hby d4_3) rfl kz) ?_
  refine own_s (g' := (mkF m 5 #[.val (.ref a4_0), .val (.int p4_1), .val (.ref a4_2), .val (.int nn), .unset, .unset, .unset, .unset, .unset, .unset, .unset, .unset, .unset, .unset] [(.int 1), (.int p4_1)])) (fun _ kz => XS.iconst X0.here hx rfl (hb hby d4_4) kz) ?_
  refine own_s (g' := (mkF m 6 #[.val (.ref a4_0), .val (.int p4_1), .val (.ref a4_2), .val (.int nn), .unset, .unset, .unset, .unset, .unset, .unset, .unset, .unset, .unset, .unset] [(.int (p4_1 + (1 : Int32)))])) (fun _ kz => XS.iadd X0.here hx rfl (hb hby d4_5) rfl kz) ?_
  refine own_s (g' := (mkF m 8 #[.val (.ref a4_0), .val (.int p4_1), .val (.ref a4_2), .val (.int nn), .val (.int (p4_1 + (1 : Int32))), .unset, .unset, .unset, .unset, .unset, .unset, .unset, .unset, .unset] [])) (fun _ kz => XS.istore X0.here hx rfl (hb hby d4_6) rfl (l' := #[.val (.ref a4_0), .val (.int p4_1), .val (.ref a4_2), .val (.int nn), .val (.int (p4_1 + (1 : Int32))), .unset, .unset, .unset, .unset, .unset, .unset, .unset, .unset, .unset]) rfl kz) ?_
  refine own_s (g' := (mkF m 9 #[.val (.ref a4_0), .val (.int p4_1), .val (.ref a4_2), .val (.int nn), .val (.int (p4_1 + (1 : Int32))), .unset, .unset, .unset, .unset, .unset, .unset, .unset, .unset, .unset] [(.int 0)])) (fun _ kz => XS.iconst X0.here hx rfl (hb hby d4_8) kz) ?_
  refine own_s (g' := (mkF m 11 #[.val (.ref a4_0), .val (.int p4_1), .val (.ref a4_2), .val (.int nn), .val (.int (p4_1 + (1 : Int32))), .val (.int 0), .unset, .unset, .unset, .unset, .unset, .unset, .unset, .unset] [])) (fun _ kz => XS.istore X0.here hx rfl (hb hby d4_9) rfl (l' := #[.val (.ref a4_0), .val (.int p4_1), .val (.ref a4_2), .val (.int nn), .val (.int (p4_1 + (1 : Int32))), .val (.int 0), .unset, .unset, .unset, .unset, .unset, .unset, .unset, .unset]) rfl kz) ?_
  refine own_s (g' := (mkF m 12 #[.val (.ref a4_0), .val (.int p4_1), .val (.ref a4_2), .val (.int nn), .val (.int (p4_1 + (1 : Int32))), .val (.int 0), .unset, .unset, .unset, .unset, .unset, .unset, .unset, .unset] [(.long 0)])) (fun _ kz => XS.lconst X0.here hx rfl (hb hby d4_11) kz) ?_
  refine own_s (g' := (mkF m 14 #[.val (.ref a4_0), .val (.int p4_1), .val (.ref a4_2), .val (.int nn), .val (.int (p4_1 + (1 : Int32))), .val (.int 0), .val (.long 0), .second, .unset, .unset, .unset, .unset, .unset, .unset] [])) (fun _ kz => XS.lstore X0.here hx rfl (hb hby d4_12) rfl (l' := #[.val (.ref a4_0), .val (.int p4_1), .val (.ref a4_2), .val (.int nn), .val (.int (p4_1 + (1 : Int32))), .val (.int 0), .val (.long 0), .second, .unset, .unset, .unset, .unset, .unset, .unset]) rfl kz) ?_
  refine own_s (g' := (mkF m 15 #[.val (.ref a4_0), .val (.int p4_1), .val (.ref a4_2), .val (.int nn), .val (.int (p4_1 + (1 : Int32))), .val (.int 0), .val (.long 0), .second, .unset, .unset, .unset, .unset, .unset, .unset] [(.int nn)])) (fun _ kz => XS.iloadN X0.here hx rfl (hb hby d4_14) rfl kz) ?_
  refine own_s (g' := (mkF m 17 #[.val (.ref a4_0), .val (.int p4_1), .val (.ref a4_2), .val (.int nn), .val (.int (p4_1 + (1 : Int32))), .val (.int 0), .val (.long 0), .second, .val (.int nn), .unset, .unset, .unset, .unset, .unset] [])) (fun _ kz => XS.istore X0.here hx rfl (hb hby d4_15) rfl (l' := #[.val (.ref a4_0), .val (.int p4_1), .val (.ref a4_2), .val (.int nn), .val (.int (p4_1 + (1 : Int32))), .val (.int 0), .val (.long 0), .second, .val (.int nn), .unset, .unset, .unset, .unset, .unset]) rfl kz) ?_
  refine own_s (g' := (mkF m 18 #[.val (.ref a4_0), .val (.int p4_1), .val (.ref a4_2), .val (.int nn), .val (.int (p4_1 + (1 : Int32))), .val (.int 0), .val (.long 0), .second, .val (.int nn), .unset, .unset, .unset, .unset, .unset] [(.long 0)])) (fun _ kz => XS.lconst X0.here hx rfl (hb hby d4_17) kz) ?_
  refine own_s (g' := (mkF m 20 #[.val (.ref a4_0), .val (.int p4_1), .val (.ref a4_2), .val (.int nn), .val (.int (p4_1 + (1 : Int32))), .val (.int 0), .val (.long 0), .second, .val (.int nn), .val (.long 0), .second, .unset, .unset, .unset] [])) (fun _ kz => XS.lstore X0.here hx rfl (hb hby d4_18) rfl (l' := #[.val (.ref a4_0), .val (.int p4_1), .val (.ref a4_2), .val (.int nn), .val (.int (p4_1 + (1 : Int32))), .val (.int 0), .val (.long 0), .second, .val (.int nn), .val (.long 0), .second, .unset, .unset, .unset]) rfl kz) ?_
  refine own_s (g' := (mkF m 21 #[.val (.ref a4_0), .val (.int p4_1), .val (.ref a4_2), .val (.int nn), .val (.int (p4_1 + (1 : Int32))), .val (.int 0), .val (.long 0), .second, .val (.int nn), .val (.long 0), .second, .unset, .unset, .unset] [(.int 1)])) (fun _ kz => XS.iconst X0.here hx rfl (hb hby d4_20) kz) ?_
  refine own_s (g' := (mkF m 23 #[.val (.ref a4_0), .val (.int p4_1), .val (.ref a4_2), .val (.int nn), .val (.int (p4_1 + (1 : Int32))), .val (.int 0), .val (.long 0), .second, .val (.int nn), .val (.long 0), .second, .val (.int 1), .unset, .unset] [])) (fun _ kz => XS.istore X0.here hx rfl (hb hby d4_21) rfl (l' := #[.val (.ref a4_0), .val (.int p4_1), .val (.ref a4_2), .val (.int nn), .val (.int (p4_1 + (1 : Int32))), .val (.int 0), .val (.long 0), .second, .val (.int nn), .val (.long 0), .second, .val (.int 1), .unset, .unset]) rfl kz) ?_
  have inner : ∀ (f : Nat) (kth more kth' more' : Int32), own_in cs nn f kth more = some (kth', more') → ∀ (k : Int32) (pre : Int64) (al : Int32) (sb : Int64) (l12 l13 : Slot) (T : State) (locs : List Loc) (h : Heap), Stand p l e ({ frames := 0, cells := 0, slots := 0, locals := 0 } : Room) s m #[(.ref a4_0), (.int p4_1), (.ref a4_2)] below meth c T locs 0 0 → T.heap = h → Arv Z h a4_0 kc .int nn (cs.map Value.int) (.int 0) → own_G p e below s (fun v' h' L' => v' = some (.int rr) ∧ Fr n0 L' ∧ Keep h0 h' [a4_2] ∧ Arv Z h' a4_2 ks .long mm (sx.map Value.long) (.long 0)) ({ frames := 0, cells := 0, slots := 0, locals := 0 } : Room).cells ({ frames := 0, cells := 0, slots := 0, locals := 0 } : Room).slots T (mkF m 69 #[.val (.ref a4_0), .val (.int p4_1), .val (.ref a4_2), .val (.int nn), .val (.int kth'), .val (.int more'), .val (.long pre), .second, .val (.int al), .val (.long sb), .second, .val (.int k), l12, l13] []) → own_G p e below s (fun v' h' L' => v' = some (.int rr) ∧ Fr n0 L' ∧ Keep h0 h' [a4_2] ∧ Arv Z h' a4_2 ks .long mm (sx.map Value.long) (.long 0)) ({ frames := 0, cells := 0, slots := 0, locals := 0 } : Room).cells ({ frames := 0, cells := 0, slots := 0, locals := 0 } : Room).slots T (mkF m 52 #[.val (.ref a4_0), .val (.int p4_1), .val (.ref a4_2), .val (.int nn), .val (.int kth), .val (.int more), .val (.long pre), .second, .val (.int al), .val (.long sb), .second, .val (.int k), l12, l13] []) := by
   intro f
   induction f with
   | zero => intro kth more kth' more' hm; cases hm
   | succ f ih =>
    intro kth more kth' more' hm k pre al sb l12 l13 T locs h X eT Vc hk
    by_cases cm : more = (0 : Int32)
    ·skip
     by_cases hbd : ¬ (kth + (-1 : Int32)) < (0 : Int32) ∧ (kth + (-1 : Int32)) < nn
     ·skip
      rw [own_in, if_pos cm, if_pos hbd] at hm
      refine own_s (g' := (mkF m 54 #[.val (.ref a4_0), .val (.int p4_1), .val (.ref a4_2), .val (.int nn), .val (.int kth), .val (.int more), .val (.long pre), .second, .val (.int al), .val (.long sb), .second, .val (.int k), l12, l13] [(.int more)])) (fun _ kz => XS.iload X.here hx rfl (hb hby d4_52) rfl kz) ?_
      refine own_s (g' := (mkF m 57 #[.val (.ref a4_0), .val (.int p4_1), .val (.ref a4_2), .val (.int nn), .val (.int kth), .val (.int more), .val (.long pre), .second, .val (.int al), .val (.long sb), .second, .val (.int k), l12, l13] [])) (fun _ kz => XS.ifNo X.here hx rfl (hb hby d4_54) rfl ((if0 _ _).trans (teq cm).2) kz) ?_
      refine own_s (g' := (mkF m 60 #[.val (.ref a4_0), .val (.int p4_1), .val (.ref a4_2), .val (.int nn), .val (.int (kth + (-1 : Int32))), .val (.int more), .val (.long pre), .second, .val (.int al), .val (.long sb), .second, .val (.int k), l12, l13] [])) (fun _ kz => XS.iinc X.here hx rfl (hb hby d4_57) rfl (l' := #[.val (.ref a4_0), .val (.int p4_1), .val (.ref a4_2), .val (.int nn), .val (.int (kth + (-1 : Int32))), .val (.int more), .val (.long pre), .second, .val (.int al), .val (.long sb), .second, .val (.int k), l12, l13]) rfl kz) ?_
      refine own_s (g' := (mkF m 61 #[.val (.ref a4_0), .val (.int p4_1), .val (.ref a4_2), .val (.int nn), .val (.int (kth + (-1 : Int32))), .val (.int more), .val (.long pre), .second, .val (.int al), .val (.long sb), .second, .val (.int k), l12, l13] [(.ref a4_0)])) (fun _ kz => XS.aloadN X.here hx rfl (hb hby d4_60) rfl rfl kz) ?_
      refine own_s (g' := (mkF m 63 #[.val (.ref a4_0), .val (.int p4_1), .val (.ref a4_2), .val (.int nn), .val (.int (kth + (-1 : Int32))), .val (.int more), .val (.long pre), .second, .val (.int al), .val (.long sb), .second, .val (.int k), l12, l13] [(.int (kth + (-1 : Int32))), (.ref a4_0)])) (fun _ kz => XS.iload X.here hx rfl (hb hby d4_61) rfl kz) ?_
      obtain ⟨cl2, Ar2, -, S2, -, H2, -⟩ := id Vc
      have in2 := inb_of S2 (j := (kth + (-1 : Int32))) hbd
      refine own_s (g' := (mkF m 64 #[.val (.ref a4_0), .val (.int p4_1), .val (.ref a4_2), .val (.int nn), .val (.int (kth + (-1 : Int32))), .val (.int more), .val (.long pre), .second, .val (.int al), .val (.long sb), .second, .val (.int k), l12, l13] [(.int (cs.getD (kth + (-1 : Int32)).toNatClampNeg 0))])) (X.iaload hx (j := (kth + (-1 : Int32))) (v := (.int (cs.getD (kth + (-1 : Int32)).toNatClampNeg 0))) (by rw [eT]; exact Ar2.1) (State.isArrayOf_alike hZ.alike Ar2.2.1) Ar2.2.2 in2 (Has.at H2 in2 (own_mapD cs _)) (g := (mkF m 63 #[.val (.ref a4_0), .val (.int p4_1), .val (.ref a4_2), .val (.int nn), .val (.int (kth + (-1 : Int32))), .val (.int more), .val (.long pre), .second, .val (.int al), .val (.long sb), .second, .val (.int k), l12, l13] [(.int (kth + (-1 : Int32))), (.ref a4_0)])) rfl rfl (hb hby d4_63)) ?_
      refine own_s (g' := (mkF m 66 #[.val (.ref a4_0), .val (.int p4_1), .val (.ref a4_2), .val (.int nn), .val (.int (kth + (-1 : Int32))), .val (.int (cs.getD (kth + (-1 : Int32)).toNatClampNeg 0)), .val (.long pre), .second, .val (.int al), .val (.long sb), .second, .val (.int k), l12, l13] [])) (fun _ kz => XS.istore X.here hx rfl (hb hby d4_64) rfl (l' := #[.val (.ref a4_0), .val (.int p4_1), .val (.ref a4_2), .val (.int nn), .val (.int (kth + (-1 : Int32))), .val (.int (cs.getD (kth + (-1 : Int32)).toNatClampNeg 0)), .val (.long pre), .second, .val (.int al), .val (.long sb), .second, .val (.int k), l12, l13]) rfl kz) ?_
      refine own_s (g' := (mkF m 52 #[.val (.ref a4_0), .val (.int p4_1), .val (.ref a4_2), .val (.int nn), .val (.int (kth + (-1 : Int32))), .val (.int (cs.getD (kth + (-1 : Int32)).toNatClampNeg 0)), .val (.long pre), .second, .val (.int al), .val (.long sb), .second, .val (.int k), l12, l13] [])) (fun _ kz => XS.goto X.here hx rfl (pc0 := 66) (pc' := 52) rfl (hb hby d4_66) (by decide) (by decide) kz) ?_
      exact ih _ _ _ _ hm k pre al sb l12 l13 T locs h X eT Vc hk
     ·rw [own_in, if_pos cm, if_neg hbd] at hm; cases hm
    ·skip
     rw [own_in, if_neg cm] at hm
     have hq := Prod.mk.inj (Option.some.inj hm)
     rw [← hq.1, ← hq.2] at hk
     refine own_s (g' := (mkF m 54 #[.val (.ref a4_0), .val (.int p4_1), .val (.ref a4_2), .val (.int nn), .val (.int kth), .val (.int more), .val (.long pre), .second, .val (.int al), .val (.long sb), .second, .val (.int k), l12, l13] [(.int more)])) (fun _ kz => XS.iload X.here hx rfl (hb hby d4_52) rfl kz) ?_
     refine own_s (g' := (mkF m 69 #[.val (.ref a4_0), .val (.int p4_1), .val (.ref a4_2), .val (.int nn), .val (.int kth), .val (.int more), .val (.long pre), .second, .val (.int al), .val (.long sb), .second, .val (.int k), l12, l13] [])) (fun _ kz => XS.ifYes X.here hx rfl (pc0 := 54) (pc' := 69) rfl (hb hby d4_54) rfl ((if0 _ _).trans (feq cm).2) (by decide) (by decide) kz) ?_
     exact hk
  have outer : ∀ (f : Nat) (k kth more : Int32) (pre : Int64) (al : Int32) (sb : Int64) (l12 l13 : Slot) (sl : List Int64) (T : State) (locs : List Loc) (h : Heap), Stand p l e ({ frames := 0, cells := 0, slots := 0, locals := 0 } : Room) s m #[(.ref a4_0), (.int p4_1), (.ref a4_2)] below meth c T locs 0 0 → T.heap = h → Fr n0 locs → Keep h0 h [a4_2] → Arv Z h a4_0 kc .int nn (cs.map Value.int) (.int 0) → Arv Z h a4_2 ks .long mm (sl.map Value.long) (.long 0) → own_two l12 l13 → sl.length = mm.toNatClampNeg → own_out cs nn mm f k kth more pre al sb sl = some (rr, sx) → own_G p e below s (fun v' h' L' => v' = some (.int rr) ∧ Fr n0 L' ∧ Keep h0 h' [a4_2] ∧ Arv Z h' a4_2 ks .long mm (sx.map Value.long) (.long 0)) ({ frames := 0, cells := 0, slots := 0, locals := 0 } : Room).cells ({ frames := 0, cells := 0, slots := 0, locals := 0 } : Room).slots T (mkF m 23 #[.val (.ref a4_0), .val (.int p4_1), .val (.ref a4_2), .val (.int nn), .val (.int kth), .val (.int more), .val (.long pre), .second, .val (.int al), .val (.long sb), .second, .val (.int k), l12, l13] []) := by
   intro f
   induction f with
   | zero => intro k kth more pre al sb l12 l13 sl T locs h X eT N Kp Vc Vs h2 hl hm; cases hm
   | succ f ih =>
    intro k kth more pre al sb l12 l13 sl T locs h X eT N Kp Vc Vs h2 hl hm
    by_cases c1 : nn < k
    ·skip
     rw [own_out, if_pos c1] at hm
     have hq := Prod.mk.inj (Option.some.inj hm)
     refine own_s (g' := (mkF m 25 #[.val (.ref a4_0), .val (.int p4_1), .val (.ref a4_2), .val (.int nn), .val (.int kth), .val (.int more), .val (.long pre), .second, .val (.int al), .val (.long sb), .second, .val (.int k), l12, l13] [(.int k)])) (fun _ kz => XS.iload X.here hx rfl (hb hby d4_23) rfl kz) ?_
     refine own_s (g' := (mkF m 26 #[.val (.ref a4_0), .val (.int p4_1), .val (.ref a4_2), .val (.int nn), .val (.int kth), .val (.int more), .val (.long pre), .second, .val (.int al), .val (.long sb), .second, .val (.int k), l12, l13] [(.int nn), (.int k)])) (fun _ kz => XS.iloadN X.here hx rfl (hb hby d4_25) rfl kz) ?_
     refine own_s (g' := (mkF m 138 #[.val (.ref a4_0), .val (.int p4_1), .val (.ref a4_2), .val (.int nn), .val (.int kth), .val (.int more), .val (.long pre), .second, .val (.int al), .val (.long sb), .second, .val (.int k), l12, l13] [])) (fun _ kz => XS.icmpYes X.here hx rfl (pc0 := 26) (pc' := 138) rfl (hb hby d4_26) rfl (tlt c1).2.2.1 (by decide) (by decide) kz) ?_
     refine own_s (g' := (mkF m 139 #[.val (.ref a4_0), .val (.int p4_1), .val (.ref a4_2), .val (.int nn), .val (.int kth), .val (.int more), .val (.long pre), .second, .val (.int al), .val (.long sb), .second, .val (.int k), l12, l13] [(.int nn)])) (fun _ kz => XS.iloadN X.here hx rfl (hb hby d4_138) rfl kz) ?_
     refine own_retI X hx hlk hret (hb hby d4_139) (by decide) (by decide) ?_
     show some (Value.int _) = some (.int rr) ∧ Fr n0 _ ∧ Keep h0 T.heap [a4_2] ∧ Arv Z T.heap a4_2 ks .long mm (sx.map Value.long) (.long 0)
     rw [eT, ← hq.1, ← hq.2]
     exact ⟨rfl, N, Kp, Vs⟩
    ·skip
     by_cases hbd : ¬ (k - (1 : Int32)) < (0 : Int32) ∧ (k - (1 : Int32)) < nn
     ·skip
      by_cases c2 : (al - (cs.getD (k - (1 : Int32)).toNatClampNeg 0)) < k
      ·skip
       rw [own_out, if_neg c1, if_pos hbd, if_pos c2] at hm
       have hq := Prod.mk.inj (Option.some.inj hm)
       refine own_s (g' := (mkF m 25 #[.val (.ref a4_0), .val (.int p4_1), .val (.ref a4_2), .val (.int nn), .val (.int kth), .val (.int more), .val (.long pre), .second, .val (.int al), .val (.long sb), .second, .val (.int k), l12, l13] [(.int k)])) (fun _ kz => XS.iload X.here hx rfl (hb hby d4_23) rfl kz) ?_
       refine own_s (g' := (mkF m 26 #[.val (.ref a4_0), .val (.int p4_1), .val (.ref a4_2), .val (.int nn), .val (.int kth), .val (.int more), .val (.long pre), .second, .val (.int al), .val (.long sb), .second, .val (.int k), l12, l13] [(.int nn), (.int k)])) (fun _ kz => XS.iloadN X.here hx rfl (hb hby d4_25) rfl kz) ?_
       refine own_s (g' := (mkF m 29 #[.val (.ref a4_0), .val (.int p4_1), .val (.ref a4_2), .val (.int nn), .val (.int kth), .val (.int more), .val (.long pre), .second, .val (.int al), .val (.long sb), .second, .val (.int k), l12, l13] [])) (fun _ kz => XS.icmpNo X.here hx rfl (hb hby d4_26) rfl (flt c1).2.2.1 kz) ?_
       refine own_s (g' := (mkF m 31 #[.val (.ref a4_0), .val (.int p4_1), .val (.ref a4_2), .val (.int nn), .val (.int kth), .val (.int more), .val (.long pre), .second, .val (.int al), .val (.long sb), .second, .val (.int k), l12, l13] [(.int al)])) (fun _ kz => XS.iload X.here hx rfl (hb hby d4_29) rfl kz) ?_
       refine own_s (g' := (mkF m 32 #[.val (.ref a4_0), .val (.int p4_1), .val (.ref a4_2), .val (.int nn), .val (.int kth), .val (.int more), .val (.long pre), .second, .val (.int al), .val (.long sb), .second, .val (.int k), l12, l13] [(.ref a4_0), (.int al)])) (fun _ kz => XS.aloadN X.here hx rfl (hb hby d4_31) rfl rfl kz) ?_
       refine own_s (g' := (mkF m 34 #[.val (.ref a4_0), .val (.int p4_1), .val (.ref a4_2), .val (.int nn), .val (.int kth), .val (.int more), .val (.long pre), .second, .val (.int al), .val (.long sb), .second, .val (.int k), l12, l13] [(.int k), (.ref a4_0), (.int al)])) (fun _ kz => XS.iload X.here hx rfl (hb hby d4_32) rfl kz) ?_
       refine own_s (g' := (mkF m 35 #[.val (.ref a4_0), .val (.int p4_1), .val (.ref a4_2), .val (.int nn), .val (.int kth), .val (.int more), .val (.long pre), .second, .val (.int al), .val (.long sb), .second, .val (.int k), l12, l13] [(.int 1), (.int k), (.ref a4_0), (.int al)])) (fun _ kz => XS.iconst X.here hx rfl (hb hby d4_34) kz) ?_
       refine own_s (g' := (mkF m 36 #[.val (.ref a4_0), .val (.int p4_1), .val (.ref a4_2), .val (.int nn), .val (.int kth), .val (.int more), .val (.long pre), .second, .val (.int al), .val (.long sb), .second, .val (.int k), l12, l13] [(.int (k - (1 : Int32))), (.ref a4_0), (.int al)])) (fun _ kz => XS.isub X.here hx rfl (hb hby d4_35) rfl kz) ?_
       obtain ⟨cl3, Ar3, -, S3, -, H3, -⟩ := id Vc
       have in3 := inb_of S3 (j := (k - (1 : Int32))) hbd
       refine own_s (g' := (mkF m 37 #[.val (.ref a4_0), .val (.int p4_1), .val (.ref a4_2), .val (.int nn), .val (.int kth), .val (.int more), .val (.long pre), .second, .val (.int al), .val (.long sb), .second, .val (.int k), l12, l13] [(.int (cs.getD (k - (1 : Int32)).toNatClampNeg 0)), (.int al)])) (X.iaload hx (j := (k - (1 : Int32))) (v := (.int (cs.getD (k - (1 : Int32)).toNatClampNeg 0))) (by rw [eT]; exact Ar3.1) (State.isArrayOf_alike hZ.alike Ar3.2.1) Ar3.2.2 in3 (Has.at H3 in3 (own_mapD cs _)) (g := (mkF m 36 #[.val (.ref a4_0), .val (.int p4_1), .val (.ref a4_2), .val (.int nn), .val (.int kth), .val (.int more), .val (.long pre), .second, .val (.int al), .val (.long sb), .second, .val (.int k), l12, l13] [(.int (k - (1 : Int32))), (.ref a4_0), (.int al)])) rfl rfl (hb hby d4_36)) ?_
       refine own_s (g' := (mkF m 38 #[.val (.ref a4_0), .val (.int p4_1), .val (.ref a4_2), .val (.int nn), .val (.int kth), .val (.int more), .val (.long pre), .second, .val (.int al), .val (.long sb), .second, .val (.int k), l12, l13] [(.int (al - (cs.getD (k - (1 : Int32)).toNatClampNeg 0)))])) (fun _ kz => XS.isub X.here hx rfl (hb hby d4_37) rfl kz) ?_
       refine own_s (g' := (mkF m 40 #[.val (.ref a4_0), .val (.int p4_1), .val (.ref a4_2), .val (.int nn), .val (.int kth), .val (.int more), .val (.long pre), .second, .val (.int (al - (cs.getD (k - (1 : Int32)).toNatClampNeg 0))), .val (.long sb), .second, .val (.int k), l12, l13] [])) (fun _ kz => XS.istore X.here hx rfl (hb hby d4_38) rfl (l' := #[.val (.ref a4_0), .val (.int p4_1), .val (.ref a4_2), .val (.int nn), .val (.int kth), .val (.int more), .val (.long pre), .second, .val (.int (al - (cs.getD (k - (1 : Int32)).toNatClampNeg 0))), .val (.long sb), .second, .val (.int k), l12, l13]) rfl kz) ?_
       refine own_s (g' := (mkF m 42 #[.val (.ref a4_0), .val (.int p4_1), .val (.ref a4_2), .val (.int nn), .val (.int kth), .val (.int more), .val (.long pre), .second, .val (.int (al - (cs.getD (k - (1 : Int32)).toNatClampNeg 0))), .val (.long sb), .second, .val (.int k), l12, l13] [(.int (al - (cs.getD (k - (1 : Int32)).toNatClampNeg 0)))])) (fun _ kz => XS.iload X.here hx rfl (hb hby d4_40) rfl kz) ?_
       refine own_s (g' := (mkF m 44 #[.val (.ref a4_0), .val (.int p4_1), .val (.ref a4_2), .val (.int nn), .val (.int kth), .val (.int more), .val (.long pre), .second, .val (.int (al - (cs.getD (k - (1 : Int32)).toNatClampNeg 0))), .val (.long sb), .second, .val (.int k), l12, l13] [(.int k), (.int (al - (cs.getD (k - (1 : Int32)).toNatClampNeg 0)))])) (fun _ kz => XS.iload X.here hx rfl (hb hby d4_42) rfl kz) ?_
       refine own_s (g' := (mkF m 47 #[.val (.ref a4_0), .val (.int p4_1), .val (.ref a4_2), .val (.int nn), .val (.int kth), .val (.int more), .val (.long pre), .second, .val (.int (al - (cs.getD (k - (1 : Int32)).toNatClampNeg 0))), .val (.long sb), .second, .val (.int k), l12, l13] [])) (fun _ kz => XS.icmpNo X.here hx rfl (hb hby d4_44) rfl (tlt c2).2.1 kz) ?_
       refine own_s (g' := (mkF m 49 #[.val (.ref a4_0), .val (.int p4_1), .val (.ref a4_2), .val (.int nn), .val (.int kth), .val (.int more), .val (.long pre), .second, .val (.int (al - (cs.getD (k - (1 : Int32)).toNatClampNeg 0))), .val (.long sb), .second, .val (.int k), l12, l13] [(.int k)])) (fun _ kz => XS.iload X.here hx rfl (hb hby d4_47) rfl kz) ?_
       refine own_s (g' := (mkF m 50 #[.val (.ref a4_0), .val (.int p4_1), .val (.ref a4_2), .val (.int nn), .val (.int kth), .val (.int more), .val (.long pre), .second, .val (.int (al - (cs.getD (k - (1 : Int32)).toNatClampNeg 0))), .val (.long sb), .second, .val (.int k), l12, l13] [(.int 1), (.int k)])) (fun _ kz => XS.iconst X.here hx rfl (hb hby d4_49) kz) ?_
       refine own_s (g' := (mkF m 51 #[.val (.ref a4_0), .val (.int p4_1), .val (.ref a4_2), .val (.int nn), .val (.int kth), .val (.int more), .val (.long pre), .second, .val (.int (al - (cs.getD (k - (1 : Int32)).toNatClampNeg 0))), .val (.long sb), .second, .val (.int k), l12, l13] [(.int (k - (1 : Int32)))])) (fun _ kz => XS.isub X.here hx rfl (hb hby d4_50) rfl kz) ?_
       refine own_retI X hx hlk hret (hb hby d4_51) (by decide) (by decide) ?_
       show some (Value.int _) = some (.int rr) ∧ Fr n0 _ ∧ Keep h0 T.heap [a4_2] ∧ Arv Z T.heap a4_2 ks .long mm (sx.map Value.long) (.long 0)
       rw [eT, ← hq.1, ← hq.2]
       exact ⟨rfl, N, Kp, Vs⟩
      ·skip
       rw [own_out, if_neg c1, if_pos hbd, if_neg c2] at hm
       cases hin : own_in cs nn 8 kth more with
       | none => rw [hin] at hm; cases hm
       | some q =>
        obtain ⟨kth', more'⟩ := q
        rw [hin] at hm
        by_cases hk : ¬ k < (0 : Int32) ∧ k < mm
        ·skip
         have hm2 := (if_pos hk).symm.trans hm
         refine own_s (g' := (mkF m 25 #[.val (.ref a4_0), .val (.int p4_1), .val (.ref a4_2), .val (.int nn), .val (.int kth), .val (.int more), .val (.long pre), .second, .val (.int al), .val (.long sb), .second, .val (.int k), l12, l13] [(.int k)])) (fun _ kz => XS.iload X.here hx rfl (hb hby d4_23) rfl kz) ?_
         refine own_s (g' := (mkF m 26 #[.val (.ref a4_0), .val (.int p4_1), .val (.ref a4_2), .val (.int nn), .val (.int kth), .val (.int more), .val (.long pre), .second, .val (.int al), .val (.long sb), .second, .val (.int k), l12, l13] [(.int nn), (.int k)])) (fun _ kz => XS.iloadN X.here hx rfl (hb hby d4_25) rfl kz) ?_
         refine own_s (g' := (mkF m 29 #[.val (.ref a4_0), .val (.int p4_1), .val (.ref a4_2), .val (.int nn), .val (.int kth), .val (.int more), .val (.long pre), .second, .val (.int al), .val (.long sb), .second, .val (.int k), l12, l13] [])) (fun _ kz => XS.icmpNo X.here hx rfl (hb hby d4_26) rfl (flt c1).2.2.1 kz) ?_
         refine own_s (g' := (mkF m 31 #[.val (.ref a4_0), .val (.int p4_1), .val (.ref a4_2), .val (.int nn), .val (.int kth), .val (.int more), .val (.long pre), .second, .val (.int al), .val (.long sb), .second, .val (.int k), l12, l13] [(.int al)])) (fun _ kz => XS.iload X.here hx rfl (hb hby d4_29) rfl kz) ?_
         refine own_s (g' := (mkF m 32 #[.val (.ref a4_0), .val (.int p4_1), .val (.ref a4_2), .val (.int nn), .val (.int kth), .val (.int more), .val (.long pre), .second, .val (.int al), .val (.long sb), .second, .val (.int k), l12, l13] [(.ref a4_0), (.int al)])) (fun _ kz => XS.aloadN X.here hx rfl (hb hby d4_31) rfl rfl kz) ?_
         refine own_s (g' := (mkF m 34 #[.val (.ref a4_0), .val (.int p4_1), .val (.ref a4_2), .val (.int nn), .val (.int kth), .val (.int more), .val (.long pre), .second, .val (.int al), .val (.long sb), .second, .val (.int k), l12, l13] [(.int k), (.ref a4_0), (.int al)])) (fun _ kz => XS.iload X.here hx rfl (hb hby d4_32) rfl kz) ?_
         refine own_s (g' := (mkF m 35 #[.val (.ref a4_0), .val (.int p4_1), .val (.ref a4_2), .val (.int nn), .val (.int kth), .val (.int more), .val (.long pre), .second, .val (.int al), .val (.long sb), .second, .val (.int k), l12, l13] [(.int 1), (.int k), (.ref a4_0), (.int al)])) (fun _ kz => XS.iconst X.here hx rfl (hb hby d4_34) kz) ?_
         refine own_s (g' := (mkF m 36 #[.val (.ref a4_0), .val (.int p4_1), .val (.ref a4_2), .val (.int nn), .val (.int kth), .val (.int more), .val (.long pre), .second, .val (.int al), .val (.long sb), .second, .val (.int k), l12, l13] [(.int (k - (1 : Int32))), (.ref a4_0), (.int al)])) (fun _ kz => XS.isub X.here hx rfl (hb hby d4_35) rfl kz) ?_
         obtain ⟨cl4, Ar4, -, S4, -, H4, -⟩ := id Vc
         have in4 := inb_of S4 (j := (k - (1 : Int32))) hbd
         refine own_s (g' := (mkF m 37 #[.val (.ref a4_0), .val (.int p4_1), .val (.ref a4_2), .val (.int nn), .val (.int kth), .val (.int more), .val (.long pre), .second, .val (.int al), .val (.long sb), .second, .val (.int k), l12, l13] [(.int (cs.getD (k - (1 : Int32)).toNatClampNeg 0)), (.int al)])) (X.iaload hx (j := (k - (1 : Int32))) (v := (.int (cs.getD (k - (1 : Int32)).toNatClampNeg 0))) (by rw [eT]; exact Ar4.1) (State.isArrayOf_alike hZ.alike Ar4.2.1) Ar4.2.2 in4 (Has.at H4 in4 (own_mapD cs _)) (g := (mkF m 36 #[.val (.ref a4_0), .val (.int p4_1), .val (.ref a4_2), .val (.int nn), .val (.int kth), .val (.int more), .val (.long pre), .second, .val (.int al), .val (.long sb), .second, .val (.int k), l12, l13] [(.int (k - (1 : Int32))), (.ref a4_0), (.int al)])) rfl rfl (hb hby d4_36)) ?_
         refine own_s (g' := (mkF m 38 #[.val (.ref a4_0), .val (.int p4_1), .val (.ref a4_2), .val (.int nn), .val (.int kth), .val (.int more), .val (.long pre), .second, .val (.int al), .val (.long sb), .second, .val (.int k), l12, l13] [(.int (al - (cs.getD (k - (1 : Int32)).toNatClampNeg 0)))])) (fun _ kz => XS.isub X.here hx rfl (hb hby d4_37) rfl kz) ?_
         refine own_s (g' := (mkF m 40 #[.val (.ref a4_0), .val (.int p4_1), .val (.ref a4_2), .val (.int nn), .val (.int kth), .val (.int more), .val (.long pre), .second, .val (.int (al - (cs.getD (k - (1 : Int32)).toNatClampNeg 0))), .val (.long sb), .second, .val (.int k), l12, l13] [])) (fun _ kz => XS.istore X.here hx rfl (hb hby d4_38) rfl (l' := #[.val (.ref a4_0), .val (.int p4_1), .val (.ref a4_2), .val (.int nn), .val (.int kth), .val (.int more), .val (.long pre), .second, .val (.int (al - (cs.getD (k - (1 : Int32)).toNatClampNeg 0))), .val (.long sb), .second, .val (.int k), l12, l13]) rfl kz) ?_
         refine own_s (g' := (mkF m 42 #[.val (.ref a4_0), .val (.int p4_1), .val (.ref a4_2), .val (.int nn), .val (.int kth), .val (.int more), .val (.long pre), .second, .val (.int (al - (cs.getD (k - (1 : Int32)).toNatClampNeg 0))), .val (.long sb), .second, .val (.int k), l12, l13] [(.int (al - (cs.getD (k - (1 : Int32)).toNatClampNeg 0)))])) (fun _ kz => XS.iload X.here hx rfl (hb hby d4_40) rfl kz) ?_
         refine own_s (g' := (mkF m 44 #[.val (.ref a4_0), .val (.int p4_1), .val (.ref a4_2), .val (.int nn), .val (.int kth), .val (.int more), .val (.long pre), .second, .val (.int (al - (cs.getD (k - (1 : Int32)).toNatClampNeg 0))), .val (.long sb), .second, .val (.int k), l12, l13] [(.int k), (.int (al - (cs.getD (k - (1 : Int32)).toNatClampNeg 0)))])) (fun _ kz => XS.iload X.here hx rfl (hb hby d4_42) rfl kz) ?_
         refine own_s (g' := (mkF m 52 #[.val (.ref a4_0), .val (.int p4_1), .val (.ref a4_2), .val (.int nn), .val (.int kth), .val (.int more), .val (.long pre), .second, .val (.int (al - (cs.getD (k - (1 : Int32)).toNatClampNeg 0))), .val (.long sb), .second, .val (.int k), l12, l13] [])) (fun _ kz => XS.icmpYes X.here hx rfl (pc0 := 44) (pc' := 52) rfl (hb hby d4_44) rfl (flt c2).2.1 (by decide) (by decide) kz) ?_
         refine inner 8 kth more kth' more' hin k pre (al - (cs.getD (k - (1 : Int32)).toNatClampNeg 0)) sb l12 l13 T locs h X eT Vc ?_
         refine own_s (g' := (mkF m 72 #[.val (.ref a4_0), .val (.int p4_1), .val (.ref a4_2), .val (.int nn), .val (.int kth'), .val (.int (more' + (-1 : Int32))), .val (.long pre), .second, .val (.int (al - (cs.getD (k - (1 : Int32)).toNatClampNeg 0))), .val (.long sb), .second, .val (.int k), l12, l13] [])) (fun _ kz => XS.iinc X.here hx rfl (hb hby d4_69) rfl (l' := #[.val (.ref a4_0), .val (.int p4_1), .val (.ref a4_2), .val (.int nn), .val (.int kth'), .val (.int (more' + (-1 : Int32))), .val (.long pre), .second, .val (.int (al - (cs.getD (k - (1 : Int32)).toNatClampNeg 0))), .val (.long sb), .second, .val (.int k), l12, l13]) rfl kz) ?_
         refine own_s (g' := (mkF m 74 #[.val (.ref a4_0), .val (.int p4_1), .val (.ref a4_2), .val (.int nn), .val (.int kth'), .val (.int (more' + (-1 : Int32))), .val (.long pre), .second, .val (.int (al - (cs.getD (k - (1 : Int32)).toNatClampNeg 0))), .val (.long sb), .second, .val (.int k), l12, l13] [(.long pre)])) (fun _ kz => XS.lload X.here hx rfl (hb hby d4_72) rfl kz) ?_
         refine own_s (g' := (mkF m 76 #[.val (.ref a4_0), .val (.int p4_1), .val (.ref a4_2), .val (.int nn), .val (.int kth'), .val (.int (more' + (-1 : Int32))), .val (.long pre), .second, .val (.int (al - (cs.getD (k - (1 : Int32)).toNatClampNeg 0))), .val (.long sb), .second, .val (.int k), l12, l13] [(.int kth'), (.long pre)])) (fun _ kz => XS.iload X.here hx rfl (hb hby d4_74) rfl kz) ?_
         refine own_s (g' := (mkF m 77 #[.val (.ref a4_0), .val (.int p4_1), .val (.ref a4_2), .val (.int nn), .val (.int kth'), .val (.int (more' + (-1 : Int32))), .val (.long pre), .second, .val (.int (al - (cs.getD (k - (1 : Int32)).toNatClampNeg 0))), .val (.long sb), .second, .val (.int k), l12, l13] [(.long kth'.toInt64), (.long pre)])) (fun _ kz => XS.i2l X.here hx rfl (hb hby d4_76) rfl kz) ?_
         refine own_s (g' := (mkF m 78 #[.val (.ref a4_0), .val (.int p4_1), .val (.ref a4_2), .val (.int nn), .val (.int kth'), .val (.int (more' + (-1 : Int32))), .val (.long pre), .second, .val (.int (al - (cs.getD (k - (1 : Int32)).toNatClampNeg 0))), .val (.long sb), .second, .val (.int k), l12, l13] [(.long (pre + kth'.toInt64))])) (fun _ kz => XS.ladd X.here hx rfl (hb hby d4_77) rfl kz) ?_
         refine own_s (g' := (mkF m 80 #[.val (.ref a4_0), .val (.int p4_1), .val (.ref a4_2), .val (.int nn), .val (.int kth'), .val (.int (more' + (-1 : Int32))), .val (.long (pre + kth'.toInt64)), .second, .val (.int (al - (cs.getD (k - (1 : Int32)).toNatClampNeg 0))), .val (.long sb), .second, .val (.int k), l12, l13] [])) (fun _ kz => XS.lstore X.here hx rfl (hb hby d4_78) rfl (l' := #[.val (.ref a4_0), .val (.int p4_1), .val (.ref a4_2), .val (.int nn), .val (.int kth'), .val (.int (more' + (-1 : Int32))), .val (.long (pre + kth'.toInt64)), .second, .val (.int (al - (cs.getD (k - (1 : Int32)).toNatClampNeg 0))), .val (.long sb), .second, .val (.int k), l12, l13]) rfl kz) ?_
         refine own_s (g' := (mkF m 82 #[.val (.ref a4_0), .val (.int p4_1), .val (.ref a4_2), .val (.int nn), .val (.int kth'), .val (.int (more' + (-1 : Int32))), .val (.long (pre + kth'.toInt64)), .second, .val (.int (al - (cs.getD (k - (1 : Int32)).toNatClampNeg 0))), .val (.long sb), .second, .val (.int k), l12, l13] [(.long sb)])) (fun _ kz => XS.lload X.here hx rfl (hb hby d4_80) rfl kz) ?_
         refine own_s (g' := (mkF m 84 #[.val (.ref a4_0), .val (.int p4_1), .val (.ref a4_2), .val (.int nn), .val (.int kth'), .val (.int (more' + (-1 : Int32))), .val (.long (pre + kth'.toInt64)), .second, .val (.int (al - (cs.getD (k - (1 : Int32)).toNatClampNeg 0))), .val (.long sb), .second, .val (.int k), l12, l13] [(.int k), (.long sb)])) (fun _ kz => XS.iload X.here hx rfl (hb hby d4_82) rfl kz) ?_
         refine own_s (g' := (mkF m 85 #[.val (.ref a4_0), .val (.int p4_1), .val (.ref a4_2), .val (.int nn), .val (.int kth'), .val (.int (more' + (-1 : Int32))), .val (.long (pre + kth'.toInt64)), .second, .val (.int (al - (cs.getD (k - (1 : Int32)).toNatClampNeg 0))), .val (.long sb), .second, .val (.int k), l12, l13] [(.int 1), (.int k), (.long sb)])) (fun _ kz => XS.iconst X.here hx rfl (hb hby d4_84) kz) ?_
         refine own_s (g' := (mkF m 86 #[.val (.ref a4_0), .val (.int p4_1), .val (.ref a4_2), .val (.int nn), .val (.int kth'), .val (.int (more' + (-1 : Int32))), .val (.long (pre + kth'.toInt64)), .second, .val (.int (al - (cs.getD (k - (1 : Int32)).toNatClampNeg 0))), .val (.long sb), .second, .val (.int k), l12, l13] [(.int (k - (1 : Int32))), (.long sb)])) (fun _ kz => XS.isub X.here hx rfl (hb hby d4_85) rfl kz) ?_
         refine own_s (g' := (mkF m 87 #[.val (.ref a4_0), .val (.int p4_1), .val (.ref a4_2), .val (.int nn), .val (.int kth'), .val (.int (more' + (-1 : Int32))), .val (.long (pre + kth'.toInt64)), .second, .val (.int (al - (cs.getD (k - (1 : Int32)).toNatClampNeg 0))), .val (.long sb), .second, .val (.int k), l12, l13] [(.long (k - (1 : Int32)).toInt64), (.long sb)])) (fun _ kz => XS.i2l X.here hx rfl (hb hby d4_86) rfl kz) ?_
         refine own_s (g' := (mkF m 88 #[.val (.ref a4_0), .val (.int p4_1), .val (.ref a4_2), .val (.int nn), .val (.int kth'), .val (.int (more' + (-1 : Int32))), .val (.long (pre + kth'.toInt64)), .second, .val (.int (al - (cs.getD (k - (1 : Int32)).toNatClampNeg 0))), .val (.long sb), .second, .val (.int k), l12, l13] [(.ref a4_0), (.long (k - (1 : Int32)).toInt64), (.long sb)])) (fun _ kz => XS.aloadN X.here hx rfl (hb hby d4_87) rfl rfl kz) ?_
         refine own_s (g' := (mkF m 90 #[.val (.ref a4_0), .val (.int p4_1), .val (.ref a4_2), .val (.int nn), .val (.int kth'), .val (.int (more' + (-1 : Int32))), .val (.long (pre + kth'.toInt64)), .second, .val (.int (al - (cs.getD (k - (1 : Int32)).toNatClampNeg 0))), .val (.long sb), .second, .val (.int k), l12, l13] [(.int k), (.ref a4_0), (.long (k - (1 : Int32)).toInt64), (.long sb)])) (fun _ kz => XS.iload X.here hx rfl (hb hby d4_88) rfl kz) ?_
         refine own_s (g' := (mkF m 91 #[.val (.ref a4_0), .val (.int p4_1), .val (.ref a4_2), .val (.int nn), .val (.int kth'), .val (.int (more' + (-1 : Int32))), .val (.long (pre + kth'.toInt64)), .second, .val (.int (al - (cs.getD (k - (1 : Int32)).toNatClampNeg 0))), .val (.long sb), .second, .val (.int k), l12, l13] [(.int 1), (.int k), (.ref a4_0), (.long (k - (1 : Int32)).toInt64), (.long sb)])) (fun _ kz => XS.iconst X.here hx rfl (hb hby d4_90) kz) ?_
         refine own_s (g' := (mkF m 92 #[.val (.ref a4_0), .val (.int p4_1), .val (.ref a4_2), .val (.int nn), .val (.int kth'), .val (.int (more' + (-1 : Int32))), .val (.long (pre + kth'.toInt64)), .second, .val (.int (al - (cs.getD (k - (1 : Int32)).toNatClampNeg 0))), .val (.long sb), .second, .val (.int k), l12, l13] [(.int (k - (1 : Int32))), (.ref a4_0), (.long (k - (1 : Int32)).toInt64), (.long sb)])) (fun _ kz => XS.isub X.here hx rfl (hb hby d4_91) rfl kz) ?_
         obtain ⟨cl5, Ar5, -, S5, -, H5, -⟩ := id Vc
         have in5 := inb_of S5 (j := (k - (1 : Int32))) hbd
         refine own_s (g' := (mkF m 93 #[.val (.ref a4_0), .val (.int p4_1), .val (.ref a4_2), .val (.int nn), .val (.int kth'), .val (.int (more' + (-1 : Int32))), .val (.long (pre + kth'.toInt64)), .second, .val (.int (al - (cs.getD (k - (1 : Int32)).toNatClampNeg 0))), .val (.long sb), .second, .val (.int k), l12, l13] [(.int (cs.getD (k - (1 : Int32)).toNatClampNeg 0)), (.long (k - (1 : Int32)).toInt64), (.long sb)])) (X.iaload hx (j := (k - (1 : Int32))) (v := (.int (cs.getD (k - (1 : Int32)).toNatClampNeg 0))) (by rw [eT]; exact Ar5.1) (State.isArrayOf_alike hZ.alike Ar5.2.1) Ar5.2.2 in5 (Has.at H5 in5 (own_mapD cs _)) (g := (mkF m 92 #[.val (.ref a4_0), .val (.int p4_1), .val (.ref a4_2), .val (.int nn), .val (.int kth'), .val (.int (more' + (-1 : Int32))), .val (.long (pre + kth'.toInt64)), .second, .val (.int (al - (cs.getD (k - (1 : Int32)).toNatClampNeg 0))), .val (.long sb), .second, .val (.int k), l12, l13] [(.int (k - (1 : Int32))), (.ref a4_0), (.long (k - (1 : Int32)).toInt64), (.long sb)])) rfl rfl (hb hby d4_92)) ?_
         refine own_s (g' := (mkF m 94 #[.val (.ref a4_0), .val (.int p4_1), .val (.ref a4_2), .val (.int nn), .val (.int kth'), .val (.int (more' + (-1 : Int32))), .val (.long (pre + kth'.toInt64)), .second, .val (.int (al - (cs.getD (k - (1 : Int32)).toNatClampNeg 0))), .val (.long sb), .second, .val (.int k), l12, l13] [(.long (cs.getD (k - (1 : Int32)).toNatClampNeg 0).toInt64), (.long (k - (1 : Int32)).toInt64), (.long sb)])) (fun _ kz => XS.i2l X.here hx rfl (hb hby d4_93) rfl kz) ?_
         refine own_s (g' := (mkF m 95 #[.val (.ref a4_0), .val (.int p4_1), .val (.ref a4_2), .val (.int nn), .val (.int kth'), .val (.int (more' + (-1 : Int32))), .val (.long (pre + kth'.toInt64)), .second, .val (.int (al - (cs.getD (k - (1 : Int32)).toNatClampNeg 0))), .val (.long sb), .second, .val (.int k), l12, l13] [(.long ((k - (1 : Int32)).toInt64 * (cs.getD (k - (1 : Int32)).toNatClampNeg 0).toInt64)), (.long sb)])) (fun _ kz => XS.lmul X.here hx rfl (hb hby d4_94) rfl kz) ?_
         refine own_s (g' := (mkF m 96 #[.val (.ref a4_0), .val (.int p4_1), .val (.ref a4_2), .val (.int nn), .val (.int kth'), .val (.int (more' + (-1 : Int32))), .val (.long (pre + kth'.toInt64)), .second, .val (.int (al - (cs.getD (k - (1 : Int32)).toNatClampNeg 0))), .val (.long sb), .second, .val (.int k), l12, l13] [(.long (sb + ((k - (1 : Int32)).toInt64 * (cs.getD (k - (1 : Int32)).toNatClampNeg 0).toInt64)))])) (fun _ kz => XS.ladd X.here hx rfl (hb hby d4_95) rfl kz) ?_
         refine own_s (g' := (mkF m 98 #[.val (.ref a4_0), .val (.int p4_1), .val (.ref a4_2), .val (.int nn), .val (.int kth'), .val (.int (more' + (-1 : Int32))), .val (.long (pre + kth'.toInt64)), .second, .val (.int (al - (cs.getD (k - (1 : Int32)).toNatClampNeg 0))), .val (.long (sb + ((k - (1 : Int32)).toInt64 * (cs.getD (k - (1 : Int32)).toNatClampNeg 0).toInt64))), .second, .val (.int k), l12, l13] [])) (fun _ kz => XS.lstore X.here hx rfl (hb hby d4_96) rfl (l' := #[.val (.ref a4_0), .val (.int p4_1), .val (.ref a4_2), .val (.int nn), .val (.int kth'), .val (.int (more' + (-1 : Int32))), .val (.long (pre + kth'.toInt64)), .second, .val (.int (al - (cs.getD (k - (1 : Int32)).toNatClampNeg 0))), .val (.long (sb + ((k - (1 : Int32)).toInt64 * (cs.getD (k - (1 : Int32)).toNatClampNeg 0).toInt64))), .second, .val (.int k), l12, l13]) rfl kz) ?_
         refine own_s (g' := (mkF m 100 #[.val (.ref a4_0), .val (.int p4_1), .val (.ref a4_2), .val (.int nn), .val (.int kth'), .val (.int (more' + (-1 : Int32))), .val (.long (pre + kth'.toInt64)), .second, .val (.int (al - (cs.getD (k - (1 : Int32)).toNatClampNeg 0))), .val (.long (sb + ((k - (1 : Int32)).toInt64 * (cs.getD (k - (1 : Int32)).toNatClampNeg 0).toInt64))), .second, .val (.int k), l12, l13] [(.int k)])) (fun _ kz => XS.iload X.here hx rfl (hb hby d4_98) rfl kz) ?_
         refine own_s (g' := (mkF m 101 #[.val (.ref a4_0), .val (.int p4_1), .val (.ref a4_2), .val (.int nn), .val (.int kth'), .val (.int (more' + (-1 : Int32))), .val (.long (pre + kth'.toInt64)), .second, .val (.int (al - (cs.getD (k - (1 : Int32)).toNatClampNeg 0))), .val (.long (sb + ((k - (1 : Int32)).toInt64 * (cs.getD (k - (1 : Int32)).toNatClampNeg 0).toInt64))), .second, .val (.int k), l12, l13] [(.long k.toInt64)])) (fun _ kz => XS.i2l X.here hx rfl (hb hby d4_100) rfl kz) ?_
         refine own_s (g' := (mkF m 103 #[.val (.ref a4_0), .val (.int p4_1), .val (.ref a4_2), .val (.int nn), .val (.int kth'), .val (.int (more' + (-1 : Int32))), .val (.long (pre + kth'.toInt64)), .second, .val (.int (al - (cs.getD (k - (1 : Int32)).toNatClampNeg 0))), .val (.long (sb + ((k - (1 : Int32)).toInt64 * (cs.getD (k - (1 : Int32)).toNatClampNeg 0).toInt64))), .second, .val (.int k), l12, l13] [(.int (al - (cs.getD (k - (1 : Int32)).toNatClampNeg 0))), (.long k.toInt64)])) (fun _ kz => XS.iload X.here hx rfl (hb hby d4_101) rfl kz) ?_
         refine own_s (g' := (mkF m 105 #[.val (.ref a4_0), .val (.int p4_1), .val (.ref a4_2), .val (.int nn), .val (.int kth'), .val (.int (more' + (-1 : Int32))), .val (.long (pre + kth'.toInt64)), .second, .val (.int (al - (cs.getD (k - (1 : Int32)).toNatClampNeg 0))), .val (.long (sb + ((k - (1 : Int32)).toInt64 * (cs.getD (k - (1 : Int32)).toNatClampNeg 0).toInt64))), .second, .val (.int k), l12, l13] [(.int k), (.int (al - (cs.getD (k - (1 : Int32)).toNatClampNeg 0))), (.long k.toInt64)])) (fun _ kz => XS.iload X.here hx rfl (hb hby d4_103) rfl kz) ?_
         refine own_s (g' := (mkF m 106 #[.val (.ref a4_0), .val (.int p4_1), .val (.ref a4_2), .val (.int nn), .val (.int kth'), .val (.int (more' + (-1 : Int32))), .val (.long (pre + kth'.toInt64)), .second, .val (.int (al - (cs.getD (k - (1 : Int32)).toNatClampNeg 0))), .val (.long (sb + ((k - (1 : Int32)).toInt64 * (cs.getD (k - (1 : Int32)).toNatClampNeg 0).toInt64))), .second, .val (.int k), l12, l13] [(.int ((al - (cs.getD (k - (1 : Int32)).toNatClampNeg 0)) - k)), (.long k.toInt64)])) (fun _ kz => XS.isub X.here hx rfl (hb hby d4_105) rfl kz) ?_
         refine own_s (g' := (mkF m 107 #[.val (.ref a4_0), .val (.int p4_1), .val (.ref a4_2), .val (.int nn), .val (.int kth'), .val (.int (more' + (-1 : Int32))), .val (.long (pre + kth'.toInt64)), .second, .val (.int (al - (cs.getD (k - (1 : Int32)).toNatClampNeg 0))), .val (.long (sb + ((k - (1 : Int32)).toInt64 * (cs.getD (k - (1 : Int32)).toNatClampNeg 0).toInt64))), .second, .val (.int k), l12, l13] [(.long ((al - (cs.getD (k - (1 : Int32)).toNatClampNeg 0)) - k).toInt64), (.long k.toInt64)])) (fun _ kz => XS.i2l X.here hx rfl (hb hby d4_106) rfl kz) ?_
         refine own_s (g' := (mkF m 108 #[.val (.ref a4_0), .val (.int p4_1), .val (.ref a4_2), .val (.int nn), .val (.int kth'), .val (.int (more' + (-1 : Int32))), .val (.long (pre + kth'.toInt64)), .second, .val (.int (al - (cs.getD (k - (1 : Int32)).toNatClampNeg 0))), .val (.long (sb + ((k - (1 : Int32)).toInt64 * (cs.getD (k - (1 : Int32)).toNatClampNeg 0).toInt64))), .second, .val (.int k), l12, l13] [(.long (k.toInt64 * ((al - (cs.getD (k - (1 : Int32)).toNatClampNeg 0)) - k).toInt64))])) (fun _ kz => XS.lmul X.here hx rfl (hb hby d4_107) rfl kz) ?_
         refine own_s (g' := (mkF m 110 #[.val (.ref a4_0), .val (.int p4_1), .val (.ref a4_2), .val (.int nn), .val (.int kth'), .val (.int (more' + (-1 : Int32))), .val (.long (pre + kth'.toInt64)), .second, .val (.int (al - (cs.getD (k - (1 : Int32)).toNatClampNeg 0))), .val (.long (sb + ((k - (1 : Int32)).toInt64 * (cs.getD (k - (1 : Int32)).toNatClampNeg 0).toInt64))), .second, .val (.int k), l12, l13] [(.long (sb + ((k - (1 : Int32)).toInt64 * (cs.getD (k - (1 : Int32)).toNatClampNeg 0).toInt64))), (.long (k.toInt64 * ((al - (cs.getD (k - (1 : Int32)).toNatClampNeg 0)) - k).toInt64))])) (fun _ kz => XS.lload X.here hx rfl (hb hby d4_108) rfl kz) ?_
         refine own_s (g' := (mkF m 111 #[.val (.ref a4_0), .val (.int p4_1), .val (.ref a4_2), .val (.int nn), .val (.int kth'), .val (.int (more' + (-1 : Int32))), .val (.long (pre + kth'.toInt64)), .second, .val (.int (al - (cs.getD (k - (1 : Int32)).toNatClampNeg 0))), .val (.long (sb + ((k - (1 : Int32)).toInt64 * (cs.getD (k - (1 : Int32)).toNatClampNeg 0).toInt64))), .second, .val (.int k), l12, l13] [(.long ((k.toInt64 * ((al - (cs.getD (k - (1 : Int32)).toNatClampNeg 0)) - k).toInt64) + (sb + ((k - (1 : Int32)).toInt64 * (cs.getD (k - (1 : Int32)).toNatClampNeg 0).toInt64))))])) (fun _ kz => XS.ladd X.here hx rfl (hb hby d4_110) rfl kz) ?_
         refine own_s (g' := (mkF m 113 #[.val (.ref a4_0), .val (.int p4_1), .val (.ref a4_2), .val (.int nn), .val (.int kth'), .val (.int (more' + (-1 : Int32))), .val (.long (pre + kth'.toInt64)), .second, .val (.int (al - (cs.getD (k - (1 : Int32)).toNatClampNeg 0))), .val (.long (sb + ((k - (1 : Int32)).toInt64 * (cs.getD (k - (1 : Int32)).toNatClampNeg 0).toInt64))), .second, .val (.int k), .val (.long ((k.toInt64 * ((al - (cs.getD (k - (1 : Int32)).toNatClampNeg 0)) - k).toInt64) + (sb + ((k - (1 : Int32)).toInt64 * (cs.getD (k - (1 : Int32)).toNatClampNeg 0).toInt64)))), .second] [])) (fun _ kz => XS.lstore X.here hx rfl (hb hby d4_111) rfl (l' := #[.val (.ref a4_0), .val (.int p4_1), .val (.ref a4_2), .val (.int nn), .val (.int kth'), .val (.int (more' + (-1 : Int32))), .val (.long (pre + kth'.toInt64)), .second, .val (.int (al - (cs.getD (k - (1 : Int32)).toNatClampNeg 0))), .val (.long (sb + ((k - (1 : Int32)).toInt64 * (cs.getD (k - (1 : Int32)).toNatClampNeg 0).toInt64))), .second, .val (.int k), .val (.long ((k.toInt64 * ((al - (cs.getD (k - (1 : Int32)).toNatClampNeg 0)) - k).toInt64) + (sb + ((k - (1 : Int32)).toInt64 * (cs.getD (k - (1 : Int32)).toNatClampNeg 0).toInt64)))), .second]) (own_st12 h2) kz) ?_
         refine own_s (g' := (mkF m 114 #[.val (.ref a4_0), .val (.int p4_1), .val (.ref a4_2), .val (.int nn), .val (.int kth'), .val (.int (more' + (-1 : Int32))), .val (.long (pre + kth'.toInt64)), .second, .val (.int (al - (cs.getD (k - (1 : Int32)).toNatClampNeg 0))), .val (.long (sb + ((k - (1 : Int32)).toInt64 * (cs.getD (k - (1 : Int32)).toNatClampNeg 0).toInt64))), .second, .val (.int k), .val (.long ((k.toInt64 * ((al - (cs.getD (k - (1 : Int32)).toNatClampNeg 0)) - k).toInt64) + (sb + ((k - (1 : Int32)).toInt64 * (cs.getD (k - (1 : Int32)).toNatClampNeg 0).toInt64)))), .second] [(.ref a4_2)])) (fun _ kz => XS.aloadN X.here hx rfl (hb hby d4_113) rfl rfl kz) ?_
         refine own_s (g' := (mkF m 116 #[.val (.ref a4_0), .val (.int p4_1), .val (.ref a4_2), .val (.int nn), .val (.int kth'), .val (.int (more' + (-1 : Int32))), .val (.long (pre + kth'.toInt64)), .second, .val (.int (al - (cs.getD (k - (1 : Int32)).toNatClampNeg 0))), .val (.long (sb + ((k - (1 : Int32)).toInt64 * (cs.getD (k - (1 : Int32)).toNatClampNeg 0).toInt64))), .second, .val (.int k), .val (.long ((k.toInt64 * ((al - (cs.getD (k - (1 : Int32)).toNatClampNeg 0)) - k).toInt64) + (sb + ((k - (1 : Int32)).toInt64 * (cs.getD (k - (1 : Int32)).toNatClampNeg 0).toInt64)))), .second] [(.int k), (.ref a4_2)])) (fun _ kz => XS.iload X.here hx rfl (hb hby d4_114) rfl kz) ?_
         refine own_s (g' := (mkF m 118 #[.val (.ref a4_0), .val (.int p4_1), .val (.ref a4_2), .val (.int nn), .val (.int kth'), .val (.int (more' + (-1 : Int32))), .val (.long (pre + kth'.toInt64)), .second, .val (.int (al - (cs.getD (k - (1 : Int32)).toNatClampNeg 0))), .val (.long (sb + ((k - (1 : Int32)).toInt64 * (cs.getD (k - (1 : Int32)).toNatClampNeg 0).toInt64))), .second, .val (.int k), .val (.long ((k.toInt64 * ((al - (cs.getD (k - (1 : Int32)).toNatClampNeg 0)) - k).toInt64) + (sb + ((k - (1 : Int32)).toInt64 * (cs.getD (k - (1 : Int32)).toNatClampNeg 0).toInt64)))), .second] [(.int k), (.int k), (.ref a4_2)])) (fun _ kz => XS.iload X.here hx rfl (hb hby d4_116) rfl kz) ?_
         refine own_s (g' := (mkF m 119 #[.val (.ref a4_0), .val (.int p4_1), .val (.ref a4_2), .val (.int nn), .val (.int kth'), .val (.int (more' + (-1 : Int32))), .val (.long (pre + kth'.toInt64)), .second, .val (.int (al - (cs.getD (k - (1 : Int32)).toNatClampNeg 0))), .val (.long (sb + ((k - (1 : Int32)).toInt64 * (cs.getD (k - (1 : Int32)).toNatClampNeg 0).toInt64))), .second, .val (.int k), .val (.long ((k.toInt64 * ((al - (cs.getD (k - (1 : Int32)).toNatClampNeg 0)) - k).toInt64) + (sb + ((k - (1 : Int32)).toInt64 * (cs.getD (k - (1 : Int32)).toNatClampNeg 0).toInt64)))), .second] [(.long k.toInt64), (.int k), (.ref a4_2)])) (fun _ kz => XS.i2l X.here hx rfl (hb hby d4_118) rfl kz) ?_
         refine own_s (g' := (mkF m 121 #[.val (.ref a4_0), .val (.int p4_1), .val (.ref a4_2), .val (.int nn), .val (.int kth'), .val (.int (more' + (-1 : Int32))), .val (.long (pre + kth'.toInt64)), .second, .val (.int (al - (cs.getD (k - (1 : Int32)).toNatClampNeg 0))), .val (.long (sb + ((k - (1 : Int32)).toInt64 * (cs.getD (k - (1 : Int32)).toNatClampNeg 0).toInt64))), .second, .val (.int k), .val (.long ((k.toInt64 * ((al - (cs.getD (k - (1 : Int32)).toNatClampNeg 0)) - k).toInt64) + (sb + ((k - (1 : Int32)).toInt64 * (cs.getD (k - (1 : Int32)).toNatClampNeg 0).toInt64)))), .second] [(.int k), (.long k.toInt64), (.int k), (.ref a4_2)])) (fun _ kz => XS.iload X.here hx rfl (hb hby d4_119) rfl kz) ?_
         refine own_s (g' := (mkF m 122 #[.val (.ref a4_0), .val (.int p4_1), .val (.ref a4_2), .val (.int nn), .val (.int kth'), .val (.int (more' + (-1 : Int32))), .val (.long (pre + kth'.toInt64)), .second, .val (.int (al - (cs.getD (k - (1 : Int32)).toNatClampNeg 0))), .val (.long (sb + ((k - (1 : Int32)).toInt64 * (cs.getD (k - (1 : Int32)).toNatClampNeg 0).toInt64))), .second, .val (.int k), .val (.long ((k.toInt64 * ((al - (cs.getD (k - (1 : Int32)).toNatClampNeg 0)) - k).toInt64) + (sb + ((k - (1 : Int32)).toInt64 * (cs.getD (k - (1 : Int32)).toNatClampNeg 0).toInt64)))), .second] [(.int 1), (.int k), (.long k.toInt64), (.int k), (.ref a4_2)])) (fun _ kz => XS.iconst X.here hx rfl (hb hby d4_121) kz) ?_
         refine own_s (g' := (mkF m 123 #[.val (.ref a4_0), .val (.int p4_1), .val (.ref a4_2), .val (.int nn), .val (.int kth'), .val (.int (more' + (-1 : Int32))), .val (.long (pre + kth'.toInt64)), .second, .val (.int (al - (cs.getD (k - (1 : Int32)).toNatClampNeg 0))), .val (.long (sb + ((k - (1 : Int32)).toInt64 * (cs.getD (k - (1 : Int32)).toNatClampNeg 0).toInt64))), .second, .val (.int k), .val (.long ((k.toInt64 * ((al - (cs.getD (k - (1 : Int32)).toNatClampNeg 0)) - k).toInt64) + (sb + ((k - (1 : Int32)).toInt64 * (cs.getD (k - (1 : Int32)).toNatClampNeg 0).toInt64)))), .second] [(.int (k - (1 : Int32))), (.long k.toInt64), (.int k), (.ref a4_2)])) (fun _ kz => XS.isub X.here hx rfl (hb hby d4_122) rfl kz) ?_
         refine own_s (g' := (mkF m 124 #[.val (.ref a4_0), .val (.int p4_1), .val (.ref a4_2), .val (.int nn), .val (.int kth'), .val (.int (more' + (-1 : Int32))), .val (.long (pre + kth'.toInt64)), .second, .val (.int (al - (cs.getD (k - (1 : Int32)).toNatClampNeg 0))), .val (.long (sb + ((k - (1 : Int32)).toInt64 * (cs.getD (k - (1 : Int32)).toNatClampNeg 0).toInt64))), .second, .val (.int k), .val (.long ((k.toInt64 * ((al - (cs.getD (k - (1 : Int32)).toNatClampNeg 0)) - k).toInt64) + (sb + ((k - (1 : Int32)).toInt64 * (cs.getD (k - (1 : Int32)).toNatClampNeg 0).toInt64)))), .second] [(.long (k - (1 : Int32)).toInt64), (.long k.toInt64), (.int k), (.ref a4_2)])) (fun _ kz => XS.i2l X.here hx rfl (hb hby d4_123) rfl kz) ?_
         refine own_s (g' := (mkF m 125 #[.val (.ref a4_0), .val (.int p4_1), .val (.ref a4_2), .val (.int nn), .val (.int kth'), .val (.int (more' + (-1 : Int32))), .val (.long (pre + kth'.toInt64)), .second, .val (.int (al - (cs.getD (k - (1 : Int32)).toNatClampNeg 0))), .val (.long (sb + ((k - (1 : Int32)).toInt64 * (cs.getD (k - (1 : Int32)).toNatClampNeg 0).toInt64))), .second, .val (.int k), .val (.long ((k.toInt64 * ((al - (cs.getD (k - (1 : Int32)).toNatClampNeg 0)) - k).toInt64) + (sb + ((k - (1 : Int32)).toInt64 * (cs.getD (k - (1 : Int32)).toNatClampNeg 0).toInt64)))), .second] [(.long (k.toInt64 * (k - (1 : Int32)).toInt64)), (.int k), (.ref a4_2)])) (fun _ kz => XS.lmul X.here hx rfl (hb hby d4_124) rfl kz) ?_
         refine own_s (g' := (mkF m 127 #[.val (.ref a4_0), .val (.int p4_1), .val (.ref a4_2), .val (.int nn), .val (.int kth'), .val (.int (more' + (-1 : Int32))), .val (.long (pre + kth'.toInt64)), .second, .val (.int (al - (cs.getD (k - (1 : Int32)).toNatClampNeg 0))), .val (.long (sb + ((k - (1 : Int32)).toInt64 * (cs.getD (k - (1 : Int32)).toNatClampNeg 0).toInt64))), .second, .val (.int k), .val (.long ((k.toInt64 * ((al - (cs.getD (k - (1 : Int32)).toNatClampNeg 0)) - k).toInt64) + (sb + ((k - (1 : Int32)).toInt64 * (cs.getD (k - (1 : Int32)).toNatClampNeg 0).toInt64)))), .second] [(.long ((k.toInt64 * ((al - (cs.getD (k - (1 : Int32)).toNatClampNeg 0)) - k).toInt64) + (sb + ((k - (1 : Int32)).toInt64 * (cs.getD (k - (1 : Int32)).toNatClampNeg 0).toInt64)))), (.long (k.toInt64 * (k - (1 : Int32)).toInt64)), (.int k), (.ref a4_2)])) (fun _ kz => XS.lload X.here hx rfl (hb hby d4_125) rfl kz) ?_
         refine own_s (g' := (mkF m 128 #[.val (.ref a4_0), .val (.int p4_1), .val (.ref a4_2), .val (.int nn), .val (.int kth'), .val (.int (more' + (-1 : Int32))), .val (.long (pre + kth'.toInt64)), .second, .val (.int (al - (cs.getD (k - (1 : Int32)).toNatClampNeg 0))), .val (.long (sb + ((k - (1 : Int32)).toInt64 * (cs.getD (k - (1 : Int32)).toNatClampNeg 0).toInt64))), .second, .val (.int k), .val (.long ((k.toInt64 * ((al - (cs.getD (k - (1 : Int32)).toNatClampNeg 0)) - k).toInt64) + (sb + ((k - (1 : Int32)).toInt64 * (cs.getD (k - (1 : Int32)).toNatClampNeg 0).toInt64)))), .second] [(.long ((k.toInt64 * (k - (1 : Int32)).toInt64) + ((k.toInt64 * ((al - (cs.getD (k - (1 : Int32)).toNatClampNeg 0)) - k).toInt64) + (sb + ((k - (1 : Int32)).toInt64 * (cs.getD (k - (1 : Int32)).toNatClampNeg 0).toInt64))))), (.int k), (.ref a4_2)])) (fun _ kz => XS.ladd X.here hx rfl (hb hby d4_127) rfl kz) ?_
         refine own_s (g' := (mkF m 130 #[.val (.ref a4_0), .val (.int p4_1), .val (.ref a4_2), .val (.int nn), .val (.int kth'), .val (.int (more' + (-1 : Int32))), .val (.long (pre + kth'.toInt64)), .second, .val (.int (al - (cs.getD (k - (1 : Int32)).toNatClampNeg 0))), .val (.long (sb + ((k - (1 : Int32)).toInt64 * (cs.getD (k - (1 : Int32)).toNatClampNeg 0).toInt64))), .second, .val (.int k), .val (.long ((k.toInt64 * ((al - (cs.getD (k - (1 : Int32)).toNatClampNeg 0)) - k).toInt64) + (sb + ((k - (1 : Int32)).toInt64 * (cs.getD (k - (1 : Int32)).toNatClampNeg 0).toInt64)))), .second] [(.long (pre + kth'.toInt64)), (.long ((k.toInt64 * (k - (1 : Int32)).toInt64) + ((k.toInt64 * ((al - (cs.getD (k - (1 : Int32)).toNatClampNeg 0)) - k).toInt64) + (sb + ((k - (1 : Int32)).toInt64 * (cs.getD (k - (1 : Int32)).toNatClampNeg 0).toInt64))))), (.int k), (.ref a4_2)])) (fun _ kz => XS.lload X.here hx rfl (hb hby d4_128) rfl kz) ?_
         refine own_s (g' := (mkF m 131 #[.val (.ref a4_0), .val (.int p4_1), .val (.ref a4_2), .val (.int nn), .val (.int kth'), .val (.int (more' + (-1 : Int32))), .val (.long (pre + kth'.toInt64)), .second, .val (.int (al - (cs.getD (k - (1 : Int32)).toNatClampNeg 0))), .val (.long (sb + ((k - (1 : Int32)).toInt64 * (cs.getD (k - (1 : Int32)).toNatClampNeg 0).toInt64))), .second, .val (.int k), .val (.long ((k.toInt64 * ((al - (cs.getD (k - (1 : Int32)).toNatClampNeg 0)) - k).toInt64) + (sb + ((k - (1 : Int32)).toInt64 * (cs.getD (k - (1 : Int32)).toNatClampNeg 0).toInt64)))), .second] [(.long (((k.toInt64 * (k - (1 : Int32)).toInt64) + ((k.toInt64 * ((al - (cs.getD (k - (1 : Int32)).toNatClampNeg 0)) - k).toInt64) + (sb + ((k - (1 : Int32)).toInt64 * (cs.getD (k - (1 : Int32)).toNatClampNeg 0).toInt64)))) - (pre + kth'.toInt64))), (.int k), (.ref a4_2)])) (fun _ kz => XS.lsub X.here hx rfl (hb hby d4_130) rfl kz) ?_
         obtain ⟨cl6, Ar6, q6, S6, M6, H6, G6⟩ := id Vs
         obtain ⟨T6, h6, X6, e6, W6, st6⟩ := stJ X hx hZ eT Ar6 (j := k) (inb_of S6 hk) (g := (mkF m 131 #[.val (.ref a4_0), .val (.int p4_1), .val (.ref a4_2), .val (.int nn), .val (.int kth'), .val (.int (more' + (-1 : Int32))), .val (.long (pre + kth'.toInt64)), .second, .val (.int (al - (cs.getD (k - (1 : Int32)).toNatClampNeg 0))), .val (.long (sb + ((k - (1 : Int32)).toInt64 * (cs.getD (k - (1 : Int32)).toNatClampNeg 0).toInt64))), .second, .val (.int k), .val (.long ((k.toInt64 * ((al - (cs.getD (k - (1 : Int32)).toNatClampNeg 0)) - k).toInt64) + (sb + ((k - (1 : Int32)).toInt64 * (cs.getD (k - (1 : Int32)).toNatClampNeg 0).toInt64)))), .second] [(.long (((k.toInt64 * (k - (1 : Int32)).toInt64) + ((k.toInt64 * ((al - (cs.getD (k - (1 : Int32)).toNatClampNeg 0)) - k).toInt64) + (sb + ((k - (1 : Int32)).toInt64 * (cs.getD (k - (1 : Int32)).toNatClampNeg 0).toInt64)))) - (pre + kth'.toInt64))), (.int k), (.ref a4_2)])) rfl rfl (hb hby d4_131)
         have f7 : Arv Z h6 a4_2 ks .long mm ((sl.set k.toNatClampNeg (((k.toInt64 * (k - (1 : Int32)).toInt64) + ((k.toInt64 * ((al - (cs.getD (k - (1 : Int32)).toNatClampNeg 0)) - k).toInt64) + (sb + ((k - (1 : Int32)).toInt64 * (cs.getD (k - (1 : Int32)).toNatClampNeg 0).toInt64)))) - (pre + kth'.toInt64))).map Value.long) (.long 0) := by rw [List.map_set]; exact Arv.set Ar6 q6 S6 M6 H6 G6 rfl W6 _ rfl (by rw [List.length_map]; exact (own_ixN hk hl))
         have K6 := Kp.wr W6 (Or.inl (List.mem_of_getElem? (i := 0) rfl))
         have N6 := Fr.snoc X6 N g_a4_2
         refine own_s (g' := (mkF m 132 #[.val (.ref a4_0), .val (.int p4_1), .val (.ref a4_2), .val (.int nn), .val (.int kth'), .val (.int (more' + (-1 : Int32))), .val (.long (pre + kth'.toInt64)), .second, .val (.int (al - (cs.getD (k - (1 : Int32)).toNatClampNeg 0))), .val (.long (sb + ((k - (1 : Int32)).toInt64 * (cs.getD (k - (1 : Int32)).toNatClampNeg 0).toInt64))), .second, .val (.int k), .val (.long ((k.toInt64 * ((al - (cs.getD (k - (1 : Int32)).toNatClampNeg 0)) - k).toInt64) + (sb + ((k - (1 : Int32)).toInt64 * (cs.getD (k - (1 : Int32)).toNatClampNeg 0).toInt64)))), .second] [])) st6 ?_
         refine own_s (g' := (mkF m 135 #[.val (.ref a4_0), .val (.int p4_1), .val (.ref a4_2), .val (.int nn), .val (.int kth'), .val (.int (more' + (-1 : Int32))), .val (.long (pre + kth'.toInt64)), .second, .val (.int (al - (cs.getD (k - (1 : Int32)).toNatClampNeg 0))), .val (.long (sb + ((k - (1 : Int32)).toInt64 * (cs.getD (k - (1 : Int32)).toNatClampNeg 0).toInt64))), .second, .val (.int (k + (1 : Int32))), .val (.long ((k.toInt64 * ((al - (cs.getD (k - (1 : Int32)).toNatClampNeg 0)) - k).toInt64) + (sb + ((k - (1 : Int32)).toInt64 * (cs.getD (k - (1 : Int32)).toNatClampNeg 0).toInt64)))), .second] [])) (fun _ kz => XS.iinc X6.here hx rfl (hb hby d4_132) rfl (l' := #[.val (.ref a4_0), .val (.int p4_1), .val (.ref a4_2), .val (.int nn), .val (.int kth'), .val (.int (more' + (-1 : Int32))), .val (.long (pre + kth'.toInt64)), .second, .val (.int (al - (cs.getD (k - (1 : Int32)).toNatClampNeg 0))), .val (.long (sb + ((k - (1 : Int32)).toInt64 * (cs.getD (k - (1 : Int32)).toNatClampNeg 0).toInt64))), .second, .val (.int (k + (1 : Int32))), .val (.long ((k.toInt64 * ((al - (cs.getD (k - (1 : Int32)).toNatClampNeg 0)) - k).toInt64) + (sb + ((k - (1 : Int32)).toInt64 * (cs.getD (k - (1 : Int32)).toNatClampNeg 0).toInt64)))), .second]) rfl kz) ?_
         refine own_s (g' := (mkF m 23 #[.val (.ref a4_0), .val (.int p4_1), .val (.ref a4_2), .val (.int nn), .val (.int kth'), .val (.int (more' + (-1 : Int32))), .val (.long (pre + kth'.toInt64)), .second, .val (.int (al - (cs.getD (k - (1 : Int32)).toNatClampNeg 0))), .val (.long (sb + ((k - (1 : Int32)).toInt64 * (cs.getD (k - (1 : Int32)).toNatClampNeg 0).toInt64))), .second, .val (.int (k + (1 : Int32))), .val (.long ((k.toInt64 * ((al - (cs.getD (k - (1 : Int32)).toNatClampNeg 0)) - k).toInt64) + (sb + ((k - (1 : Int32)).toInt64 * (cs.getD (k - (1 : Int32)).toNatClampNeg 0).toInt64)))), .second] [])) (fun _ kz => XS.goto X6.here hx rfl (pc0 := 135) (pc' := 23) rfl (hb hby d4_135) (by decide) (by decide) kz) ?_
         have f8 := (Vc.other W6 ne_a4_0_a4_2)
         exact ih _ _ _ _ _ _ _ _ _ T6 _ _ X6 e6 N6 (K6) f8 f7 (Or.inr ⟨_, rfl, rfl⟩) (by rw [List.length_set]; exact hl) hm2
        ·cases (if_neg hk).symm.trans hm
     ·rw [own_out, if_neg c1, if_neg hbd] at hm; cases hm
  exact outer _ _ _ _ _ _ _ _ _ sl _ _ h0 X0 e0 N0 K0 V_a4_0 V_a4_2 (Or.inl ⟨rfl, rfl⟩) hsl hmod
theorem own_nz {i n : Int32} (h : ¬ i < (0 : Int32)) (c : i < n) : n ≠ 0 := fun q => by
  rw [q] at c
  exact h c
theorem d1_0 : decode method_3_code 0 = .ok (.iload_n 1, 1) := by decide +kernel
theorem d1_1 : decode method_3_code 1 = .ok (.iload_n 2, 1) := by decide +kernel
theorem d1_2 : decode method_3_code 2 = .ok (.if_icmp .ge 12, 3) := by decide +kernel
theorem d1_5 : decode method_3_code 5 = .ok (.iload_n 0, 1) := by decide +kernel
theorem d1_6 : decode method_3_code 6 = .ok (.ldc 7, 2) := by decide +kernel
theorem d1_8 : decode method_3_code 8 = .ok (.iand, 1) := by decide +kernel
theorem d1_9 : decode method_3_code 9 = .ok (.iload_n 2, 1) := by decide +kernel
theorem d1_10 : decode method_3_code 10 = .ok (.irem, 1) := by decide +kernel
theorem d1_11 : decode method_3_code 11 = .ok (.goto 4, 3) := by decide +kernel
theorem d1_14 : decode method_3_code 14 = .ok (.iconst (-1), 1) := by decide +kernel
theorem d1_15 : decode method_3_code 15 = .ok (.ireturn, 1) := by decide +kernel
theorem pn_gallai_service_GraphicalitySlacksPinLaw : plainName "gallai/service/GraphicalitySlacksPinLaw" = true := by first | (simp [plainName, overriddenIn]; done) | decide +kernel
theorem ef_1 (m : MethodId) (p1_0 : Int32) (p1_1 : Int32) (p1_2 : Int32) : entryFrame m #[(.int p1_0), (.int p1_1), (.int p1_2)] 3 = mkF m 0 #[.val (.int p1_0), .val (.int p1_1), .val (.int p1_2)] [] := by first | (simp [entryFrame, mkF, argsToLocals, Value.category]; done) | rfl
def r1 (p1_0 : Int32) (p1_1 : Int32) (p1_2 : Int32) : Int32 := (if p1_1 < p1_2 then ((p1_0 &&& (2147483647 : Int32)) % p1_2) else (-1 : Int32))
def Q1 (Z : State) (p1_0 : Int32) (p1_1 : Int32) (p1_2 : Int32) (h0 : Heap) (n0 : Nat) (v : Option Value) (h : Heap) (L : List Loc) : Prop := v = some (.int (r1 p1_0 p1_1 p1_2)) ∧ Fr n0 L ∧ h = h0
set_option maxRecDepth 65536 in
set_option maxHeartbeats 40000000 in
theorem rm1 (l : Launch) (Z : State) (a0 : Array Value) (hw : ∀ d ∈ tables_1, d.before a0 Z = true) (ws : List Jvm.Cond) (p1_0 : Int32) (p1_1 : Int32) (p1_2 : Int32) (h0 : Heap) (n0 : Nat) (Z0 : n0 ≤ h0.size) (hi0 : ¬ p1_1 < (0 : Int32)) :
    MetFree l (⟨"gallai/service/GraphicalitySlacksPinLaw", "degree", "(III)I"⟩ : MethodName) (head1 (Jvm.Cond.code (⟨"gallai/service/GraphicalitySlacksPinLaw", "degree", "(III)I"⟩ : MethodName) method_3_code 3 (some .int) :: ws) ({ frames := 0, cells := 0, slots := 0, locals := 0 } : Room)) (fun a U => a = #[(.int p1_0), (.int p1_1), (.int p1_2)] ∧ Z.Warmed39 U.vm ∧ U.heap = h0) (fun _ _ _ _ _ => True) (fun _ U o U' => ∃ v L, o = .returned v ∧ Q1 Z p1_0 p1_1 p1_2 h0 n0 v U'.heap L ∧ FrameEnd U o U' L ({ frames := 0, cells := 0, slots := 0, locals := 0 } : Room).cells ({ frames := 0, cells := 0, slots := 0, locals := 0 } : Room).slots) := by
  refine MetFree.of_bodySF (plainFor_of_name pn_gallai_service_GraphicalitySlacksPinLaw) hisR ?_
  intro p e s m args below meth c s₁ Bd hml0 hP hK
  obtain ⟨rfl, hZ, hh⟩ := hP
  have hx := Bd.exec
  have hby := Bd.bytes
  have hlk := Bd.notSynchronized
  have hret := Bd.returns
  have hml : c.maxLocals = 3 := hml0
  have hown : s.vm.findClass "gallai/service/GraphicalitySlacksPinLaw" = some m.cls := findClass_of_methodNamed Bd.named
  have hnm := (name_of_methodNamed Bd.named Bd.method).1
  have X0 : Stand p l e ({ frames := 0, cells := 0, slots := 0, locals := 0 } : Room) s m #[(.int p1_0), (.int p1_1), (.int p1_2)] below meth c s₁ [] 0 0 := Stand.of_body Bd
  have e0 : s₁.heap = h0 := by rw [← hh, Bd.state]; rfl
  have N0 := Fr.nil n0
  have K0 : Keep h0 h0 [] := Keep.refl _ _
  show own_G p e below s (Q1 Z p1_0 p1_1 p1_2 h0 n0) ({ frames := 0, cells := 0, slots := 0, locals := 0 } : Room).cells ({ frames := 0, cells := 0, slots := 0, locals := 0 } : Room).slots s₁ (entryFrame m #[(.int p1_0), (.int p1_1), (.int p1_2)] 3)
  have ww0 := hw _ (List.mem_of_getElem? (i := 0) rfl)
  refine own_cast (ef_1 m p1_0 p1_1 p1_2) ?_
  refine own_s (g' := (mkF m 1 #[.val (.int p1_0), .val (.int p1_1), .val (.int p1_2)] [(.int p1_1)])) (fun _ kz => XS.iloadN X0.here hx rfl (hb hby d1_0) rfl kz) ?_
  refine own_s (g' := (mkF m 2 #[.val (.int p1_0), .val (.int p1_1), .val (.int p1_2)] [(.int p1_2), (.int p1_1)])) (fun _ kz => XS.iloadN X0.here hx rfl (hb hby d1_1) rfl kz) ?_
  by_cases c9 : p1_1 < p1_2
  ·skip
   refine own_s (g' := (mkF m 5 #[.val (.int p1_0), .val (.int p1_1), .val (.int p1_2)] [])) (fun _ kz => XS.icmpNo X0.here hx rfl (hb hby d1_2) rfl (tlt c9).2.1 kz) ?_
   refine own_s (g' := (mkF m 6 #[.val (.int p1_0), .val (.int p1_1), .val (.int p1_2)] [(.int p1_0)])) (fun _ kz => XS.iloadN X0.here hx rfl (hb hby d1_5) rfl kz) ?_
   refine own_s (g' := (mkF m 8 #[.val (.int p1_0), .val (.int p1_1), .val (.int p1_2)] [(.int 2147483647), (.int p1_0)])) (X0.ldcInt hx hown (mvT hZ ww0) (g := (mkF m 6 #[.val (.int p1_0), .val (.int p1_1), .val (.int p1_2)] [(.int p1_0)])) rfl (hb hby d1_6)) ?_
   refine own_s (g' := (mkF m 9 #[.val (.int p1_0), .val (.int p1_1), .val (.int p1_2)] [(.int (p1_0 &&& (2147483647 : Int32)))])) (fun _ kz => XS.iand X0.here hx rfl (hb hby d1_8) rfl kz) ?_
   refine own_s (g' := (mkF m 10 #[.val (.int p1_0), .val (.int p1_1), .val (.int p1_2)] [(.int p1_2), (.int (p1_0 &&& (2147483647 : Int32)))])) (fun _ kz => XS.iloadN X0.here hx rfl (hb hby d1_9) rfl kz) ?_
   refine own_s (g' := (mkF m 11 #[.val (.int p1_0), .val (.int p1_1), .val (.int p1_2)] [(.int ((p1_0 &&& (2147483647 : Int32)) % p1_2))])) (fun _ kz => iremM X0 hx rfl (hb hby d1_10) rfl (own_nz hi0 c9) kz) ?_
   refine own_s (g' := (mkF m 15 #[.val (.int p1_0), .val (.int p1_1), .val (.int p1_2)] [(.int ((p1_0 &&& (2147483647 : Int32)) % p1_2))])) (fun _ kz => XS.goto X0.here hx rfl (pc0 := 11) (pc' := 15) rfl (hb hby d1_11) (by decide) (by decide) kz) ?_
   refine own_retI X0 hx hlk hret (hb hby d1_15) (by decide) (by decide) ?_
   show Q1 Z p1_0 p1_1 p1_2 h0 n0 _ s₁.heap _
   rw [e0]
   exact ⟨(congrArg (fun z => some (Value.int z)) (show ((p1_0 &&& (2147483647 : Int32)) % p1_2) = (r1 p1_0 p1_1 p1_2) from (Eq.symm (if_pos c9)))), N0, rfl⟩
  ·skip
   refine own_s (g' := (mkF m 14 #[.val (.int p1_0), .val (.int p1_1), .val (.int p1_2)] [])) (fun _ kz => XS.icmpYes X0.here hx rfl (pc0 := 2) (pc' := 14) rfl (hb hby d1_2) rfl (flt c9).2.1 (by decide) (by decide) kz) ?_
   refine own_s (g' := (mkF m 15 #[.val (.int p1_0), .val (.int p1_1), .val (.int p1_2)] [(.int (-1))])) (fun _ kz => XS.iconst X0.here hx rfl (hb hby d1_14) kz) ?_
   refine own_retI X0 hx hlk hret (hb hby d1_15) (by decide) (by decide) ?_
   show Q1 Z p1_0 p1_1 p1_2 h0 n0 _ s₁.heap _
   rw [e0]
   exact ⟨(congrArg (fun z => some (Value.int z)) (show (-1 : Int32) = (r1 p1_0 p1_1 p1_2) from (Eq.symm (if_neg c9)))), N0, rfl⟩
theorem d3_0 : decode jdk_29_method_69_code 0 = .ok (.iload_n 0, 1) := by decide +kernel
theorem d3_1 : decode jdk_29_method_69_code 1 = .ok (.iload_n 1, 1) := by decide +kernel
theorem d3_2 : decode jdk_29_method_69_code 2 = .ok (.if_icmp .gt 7, 3) := by decide +kernel
theorem d3_5 : decode jdk_29_method_69_code 5 = .ok (.iload_n 0, 1) := by decide +kernel
theorem d3_6 : decode jdk_29_method_69_code 6 = .ok (.goto 4, 3) := by decide +kernel
theorem d3_9 : decode jdk_29_method_69_code 9 = .ok (.iload_n 1, 1) := by decide +kernel
theorem d3_10 : decode jdk_29_method_69_code 10 = .ok (.ireturn, 1) := by decide +kernel
theorem ef_3 (m : MethodId) (p3_0 : Int32) (p3_1 : Int32) : entryFrame m #[(.int p3_0), (.int p3_1)] 2 = mkF m 0 #[.val (.int p3_0), .val (.int p3_1)] [] := by first | (simp [entryFrame, mkF, argsToLocals, Value.category]; done) | rfl
def r3 (p3_0 : Int32) (p3_1 : Int32) : Int32 := (if p3_1 < p3_0 then p3_1 else p3_0)
def Q3 (Z : State) (p3_0 : Int32) (p3_1 : Int32) (h0 : Heap) (n0 : Nat) (v : Option Value) (h : Heap) (L : List Loc) : Prop := v = some (.int (r3 p3_0 p3_1)) ∧ Fr n0 L ∧ h = h0
set_option maxRecDepth 65536 in
set_option maxHeartbeats 40000000 in
theorem rm3 (l : Launch) (Z : State) (a0 : Array Value) (hw : ∀ d ∈ tables_1, d.before a0 Z = true) (ws : List Jvm.Cond) (p3_0 : Int32) (p3_1 : Int32) (h0 : Heap) (n0 : Nat) (Z0 : n0 ≤ h0.size) :
    MetFree l (⟨"java/lang/Math", "min", "(II)I"⟩ : MethodName) (head1 (Jvm.Cond.code (⟨"java/lang/Math", "min", "(II)I"⟩ : MethodName) jdk_29_method_69_code 2 (some .int) :: ws) ({ frames := 0, cells := 0, slots := 0, locals := 0 } : Room)) (fun a U => a = #[(.int p3_0), (.int p3_1)] ∧ Z.Warmed39 U.vm ∧ U.heap = h0) (fun _ _ _ _ _ => True) (fun _ U o U' => ∃ v L, o = .returned v ∧ Q3 Z p3_0 p3_1 h0 n0 v U'.heap L ∧ FrameEnd U o U' L ({ frames := 0, cells := 0, slots := 0, locals := 0 } : Room).cells ({ frames := 0, cells := 0, slots := 0, locals := 0 } : Room).slots) := by
  refine MetFree.of_bodySF (Jvm.Free.JP.mathPlain rfl (by decide +kernel)) hisR ?_
  intro p e s m args below meth c s₁ Bd hml0 hP hK
  obtain ⟨rfl, hZ, hh⟩ := hP
  have hx := Bd.exec
  have hby := Bd.bytes
  have hlk := Bd.notSynchronized
  have hret := Bd.returns
  have hml : c.maxLocals = 2 := hml0
  have hown : s.vm.findClass "java/lang/Math" = some m.cls := findClass_of_methodNamed Bd.named
  have hnm := (name_of_methodNamed Bd.named Bd.method).1
  have X0 : Stand p l e ({ frames := 0, cells := 0, slots := 0, locals := 0 } : Room) s m #[(.int p3_0), (.int p3_1)] below meth c s₁ [] 0 0 := Stand.of_body Bd
  have e0 : s₁.heap = h0 := by rw [← hh, Bd.state]; rfl
  have N0 := Fr.nil n0
  have K0 : Keep h0 h0 [] := Keep.refl _ _
  show own_G p e below s (Q3 Z p3_0 p3_1 h0 n0) ({ frames := 0, cells := 0, slots := 0, locals := 0 } : Room).cells ({ frames := 0, cells := 0, slots := 0, locals := 0 } : Room).slots s₁ (entryFrame m #[(.int p3_0), (.int p3_1)] 2)
  refine own_cast (ef_3 m p3_0 p3_1) ?_
  refine own_s (g' := (mkF m 1 #[.val (.int p3_0), .val (.int p3_1)] [(.int p3_0)])) (fun _ kz => XS.iloadN X0.here hx rfl (hb hby d3_0) rfl kz) ?_
  refine own_s (g' := (mkF m 2 #[.val (.int p3_0), .val (.int p3_1)] [(.int p3_1), (.int p3_0)])) (fun _ kz => XS.iloadN X0.here hx rfl (hb hby d3_1) rfl kz) ?_
  by_cases c10 : p3_1 < p3_0
  ·skip
   refine own_s (g' := (mkF m 9 #[.val (.int p3_0), .val (.int p3_1)] [])) (fun _ kz => XS.icmpYes X0.here hx rfl (pc0 := 2) (pc' := 9) rfl (hb hby d3_2) rfl (tlt c10).2.2.1 (by decide) (by decide) kz) ?_
   refine own_s (g' := (mkF m 10 #[.val (.int p3_0), .val (.int p3_1)] [(.int p3_1)])) (fun _ kz => XS.iloadN X0.here hx rfl (hb hby d3_9) rfl kz) ?_
   refine own_retI X0 hx hlk hret (hb hby d3_10) (by decide) (by decide) ?_
   show Q3 Z p3_0 p3_1 h0 n0 _ s₁.heap _
   rw [e0]
   exact ⟨(congrArg (fun z => some (Value.int z)) (show p3_1 = (r3 p3_0 p3_1) from (Eq.symm (if_pos c10)))), N0, rfl⟩
  ·skip
   refine own_s (g' := (mkF m 5 #[.val (.int p3_0), .val (.int p3_1)] [])) (fun _ kz => XS.icmpNo X0.here hx rfl (hb hby d3_2) rfl (flt c10).2.2.1 kz) ?_
   refine own_s (g' := (mkF m 6 #[.val (.int p3_0), .val (.int p3_1)] [(.int p3_0)])) (fun _ kz => XS.iloadN X0.here hx rfl (hb hby d3_5) rfl kz) ?_
   refine own_s (g' := (mkF m 10 #[.val (.int p3_0), .val (.int p3_1)] [(.int p3_0)])) (fun _ kz => XS.goto X0.here hx rfl (pc0 := 6) (pc' := 10) rfl (hb hby d3_6) (by decide) (by decide) kz) ?_
   refine own_retI X0 hx hlk hret (hb hby d3_10) (by decide) (by decide) ?_
   show Q3 Z p3_0 p3_1 h0 n0 _ s₁.heap _
   rw [e0]
   exact ⟨(congrArg (fun z => some (Value.int z)) (show p3_0 = (r3 p3_0 p3_1) from (Eq.symm (if_neg c10)))), N0, rfl⟩
theorem d2_0 : decode method_4_code 0 = .ok (.aload_n 0, 1) := by decide +kernel
theorem d2_1 : decode method_4_code 1 = .ok (.iload_n 1, 1) := by decide +kernel
theorem d2_2 : decode method_4_code 2 = .ok (.iaload, 1) := by decide +kernel
theorem d2_3 : decode method_4_code 3 = .ok (.aload_n 0, 1) := by decide +kernel
theorem d2_4 : decode method_4_code 4 = .ok (.iload_n 2, 1) := by decide +kernel
theorem d2_5 : decode method_4_code 5 = .ok (.iaload, 1) := by decide +kernel
theorem d2_6 : decode method_4_code 6 = .ok (.if_icmp .ge 17, 3) := by decide +kernel
theorem d2_9 : decode method_4_code 9 = .ok (.aload_n 0, 1) := by decide +kernel
theorem d2_10 : decode method_4_code 10 = .ok (.iload_n 1, 1) := by decide +kernel
theorem d2_11 : decode method_4_code 11 = .ok (.iaload, 1) := by decide +kernel
theorem d2_12 : decode method_4_code 12 = .ok (.istore_n 3, 1) := by decide +kernel
theorem d2_13 : decode method_4_code 13 = .ok (.aload_n 0, 1) := by decide +kernel
theorem d2_14 : decode method_4_code 14 = .ok (.iload_n 1, 1) := by decide +kernel
theorem d2_15 : decode method_4_code 15 = .ok (.aload_n 0, 1) := by decide +kernel
theorem d2_16 : decode method_4_code 16 = .ok (.iload_n 2, 1) := by decide +kernel
theorem d2_17 : decode method_4_code 17 = .ok (.iaload, 1) := by decide +kernel
theorem d2_18 : decode method_4_code 18 = .ok (.iastore, 1) := by decide +kernel
theorem d2_19 : decode method_4_code 19 = .ok (.aload_n 0, 1) := by decide +kernel
theorem d2_20 : decode method_4_code 20 = .ok (.iload_n 2, 1) := by decide +kernel
theorem d2_21 : decode method_4_code 21 = .ok (.iload_n 3, 1) := by decide +kernel
theorem d2_22 : decode method_4_code 22 = .ok (.iastore, 1) := by decide +kernel
theorem d2_23 : decode method_4_code 23 = .ok (.return_, 1) := by decide +kernel
theorem ef_2p01 (m : MethodId) (a2_0 : Addr) : entryFrame m #[(.ref a2_0), (.int 0), (.int 1)] 4 = mkF m 0 #[.val (.ref a2_0), .val (.int 0), .val (.int 1), .unset] [] := by first | (simp [entryFrame, mkF, argsToLocals, Value.category]; done) | rfl
def w2p01_a2_0_0 (y0 : Int32) (y1 : Int32) : Int32 := (if y0 < y1 then y1 else y0)
def w2p01_a2_0_1 (y0 : Int32) (y1 : Int32) : Int32 := (if y0 < y1 then y0 else y1)
def Q2p01 (Z : State) (a2_0 : Addr) (ky : ClassId) (y0 : Int32) (y1 : Int32) (y2 : Int32) (y3 : Int32) (y4 : Int32) (h0 : Heap) (n0 : Nat) (v : Option Value) (h : Heap) (L : List Loc) : Prop := v = none ∧ Fr n0 L ∧ Keep h0 h [a2_0] ∧ Arv Z h a2_0 ky .int (5 : Int32) [(.int (w2p01_a2_0_0 y0 y1)), (.int (w2p01_a2_0_1 y0 y1)), (.int y2), (.int y3), (.int y4)] (.int 0)
set_option maxRecDepth 65536 in
set_option maxHeartbeats 40000000 in
theorem rm2p01 (l : Launch) (Z : State) (a0 : Array Value) (hw : ∀ d ∈ tables_1, d.before a0 Z = true) (ws : List Jvm.Cond) (a2_0 : Addr) (ky : ClassId) (y0 : Int32) (y1 : Int32) (y2 : Int32) (y3 : Int32) (y4 : Int32) (h0 : Heap) (n0 : Nat) (Z0 : n0 ≤ h0.size) (V_a2_0 : Arv Z h0 a2_0 ky .int (5 : Int32) [(.int y0), (.int y1), (.int y2), (.int y3), (.int y4)] (.int 0)) (g_a2_0 : n0 ≤ a2_0) :
    MetFree l (⟨"gallai/service/GraphicalitySlacksPinLaw", "order", "([III)V"⟩ : MethodName) (head1 (Jvm.Cond.code (⟨"gallai/service/GraphicalitySlacksPinLaw", "order", "([III)V"⟩ : MethodName) method_4_code 4 none :: ws) ({ frames := 0, cells := 0, slots := 0, locals := 0 } : Room)) (fun a U => a = #[(.ref a2_0), (.int 0), (.int 1)] ∧ Z.Warmed39 U.vm ∧ U.heap = h0) (fun _ _ _ _ _ => True) (fun _ U o U' => ∃ v L, o = .returned v ∧ Q2p01 Z a2_0 ky y0 y1 y2 y3 y4 h0 n0 v U'.heap L ∧ FrameEnd U o U' L ({ frames := 0, cells := 0, slots := 0, locals := 0 } : Room).cells ({ frames := 0, cells := 0, slots := 0, locals := 0 } : Room).slots) := by
  refine MetFree.of_bodySF (plainFor_of_name pn_gallai_service_GraphicalitySlacksPinLaw) hisR ?_
  intro p e s m args below meth c s₁ Bd hml0 hP hK
  obtain ⟨rfl, hZ, hh⟩ := hP
  have hx := Bd.exec
  have hby := Bd.bytes
  have hlk := Bd.notSynchronized
  have hret := Bd.returns
  have hml : c.maxLocals = 4 := hml0
  have hown : s.vm.findClass "gallai/service/GraphicalitySlacksPinLaw" = some m.cls := findClass_of_methodNamed Bd.named
  have hnm := (name_of_methodNamed Bd.named Bd.method).1
  have X0 : Stand p l e ({ frames := 0, cells := 0, slots := 0, locals := 0 } : Room) s m #[(.ref a2_0), (.int 0), (.int 1)] below meth c s₁ [] 0 0 := Stand.of_body Bd
  have e0 : s₁.heap = h0 := by rw [← hh, Bd.state]; rfl
  have N0 := Fr.nil n0
  have K0 : Keep h0 h0 [a2_0] := Keep.refl _ _
  show own_G p e below s (Q2p01 Z a2_0 ky y0 y1 y2 y3 y4 h0 n0) ({ frames := 0, cells := 0, slots := 0, locals := 0 } : Room).cells ({ frames := 0, cells := 0, slots := 0, locals := 0 } : Room).slots s₁ (entryFrame m #[(.ref a2_0), (.int 0), (.int 1)] 4)
  refine own_cast (ef_2p01 m a2_0) ?_
  refine own_s (g' := (mkF m 1 #[.val (.ref a2_0), .val (.int 0), .val (.int 1), .unset] [(.ref a2_0)])) (fun _ kz => XS.aloadN X0.here hx rfl (hb hby d2_0) rfl rfl kz) ?_
  refine own_s (g' := (mkF m 2 #[.val (.ref a2_0), .val (.int 0), .val (.int 1), .unset] [(.int 0), (.ref a2_0)])) (fun _ kz => XS.iloadN X0.here hx rfl (hb hby d2_1) rfl kz) ?_
  obtain ⟨cl11, Ar11, -, S11, -, H11, -⟩ := id V_a2_0
  have in11 := inb_of S11 (j := (0 : Int32)) ⟨by decide, by decide⟩
  refine own_s (g' := (mkF m 3 #[.val (.ref a2_0), .val (.int 0), .val (.int 1), .unset] [(.int y0)])) (X0.iaload hx (j := (0 : Int32)) (v := (.int y0)) (by rw [e0]; exact Ar11.1) (State.isArrayOf_alike hZ.alike Ar11.2.1) Ar11.2.2 in11 (Has.at H11 in11 rfl) (g := (mkF m 2 #[.val (.ref a2_0), .val (.int 0), .val (.int 1), .unset] [(.int 0), (.ref a2_0)])) rfl rfl (hb hby d2_2)) ?_
  refine own_s (g' := (mkF m 4 #[.val (.ref a2_0), .val (.int 0), .val (.int 1), .unset] [(.ref a2_0), (.int y0)])) (fun _ kz => XS.aloadN X0.here hx rfl (hb hby d2_3) rfl rfl kz) ?_
  refine own_s (g' := (mkF m 5 #[.val (.ref a2_0), .val (.int 0), .val (.int 1), .unset] [(.int 1), (.ref a2_0), (.int y0)])) (fun _ kz => XS.iloadN X0.here hx rfl (hb hby d2_4) rfl kz) ?_
  obtain ⟨cl12, Ar12, -, S12, -, H12, -⟩ := id V_a2_0
  have in12 := inb_of S12 (j := (1 : Int32)) ⟨by decide, by decide⟩
  refine own_s (g' := (mkF m 6 #[.val (.ref a2_0), .val (.int 0), .val (.int 1), .unset] [(.int y1), (.int y0)])) (X0.iaload hx (j := (1 : Int32)) (v := (.int y1)) (by rw [e0]; exact Ar12.1) (State.isArrayOf_alike hZ.alike Ar12.2.1) Ar12.2.2 in12 (Has.at H12 in12 rfl) (g := (mkF m 5 #[.val (.ref a2_0), .val (.int 0), .val (.int 1), .unset] [(.int 1), (.ref a2_0), (.int y0)])) rfl rfl (hb hby d2_5)) ?_
  by_cases c13 : y0 < y1
  ·skip
   refine own_s (g' := (mkF m 9 #[.val (.ref a2_0), .val (.int 0), .val (.int 1), .unset] [])) (fun _ kz => XS.icmpNo X0.here hx rfl (hb hby d2_6) rfl (tlt c13).2.1 kz) ?_
   refine own_s (g' := (mkF m 10 #[.val (.ref a2_0), .val (.int 0), .val (.int 1), .unset] [(.ref a2_0)])) (fun _ kz => XS.aloadN X0.here hx rfl (hb hby d2_9) rfl rfl kz) ?_
   refine own_s (g' := (mkF m 11 #[.val (.ref a2_0), .val (.int 0), .val (.int 1), .unset] [(.int 0), (.ref a2_0)])) (fun _ kz => XS.iloadN X0.here hx rfl (hb hby d2_10) rfl kz) ?_
   obtain ⟨cl14, Ar14, -, S14, -, H14, -⟩ := id V_a2_0
   have in14 := inb_of S14 (j := (0 : Int32)) ⟨by decide, by decide⟩
   refine own_s (g' := (mkF m 12 #[.val (.ref a2_0), .val (.int 0), .val (.int 1), .unset] [(.int y0)])) (X0.iaload hx (j := (0 : Int32)) (v := (.int y0)) (by rw [e0]; exact Ar14.1) (State.isArrayOf_alike hZ.alike Ar14.2.1) Ar14.2.2 in14 (Has.at H14 in14 rfl) (g := (mkF m 11 #[.val (.ref a2_0), .val (.int 0), .val (.int 1), .unset] [(.int 0), (.ref a2_0)])) rfl rfl (hb hby d2_11)) ?_
   refine own_s (g' := (mkF m 13 #[.val (.ref a2_0), .val (.int 0), .val (.int 1), .val (.int y0)] [])) (fun _ kz => XS.istoreN X0.here hx rfl (hb hby d2_12) rfl (l' := #[.val (.ref a2_0), .val (.int 0), .val (.int 1), .val (.int y0)]) rfl kz) ?_
   refine own_s (g' := (mkF m 14 #[.val (.ref a2_0), .val (.int 0), .val (.int 1), .val (.int y0)] [(.ref a2_0)])) (fun _ kz => XS.aloadN X0.here hx rfl (hb hby d2_13) rfl rfl kz) ?_
   refine own_s (g' := (mkF m 15 #[.val (.ref a2_0), .val (.int 0), .val (.int 1), .val (.int y0)] [(.int 0), (.ref a2_0)])) (fun _ kz => XS.iloadN X0.here hx rfl (hb hby d2_14) rfl kz) ?_
   refine own_s (g' := (mkF m 16 #[.val (.ref a2_0), .val (.int 0), .val (.int 1), .val (.int y0)] [(.ref a2_0), (.int 0), (.ref a2_0)])) (fun _ kz => XS.aloadN X0.here hx rfl (hb hby d2_15) rfl rfl kz) ?_
   refine own_s (g' := (mkF m 17 #[.val (.ref a2_0), .val (.int 0), .val (.int 1), .val (.int y0)] [(.int 1), (.ref a2_0), (.int 0), (.ref a2_0)])) (fun _ kz => XS.iloadN X0.here hx rfl (hb hby d2_16) rfl kz) ?_
   obtain ⟨cl15, Ar15, -, S15, -, H15, -⟩ := id V_a2_0
   have in15 := inb_of S15 (j := (1 : Int32)) ⟨by decide, by decide⟩
   refine own_s (g' := (mkF m 18 #[.val (.ref a2_0), .val (.int 0), .val (.int 1), .val (.int y0)] [(.int y1), (.int 0), (.ref a2_0)])) (X0.iaload hx (j := (1 : Int32)) (v := (.int y1)) (by rw [e0]; exact Ar15.1) (State.isArrayOf_alike hZ.alike Ar15.2.1) Ar15.2.2 in15 (Has.at H15 in15 rfl) (g := (mkF m 17 #[.val (.ref a2_0), .val (.int 0), .val (.int 1), .val (.int y0)] [(.int 1), (.ref a2_0), (.int 0), (.ref a2_0)])) rfl rfl (hb hby d2_17)) ?_
   obtain ⟨cl16, Ar16, q16, S16, M16, H16, G16⟩ := id V_a2_0
   obtain ⟨T16, h16, X16, e16, W16, st16⟩ := stI X0 hx hZ e0 Ar16 (j := (0 : Int32)) (inb_of S16 ⟨by decide, by decide⟩) (g := (mkF m 18 #[.val (.ref a2_0), .val (.int 0), .val (.int 1), .val (.int y0)] [(.int y1), (.int 0), (.ref a2_0)])) rfl rfl (hb hby d2_18)
   have f17 : Arv Z h16 a2_0 ky .int (5 : Int32) [(.int y1), (.int y1), (.int y2), (.int y3), (.int y4)] (.int 0) := Arv.set Ar16 q16 S16 M16 H16 G16 rfl W16 0 rfl (Nat.le_of_ble_eq_true rfl)
   have K16 := K0.wr W16 (Or.inl (List.mem_of_getElem? (i := 0) rfl))
   have N16 := Fr.snoc X16 N0 g_a2_0
   refine own_s (g' := (mkF m 19 #[.val (.ref a2_0), .val (.int 0), .val (.int 1), .val (.int y0)] [])) st16 ?_
   refine own_s (g' := (mkF m 20 #[.val (.ref a2_0), .val (.int 0), .val (.int 1), .val (.int y0)] [(.ref a2_0)])) (fun _ kz => XS.aloadN X16.here hx rfl (hb hby d2_19) rfl rfl kz) ?_
   refine own_s (g' := (mkF m 21 #[.val (.ref a2_0), .val (.int 0), .val (.int 1), .val (.int y0)] [(.int 1), (.ref a2_0)])) (fun _ kz => XS.iloadN X16.here hx rfl (hb hby d2_20) rfl kz) ?_
   refine own_s (g' := (mkF m 22 #[.val (.ref a2_0), .val (.int 0), .val (.int 1), .val (.int y0)] [(.int y0), (.int 1), (.ref a2_0)])) (fun _ kz => XS.iloadN X16.here hx rfl (hb hby d2_21) rfl kz) ?_
   obtain ⟨cl18, Ar18, q18, S18, M18, H18, G18⟩ := id f17
   obtain ⟨T18, h18, X18, e18, W18, st18⟩ := stI X16 hx hZ e16 Ar18 (j := (1 : Int32)) (inb_of S18 ⟨by decide, by decide⟩) (g := (mkF m 22 #[.val (.ref a2_0), .val (.int 0), .val (.int 1), .val (.int y0)] [(.int y0), (.int 1), (.ref a2_0)])) rfl rfl (hb hby d2_22)
   have f19 : Arv Z h18 a2_0 ky .int (5 : Int32) [(.int y1), (.int y0), (.int y2), (.int y3), (.int y4)] (.int 0) := Arv.set Ar18 q18 S18 M18 H18 G18 rfl W18 1 rfl (Nat.le_of_ble_eq_true rfl)
   have K18 := K16.wr W18 (Or.inl (List.mem_of_getElem? (i := 0) rfl))
   have N18 := Fr.snoc X18 N16 g_a2_0
   refine own_s (g' := (mkF m 23 #[.val (.ref a2_0), .val (.int 0), .val (.int 1), .val (.int y0)] [])) st18 ?_
   refine own_retV X18 hx hlk hret (hb hby d2_23) (by decide) (by decide) ?_
   show Q2p01 Z a2_0 ky y0 y1 y2 y3 y4 h0 n0 _ T18.heap _
   rw [e18]
   exact ⟨rfl, N18, K18, (by rw [show (w2p01_a2_0_0 y0 y1) = y1 from (if_pos c13), show (w2p01_a2_0_1 y0 y1) = y0 from (if_pos c13)]; exact f19)⟩
  ·skip
   refine own_s (g' := (mkF m 23 #[.val (.ref a2_0), .val (.int 0), .val (.int 1), .unset] [])) (fun _ kz => XS.icmpYes X0.here hx rfl (pc0 := 6) (pc' := 23) rfl (hb hby d2_6) rfl (flt c13).2.1 (by decide) (by decide) kz) ?_
   refine own_retV X0 hx hlk hret (hb hby d2_23) (by decide) (by decide) ?_
   show Q2p01 Z a2_0 ky y0 y1 y2 y3 y4 h0 n0 _ s₁.heap _
   rw [e0]
   exact ⟨rfl, N0, K0, (by rw [show (w2p01_a2_0_0 y0 y1) = y0 from (if_neg c13), show (w2p01_a2_0_1 y0 y1) = y1 from (if_neg c13)]; exact V_a2_0)⟩
theorem ef_2p34 (m : MethodId) (a2_0 : Addr) : entryFrame m #[(.ref a2_0), (.int 3), (.int 4)] 4 = mkF m 0 #[.val (.ref a2_0), .val (.int 3), .val (.int 4), .unset] [] := by first | (simp [entryFrame, mkF, argsToLocals, Value.category]; done) | rfl
def w2p34_a2_0_3 (y3 : Int32) (y4 : Int32) : Int32 := (if y3 < y4 then y4 else y3)
def w2p34_a2_0_4 (y3 : Int32) (y4 : Int32) : Int32 := (if y3 < y4 then y3 else y4)
def Q2p34 (Z : State) (a2_0 : Addr) (ky : ClassId) (y0 : Int32) (y1 : Int32) (y2 : Int32) (y3 : Int32) (y4 : Int32) (h0 : Heap) (n0 : Nat) (v : Option Value) (h : Heap) (L : List Loc) : Prop := v = none ∧ Fr n0 L ∧ Keep h0 h [a2_0] ∧ Arv Z h a2_0 ky .int (5 : Int32) [(.int y0), (.int y1), (.int y2), (.int (w2p34_a2_0_3 y3 y4)), (.int (w2p34_a2_0_4 y3 y4))] (.int 0)
set_option maxRecDepth 65536 in
set_option maxHeartbeats 40000000 in
theorem rm2p34 (l : Launch) (Z : State) (a0 : Array Value) (hw : ∀ d ∈ tables_1, d.before a0 Z = true) (ws : List Jvm.Cond) (a2_0 : Addr) (ky : ClassId) (y0 : Int32) (y1 : Int32) (y2 : Int32) (y3 : Int32) (y4 : Int32) (h0 : Heap) (n0 : Nat) (Z0 : n0 ≤ h0.size) (V_a2_0 : Arv Z h0 a2_0 ky .int (5 : Int32) [(.int y0), (.int y1), (.int y2), (.int y3), (.int y4)] (.int 0)) (g_a2_0 : n0 ≤ a2_0) :
    MetFree l (⟨"gallai/service/GraphicalitySlacksPinLaw", "order", "([III)V"⟩ : MethodName) (head1 (Jvm.Cond.code (⟨"gallai/service/GraphicalitySlacksPinLaw", "order", "([III)V"⟩ : MethodName) method_4_code 4 none :: ws) ({ frames := 0, cells := 0, slots := 0, locals := 0 } : Room)) (fun a U => a = #[(.ref a2_0), (.int 3), (.int 4)] ∧ Z.Warmed39 U.vm ∧ U.heap = h0) (fun _ _ _ _ _ => True) (fun _ U o U' => ∃ v L, o = .returned v ∧ Q2p34 Z a2_0 ky y0 y1 y2 y3 y4 h0 n0 v U'.heap L ∧ FrameEnd U o U' L ({ frames := 0, cells := 0, slots := 0, locals := 0 } : Room).cells ({ frames := 0, cells := 0, slots := 0, locals := 0 } : Room).slots) := by
  refine MetFree.of_bodySF (plainFor_of_name pn_gallai_service_GraphicalitySlacksPinLaw) hisR ?_
  intro p e s m args below meth c s₁ Bd hml0 hP hK
  obtain ⟨rfl, hZ, hh⟩ := hP
  have hx := Bd.exec
  have hby := Bd.bytes
  have hlk := Bd.notSynchronized
  have hret := Bd.returns
  have hml : c.maxLocals = 4 := hml0
  have hown : s.vm.findClass "gallai/service/GraphicalitySlacksPinLaw" = some m.cls := findClass_of_methodNamed Bd.named
  have hnm := (name_of_methodNamed Bd.named Bd.method).1
  have X0 : Stand p l e ({ frames := 0, cells := 0, slots := 0, locals := 0 } : Room) s m #[(.ref a2_0), (.int 3), (.int 4)] below meth c s₁ [] 0 0 := Stand.of_body Bd
  have e0 : s₁.heap = h0 := by rw [← hh, Bd.state]; rfl
  have N0 := Fr.nil n0
  have K0 : Keep h0 h0 [a2_0] := Keep.refl _ _
  show own_G p e below s (Q2p34 Z a2_0 ky y0 y1 y2 y3 y4 h0 n0) ({ frames := 0, cells := 0, slots := 0, locals := 0 } : Room).cells ({ frames := 0, cells := 0, slots := 0, locals := 0 } : Room).slots s₁ (entryFrame m #[(.ref a2_0), (.int 3), (.int 4)] 4)
  refine own_cast (ef_2p34 m a2_0) ?_
  refine own_s (g' := (mkF m 1 #[.val (.ref a2_0), .val (.int 3), .val (.int 4), .unset] [(.ref a2_0)])) (fun _ kz => XS.aloadN X0.here hx rfl (hb hby d2_0) rfl rfl kz) ?_
  refine own_s (g' := (mkF m 2 #[.val (.ref a2_0), .val (.int 3), .val (.int 4), .unset] [(.int 3), (.ref a2_0)])) (fun _ kz => XS.iloadN X0.here hx rfl (hb hby d2_1) rfl kz) ?_
  obtain ⟨cl20, Ar20, -, S20, -, H20, -⟩ := id V_a2_0
  have in20 := inb_of S20 (j := (3 : Int32)) ⟨by decide, by decide⟩
  refine own_s (g' := (mkF m 3 #[.val (.ref a2_0), .val (.int 3), .val (.int 4), .unset] [(.int y3)])) (X0.iaload hx (j := (3 : Int32)) (v := (.int y3)) (by rw [e0]; exact Ar20.1) (State.isArrayOf_alike hZ.alike Ar20.2.1) Ar20.2.2 in20 (Has.at H20 in20 rfl) (g := (mkF m 2 #[.val (.ref a2_0), .val (.int 3), .val (.int 4), .unset] [(.int 3), (.ref a2_0)])) rfl rfl (hb hby d2_2)) ?_
  refine own_s (g' := (mkF m 4 #[.val (.ref a2_0), .val (.int 3), .val (.int 4), .unset] [(.ref a2_0), (.int y3)])) (fun _ kz => XS.aloadN X0.here hx rfl (hb hby d2_3) rfl rfl kz) ?_
  refine own_s (g' := (mkF m 5 #[.val (.ref a2_0), .val (.int 3), .val (.int 4), .unset] [(.int 4), (.ref a2_0), (.int y3)])) (fun _ kz => XS.iloadN X0.here hx rfl (hb hby d2_4) rfl kz) ?_
  obtain ⟨cl21, Ar21, -, S21, -, H21, -⟩ := id V_a2_0
  have in21 := inb_of S21 (j := (4 : Int32)) ⟨by decide, by decide⟩
  refine own_s (g' := (mkF m 6 #[.val (.ref a2_0), .val (.int 3), .val (.int 4), .unset] [(.int y4), (.int y3)])) (X0.iaload hx (j := (4 : Int32)) (v := (.int y4)) (by rw [e0]; exact Ar21.1) (State.isArrayOf_alike hZ.alike Ar21.2.1) Ar21.2.2 in21 (Has.at H21 in21 rfl) (g := (mkF m 5 #[.val (.ref a2_0), .val (.int 3), .val (.int 4), .unset] [(.int 4), (.ref a2_0), (.int y3)])) rfl rfl (hb hby d2_5)) ?_
  by_cases c22 : y3 < y4
  ·skip
   refine own_s (g' := (mkF m 9 #[.val (.ref a2_0), .val (.int 3), .val (.int 4), .unset] [])) (fun _ kz => XS.icmpNo X0.here hx rfl (hb hby d2_6) rfl (tlt c22).2.1 kz) ?_
   refine own_s (g' := (mkF m 10 #[.val (.ref a2_0), .val (.int 3), .val (.int 4), .unset] [(.ref a2_0)])) (fun _ kz => XS.aloadN X0.here hx rfl (hb hby d2_9) rfl rfl kz) ?_
   refine own_s (g' := (mkF m 11 #[.val (.ref a2_0), .val (.int 3), .val (.int 4), .unset] [(.int 3), (.ref a2_0)])) (fun _ kz => XS.iloadN X0.here hx rfl (hb hby d2_10) rfl kz) ?_
   obtain ⟨cl23, Ar23, -, S23, -, H23, -⟩ := id V_a2_0
   have in23 := inb_of S23 (j := (3 : Int32)) ⟨by decide, by decide⟩
   refine own_s (g' := (mkF m 12 #[.val (.ref a2_0), .val (.int 3), .val (.int 4), .unset] [(.int y3)])) (X0.iaload hx (j := (3 : Int32)) (v := (.int y3)) (by rw [e0]; exact Ar23.1) (State.isArrayOf_alike hZ.alike Ar23.2.1) Ar23.2.2 in23 (Has.at H23 in23 rfl) (g := (mkF m 11 #[.val (.ref a2_0), .val (.int 3), .val (.int 4), .unset] [(.int 3), (.ref a2_0)])) rfl rfl (hb hby d2_11)) ?_
   refine own_s (g' := (mkF m 13 #[.val (.ref a2_0), .val (.int 3), .val (.int 4), .val (.int y3)] [])) (fun _ kz => XS.istoreN X0.here hx rfl (hb hby d2_12) rfl (l' := #[.val (.ref a2_0), .val (.int 3), .val (.int 4), .val (.int y3)]) rfl kz) ?_
   refine own_s (g' := (mkF m 14 #[.val (.ref a2_0), .val (.int 3), .val (.int 4), .val (.int y3)] [(.ref a2_0)])) (fun _ kz => XS.aloadN X0.here hx rfl (hb hby d2_13) rfl rfl kz) ?_
   refine own_s (g' := (mkF m 15 #[.val (.ref a2_0), .val (.int 3), .val (.int 4), .val (.int y3)] [(.int 3), (.ref a2_0)])) (fun _ kz => XS.iloadN X0.here hx rfl (hb hby d2_14) rfl kz) ?_
   refine own_s (g' := (mkF m 16 #[.val (.ref a2_0), .val (.int 3), .val (.int 4), .val (.int y3)] [(.ref a2_0), (.int 3), (.ref a2_0)])) (fun _ kz => XS.aloadN X0.here hx rfl (hb hby d2_15) rfl rfl kz) ?_
   refine own_s (g' := (mkF m 17 #[.val (.ref a2_0), .val (.int 3), .val (.int 4), .val (.int y3)] [(.int 4), (.ref a2_0), (.int 3), (.ref a2_0)])) (fun _ kz => XS.iloadN X0.here hx rfl (hb hby d2_16) rfl kz) ?_
   obtain ⟨cl24, Ar24, -, S24, -, H24, -⟩ := id V_a2_0
   have in24 := inb_of S24 (j := (4 : Int32)) ⟨by decide, by decide⟩
   refine own_s (g' := (mkF m 18 #[.val (.ref a2_0), .val (.int 3), .val (.int 4), .val (.int y3)] [(.int y4), (.int 3), (.ref a2_0)])) (X0.iaload hx (j := (4 : Int32)) (v := (.int y4)) (by rw [e0]; exact Ar24.1) (State.isArrayOf_alike hZ.alike Ar24.2.1) Ar24.2.2 in24 (Has.at H24 in24 rfl) (g := (mkF m 17 #[.val (.ref a2_0), .val (.int 3), .val (.int 4), .val (.int y3)] [(.int 4), (.ref a2_0), (.int 3), (.ref a2_0)])) rfl rfl (hb hby d2_17)) ?_
   obtain ⟨cl25, Ar25, q25, S25, M25, H25, G25⟩ := id V_a2_0
   obtain ⟨T25, h25, X25, e25, W25, st25⟩ := stI X0 hx hZ e0 Ar25 (j := (3 : Int32)) (inb_of S25 ⟨by decide, by decide⟩) (g := (mkF m 18 #[.val (.ref a2_0), .val (.int 3), .val (.int 4), .val (.int y3)] [(.int y4), (.int 3), (.ref a2_0)])) rfl rfl (hb hby d2_18)
   have f26 : Arv Z h25 a2_0 ky .int (5 : Int32) [(.int y0), (.int y1), (.int y2), (.int y4), (.int y4)] (.int 0) := Arv.set Ar25 q25 S25 M25 H25 G25 rfl W25 3 rfl (Nat.le_of_ble_eq_true rfl)
   have K25 := K0.wr W25 (Or.inl (List.mem_of_getElem? (i := 0) rfl))
   have N25 := Fr.snoc X25 N0 g_a2_0
   refine own_s (g' := (mkF m 19 #[.val (.ref a2_0), .val (.int 3), .val (.int 4), .val (.int y3)] [])) st25 ?_
   refine own_s (g' := (mkF m 20 #[.val (.ref a2_0), .val (.int 3), .val (.int 4), .val (.int y3)] [(.ref a2_0)])) (fun _ kz => XS.aloadN X25.here hx rfl (hb hby d2_19) rfl rfl kz) ?_
   refine own_s (g' := (mkF m 21 #[.val (.ref a2_0), .val (.int 3), .val (.int 4), .val (.int y3)] [(.int 4), (.ref a2_0)])) (fun _ kz => XS.iloadN X25.here hx rfl (hb hby d2_20) rfl kz) ?_
   refine own_s (g' := (mkF m 22 #[.val (.ref a2_0), .val (.int 3), .val (.int 4), .val (.int y3)] [(.int y3), (.int 4), (.ref a2_0)])) (fun _ kz => XS.iloadN X25.here hx rfl (hb hby d2_21) rfl kz) ?_
   obtain ⟨cl27, Ar27, q27, S27, M27, H27, G27⟩ := id f26
   obtain ⟨T27, h27, X27, e27, W27, st27⟩ := stI X25 hx hZ e25 Ar27 (j := (4 : Int32)) (inb_of S27 ⟨by decide, by decide⟩) (g := (mkF m 22 #[.val (.ref a2_0), .val (.int 3), .val (.int 4), .val (.int y3)] [(.int y3), (.int 4), (.ref a2_0)])) rfl rfl (hb hby d2_22)
   have f28 : Arv Z h27 a2_0 ky .int (5 : Int32) [(.int y0), (.int y1), (.int y2), (.int y4), (.int y3)] (.int 0) := Arv.set Ar27 q27 S27 M27 H27 G27 rfl W27 4 rfl (Nat.le_of_ble_eq_true rfl)
   have K27 := K25.wr W27 (Or.inl (List.mem_of_getElem? (i := 0) rfl))
   have N27 := Fr.snoc X27 N25 g_a2_0
   refine own_s (g' := (mkF m 23 #[.val (.ref a2_0), .val (.int 3), .val (.int 4), .val (.int y3)] [])) st27 ?_
   refine own_retV X27 hx hlk hret (hb hby d2_23) (by decide) (by decide) ?_
   show Q2p34 Z a2_0 ky y0 y1 y2 y3 y4 h0 n0 _ T27.heap _
   rw [e27]
   exact ⟨rfl, N27, K27, (by rw [show (w2p34_a2_0_3 y3 y4) = y4 from (if_pos c22), show (w2p34_a2_0_4 y3 y4) = y3 from (if_pos c22)]; exact f28)⟩
  ·skip
   refine own_s (g' := (mkF m 23 #[.val (.ref a2_0), .val (.int 3), .val (.int 4), .unset] [])) (fun _ kz => XS.icmpYes X0.here hx rfl (pc0 := 6) (pc' := 23) rfl (hb hby d2_6) rfl (flt c22).2.1 (by decide) (by decide) kz) ?_
   refine own_retV X0 hx hlk hret (hb hby d2_23) (by decide) (by decide) ?_
   show Q2p34 Z a2_0 ky y0 y1 y2 y3 y4 h0 n0 _ s₁.heap _
   rw [e0]
   exact ⟨rfl, N0, K0, (by rw [show (w2p34_a2_0_3 y3 y4) = y3 from (if_neg c22), show (w2p34_a2_0_4 y3 y4) = y4 from (if_neg c22)]; exact V_a2_0)⟩
theorem ef_2p24 (m : MethodId) (a2_0 : Addr) : entryFrame m #[(.ref a2_0), (.int 2), (.int 4)] 4 = mkF m 0 #[.val (.ref a2_0), .val (.int 2), .val (.int 4), .unset] [] := by first | (simp [entryFrame, mkF, argsToLocals, Value.category]; done) | rfl
def w2p24_a2_0_2 (y2 : Int32) (y4 : Int32) : Int32 := (if y2 < y4 then y4 else y2)
def w2p24_a2_0_4 (y2 : Int32) (y4 : Int32) : Int32 := (if y2 < y4 then y2 else y4)
def Q2p24 (Z : State) (a2_0 : Addr) (ky : ClassId) (y0 : Int32) (y1 : Int32) (y2 : Int32) (y3 : Int32) (y4 : Int32) (h0 : Heap) (n0 : Nat) (v : Option Value) (h : Heap) (L : List Loc) : Prop := v = none ∧ Fr n0 L ∧ Keep h0 h [a2_0] ∧ Arv Z h a2_0 ky .int (5 : Int32) [(.int y0), (.int y1), (.int (w2p24_a2_0_2 y2 y4)), (.int y3), (.int (w2p24_a2_0_4 y2 y4))] (.int 0)
set_option maxRecDepth 65536 in
set_option maxHeartbeats 40000000 in
theorem rm2p24 (l : Launch) (Z : State) (a0 : Array Value) (hw : ∀ d ∈ tables_1, d.before a0 Z = true) (ws : List Jvm.Cond) (a2_0 : Addr) (ky : ClassId) (y0 : Int32) (y1 : Int32) (y2 : Int32) (y3 : Int32) (y4 : Int32) (h0 : Heap) (n0 : Nat) (Z0 : n0 ≤ h0.size) (V_a2_0 : Arv Z h0 a2_0 ky .int (5 : Int32) [(.int y0), (.int y1), (.int y2), (.int y3), (.int y4)] (.int 0)) (g_a2_0 : n0 ≤ a2_0) :
    MetFree l (⟨"gallai/service/GraphicalitySlacksPinLaw", "order", "([III)V"⟩ : MethodName) (head1 (Jvm.Cond.code (⟨"gallai/service/GraphicalitySlacksPinLaw", "order", "([III)V"⟩ : MethodName) method_4_code 4 none :: ws) ({ frames := 0, cells := 0, slots := 0, locals := 0 } : Room)) (fun a U => a = #[(.ref a2_0), (.int 2), (.int 4)] ∧ Z.Warmed39 U.vm ∧ U.heap = h0) (fun _ _ _ _ _ => True) (fun _ U o U' => ∃ v L, o = .returned v ∧ Q2p24 Z a2_0 ky y0 y1 y2 y3 y4 h0 n0 v U'.heap L ∧ FrameEnd U o U' L ({ frames := 0, cells := 0, slots := 0, locals := 0 } : Room).cells ({ frames := 0, cells := 0, slots := 0, locals := 0 } : Room).slots) := by
  refine MetFree.of_bodySF (plainFor_of_name pn_gallai_service_GraphicalitySlacksPinLaw) hisR ?_
  intro p e s m args below meth c s₁ Bd hml0 hP hK
  obtain ⟨rfl, hZ, hh⟩ := hP
  have hx := Bd.exec
  have hby := Bd.bytes
  have hlk := Bd.notSynchronized
  have hret := Bd.returns
  have hml : c.maxLocals = 4 := hml0
  have hown : s.vm.findClass "gallai/service/GraphicalitySlacksPinLaw" = some m.cls := findClass_of_methodNamed Bd.named
  have hnm := (name_of_methodNamed Bd.named Bd.method).1
  have X0 : Stand p l e ({ frames := 0, cells := 0, slots := 0, locals := 0 } : Room) s m #[(.ref a2_0), (.int 2), (.int 4)] below meth c s₁ [] 0 0 := Stand.of_body Bd
  have e0 : s₁.heap = h0 := by rw [← hh, Bd.state]; rfl
  have N0 := Fr.nil n0
  have K0 : Keep h0 h0 [a2_0] := Keep.refl _ _
  show own_G p e below s (Q2p24 Z a2_0 ky y0 y1 y2 y3 y4 h0 n0) ({ frames := 0, cells := 0, slots := 0, locals := 0 } : Room).cells ({ frames := 0, cells := 0, slots := 0, locals := 0 } : Room).slots s₁ (entryFrame m #[(.ref a2_0), (.int 2), (.int 4)] 4)
  refine own_cast (ef_2p24 m a2_0) ?_
  refine own_s (g' := (mkF m 1 #[.val (.ref a2_0), .val (.int 2), .val (.int 4), .unset] [(.ref a2_0)])) (fun _ kz => XS.aloadN X0.here hx rfl (hb hby d2_0) rfl rfl kz) ?_
  refine own_s (g' := (mkF m 2 #[.val (.ref a2_0), .val (.int 2), .val (.int 4), .unset] [(.int 2), (.ref a2_0)])) (fun _ kz => XS.iloadN X0.here hx rfl (hb hby d2_1) rfl kz) ?_
  obtain ⟨cl29, Ar29, -, S29, -, H29, -⟩ := id V_a2_0
  have in29 := inb_of S29 (j := (2 : Int32)) ⟨by decide, by decide⟩
  refine own_s (g' := (mkF m 3 #[.val (.ref a2_0), .val (.int 2), .val (.int 4), .unset] [(.int y2)])) (X0.iaload hx (j := (2 : Int32)) (v := (.int y2)) (by rw [e0]; exact Ar29.1) (State.isArrayOf_alike hZ.alike Ar29.2.1) Ar29.2.2 in29 (Has.at H29 in29 rfl) (g := (mkF m 2 #[.val (.ref a2_0), .val (.int 2), .val (.int 4), .unset] [(.int 2), (.ref a2_0)])) rfl rfl (hb hby d2_2)) ?_
  refine own_s (g' := (mkF m 4 #[.val (.ref a2_0), .val (.int 2), .val (.int 4), .unset] [(.ref a2_0), (.int y2)])) (fun _ kz => XS.aloadN X0.here hx rfl (hb hby d2_3) rfl rfl kz) ?_
  refine own_s (g' := (mkF m 5 #[.val (.ref a2_0), .val (.int 2), .val (.int 4), .unset] [(.int 4), (.ref a2_0), (.int y2)])) (fun _ kz => XS.iloadN X0.here hx rfl (hb hby d2_4) rfl kz) ?_
  obtain ⟨cl30, Ar30, -, S30, -, H30, -⟩ := id V_a2_0
  have in30 := inb_of S30 (j := (4 : Int32)) ⟨by decide, by decide⟩
  refine own_s (g' := (mkF m 6 #[.val (.ref a2_0), .val (.int 2), .val (.int 4), .unset] [(.int y4), (.int y2)])) (X0.iaload hx (j := (4 : Int32)) (v := (.int y4)) (by rw [e0]; exact Ar30.1) (State.isArrayOf_alike hZ.alike Ar30.2.1) Ar30.2.2 in30 (Has.at H30 in30 rfl) (g := (mkF m 5 #[.val (.ref a2_0), .val (.int 2), .val (.int 4), .unset] [(.int 4), (.ref a2_0), (.int y2)])) rfl rfl (hb hby d2_5)) ?_
  by_cases c31 : y2 < y4
  ·skip
   refine own_s (g' := (mkF m 9 #[.val (.ref a2_0), .val (.int 2), .val (.int 4), .unset] [])) (fun _ kz => XS.icmpNo X0.here hx rfl (hb hby d2_6) rfl (tlt c31).2.1 kz) ?_
   refine own_s (g' := (mkF m 10 #[.val (.ref a2_0), .val (.int 2), .val (.int 4), .unset] [(.ref a2_0)])) (fun _ kz => XS.aloadN X0.here hx rfl (hb hby d2_9) rfl rfl kz) ?_
   refine own_s (g' := (mkF m 11 #[.val (.ref a2_0), .val (.int 2), .val (.int 4), .unset] [(.int 2), (.ref a2_0)])) (fun _ kz => XS.iloadN X0.here hx rfl (hb hby d2_10) rfl kz) ?_
   obtain ⟨cl32, Ar32, -, S32, -, H32, -⟩ := id V_a2_0
   have in32 := inb_of S32 (j := (2 : Int32)) ⟨by decide, by decide⟩
   refine own_s (g' := (mkF m 12 #[.val (.ref a2_0), .val (.int 2), .val (.int 4), .unset] [(.int y2)])) (X0.iaload hx (j := (2 : Int32)) (v := (.int y2)) (by rw [e0]; exact Ar32.1) (State.isArrayOf_alike hZ.alike Ar32.2.1) Ar32.2.2 in32 (Has.at H32 in32 rfl) (g := (mkF m 11 #[.val (.ref a2_0), .val (.int 2), .val (.int 4), .unset] [(.int 2), (.ref a2_0)])) rfl rfl (hb hby d2_11)) ?_
   refine own_s (g' := (mkF m 13 #[.val (.ref a2_0), .val (.int 2), .val (.int 4), .val (.int y2)] [])) (fun _ kz => XS.istoreN X0.here hx rfl (hb hby d2_12) rfl (l' := #[.val (.ref a2_0), .val (.int 2), .val (.int 4), .val (.int y2)]) rfl kz) ?_
   refine own_s (g' := (mkF m 14 #[.val (.ref a2_0), .val (.int 2), .val (.int 4), .val (.int y2)] [(.ref a2_0)])) (fun _ kz => XS.aloadN X0.here hx rfl (hb hby d2_13) rfl rfl kz) ?_
   refine own_s (g' := (mkF m 15 #[.val (.ref a2_0), .val (.int 2), .val (.int 4), .val (.int y2)] [(.int 2), (.ref a2_0)])) (fun _ kz => XS.iloadN X0.here hx rfl (hb hby d2_14) rfl kz) ?_
   refine own_s (g' := (mkF m 16 #[.val (.ref a2_0), .val (.int 2), .val (.int 4), .val (.int y2)] [(.ref a2_0), (.int 2), (.ref a2_0)])) (fun _ kz => XS.aloadN X0.here hx rfl (hb hby d2_15) rfl rfl kz) ?_
   refine own_s (g' := (mkF m 17 #[.val (.ref a2_0), .val (.int 2), .val (.int 4), .val (.int y2)] [(.int 4), (.ref a2_0), (.int 2), (.ref a2_0)])) (fun _ kz => XS.iloadN X0.here hx rfl (hb hby d2_16) rfl kz) ?_
   obtain ⟨cl33, Ar33, -, S33, -, H33, -⟩ := id V_a2_0
   have in33 := inb_of S33 (j := (4 : Int32)) ⟨by decide, by decide⟩
   refine own_s (g' := (mkF m 18 #[.val (.ref a2_0), .val (.int 2), .val (.int 4), .val (.int y2)] [(.int y4), (.int 2), (.ref a2_0)])) (X0.iaload hx (j := (4 : Int32)) (v := (.int y4)) (by rw [e0]; exact Ar33.1) (State.isArrayOf_alike hZ.alike Ar33.2.1) Ar33.2.2 in33 (Has.at H33 in33 rfl) (g := (mkF m 17 #[.val (.ref a2_0), .val (.int 2), .val (.int 4), .val (.int y2)] [(.int 4), (.ref a2_0), (.int 2), (.ref a2_0)])) rfl rfl (hb hby d2_17)) ?_
   obtain ⟨cl34, Ar34, q34, S34, M34, H34, G34⟩ := id V_a2_0
   obtain ⟨T34, h34, X34, e34, W34, st34⟩ := stI X0 hx hZ e0 Ar34 (j := (2 : Int32)) (inb_of S34 ⟨by decide, by decide⟩) (g := (mkF m 18 #[.val (.ref a2_0), .val (.int 2), .val (.int 4), .val (.int y2)] [(.int y4), (.int 2), (.ref a2_0)])) rfl rfl (hb hby d2_18)
   have f35 : Arv Z h34 a2_0 ky .int (5 : Int32) [(.int y0), (.int y1), (.int y4), (.int y3), (.int y4)] (.int 0) := Arv.set Ar34 q34 S34 M34 H34 G34 rfl W34 2 rfl (Nat.le_of_ble_eq_true rfl)
   have K34 := K0.wr W34 (Or.inl (List.mem_of_getElem? (i := 0) rfl))
   have N34 := Fr.snoc X34 N0 g_a2_0
   refine own_s (g' := (mkF m 19 #[.val (.ref a2_0), .val (.int 2), .val (.int 4), .val (.int y2)] [])) st34 ?_
   refine own_s (g' := (mkF m 20 #[.val (.ref a2_0), .val (.int 2), .val (.int 4), .val (.int y2)] [(.ref a2_0)])) (fun _ kz => XS.aloadN X34.here hx rfl (hb hby d2_19) rfl rfl kz) ?_
   refine own_s (g' := (mkF m 21 #[.val (.ref a2_0), .val (.int 2), .val (.int 4), .val (.int y2)] [(.int 4), (.ref a2_0)])) (fun _ kz => XS.iloadN X34.here hx rfl (hb hby d2_20) rfl kz) ?_
   refine own_s (g' := (mkF m 22 #[.val (.ref a2_0), .val (.int 2), .val (.int 4), .val (.int y2)] [(.int y2), (.int 4), (.ref a2_0)])) (fun _ kz => XS.iloadN X34.here hx rfl (hb hby d2_21) rfl kz) ?_
   obtain ⟨cl36, Ar36, q36, S36, M36, H36, G36⟩ := id f35
   obtain ⟨T36, h36, X36, e36, W36, st36⟩ := stI X34 hx hZ e34 Ar36 (j := (4 : Int32)) (inb_of S36 ⟨by decide, by decide⟩) (g := (mkF m 22 #[.val (.ref a2_0), .val (.int 2), .val (.int 4), .val (.int y2)] [(.int y2), (.int 4), (.ref a2_0)])) rfl rfl (hb hby d2_22)
   have f37 : Arv Z h36 a2_0 ky .int (5 : Int32) [(.int y0), (.int y1), (.int y4), (.int y3), (.int y2)] (.int 0) := Arv.set Ar36 q36 S36 M36 H36 G36 rfl W36 4 rfl (Nat.le_of_ble_eq_true rfl)
   have K36 := K34.wr W36 (Or.inl (List.mem_of_getElem? (i := 0) rfl))
   have N36 := Fr.snoc X36 N34 g_a2_0
   refine own_s (g' := (mkF m 23 #[.val (.ref a2_0), .val (.int 2), .val (.int 4), .val (.int y2)] [])) st36 ?_
   refine own_retV X36 hx hlk hret (hb hby d2_23) (by decide) (by decide) ?_
   show Q2p24 Z a2_0 ky y0 y1 y2 y3 y4 h0 n0 _ T36.heap _
   rw [e36]
   exact ⟨rfl, N36, K36, (by rw [show (w2p24_a2_0_2 y2 y4) = y4 from (if_pos c31), show (w2p24_a2_0_4 y2 y4) = y2 from (if_pos c31)]; exact f37)⟩
  ·skip
   refine own_s (g' := (mkF m 23 #[.val (.ref a2_0), .val (.int 2), .val (.int 4), .unset] [])) (fun _ kz => XS.icmpYes X0.here hx rfl (pc0 := 6) (pc' := 23) rfl (hb hby d2_6) rfl (flt c31).2.1 (by decide) (by decide) kz) ?_
   refine own_retV X0 hx hlk hret (hb hby d2_23) (by decide) (by decide) ?_
   show Q2p24 Z a2_0 ky y0 y1 y2 y3 y4 h0 n0 _ s₁.heap _
   rw [e0]
   exact ⟨rfl, N0, K0, (by rw [show (w2p24_a2_0_2 y2 y4) = y2 from (if_neg c31), show (w2p24_a2_0_4 y2 y4) = y4 from (if_neg c31)]; exact V_a2_0)⟩
theorem ef_2p23 (m : MethodId) (a2_0 : Addr) : entryFrame m #[(.ref a2_0), (.int 2), (.int 3)] 4 = mkF m 0 #[.val (.ref a2_0), .val (.int 2), .val (.int 3), .unset] [] := by first | (simp [entryFrame, mkF, argsToLocals, Value.category]; done) | rfl
def w2p23_a2_0_2 (y2 : Int32) (y3 : Int32) : Int32 := (if y2 < y3 then y3 else y2)
def w2p23_a2_0_3 (y2 : Int32) (y3 : Int32) : Int32 := (if y2 < y3 then y2 else y3)
def Q2p23 (Z : State) (a2_0 : Addr) (ky : ClassId) (y0 : Int32) (y1 : Int32) (y2 : Int32) (y3 : Int32) (y4 : Int32) (h0 : Heap) (n0 : Nat) (v : Option Value) (h : Heap) (L : List Loc) : Prop := v = none ∧ Fr n0 L ∧ Keep h0 h [a2_0] ∧ Arv Z h a2_0 ky .int (5 : Int32) [(.int y0), (.int y1), (.int (w2p23_a2_0_2 y2 y3)), (.int (w2p23_a2_0_3 y2 y3)), (.int y4)] (.int 0)
set_option maxRecDepth 65536 in
set_option maxHeartbeats 40000000 in
theorem rm2p23 (l : Launch) (Z : State) (a0 : Array Value) (hw : ∀ d ∈ tables_1, d.before a0 Z = true) (ws : List Jvm.Cond) (a2_0 : Addr) (ky : ClassId) (y0 : Int32) (y1 : Int32) (y2 : Int32) (y3 : Int32) (y4 : Int32) (h0 : Heap) (n0 : Nat) (Z0 : n0 ≤ h0.size) (V_a2_0 : Arv Z h0 a2_0 ky .int (5 : Int32) [(.int y0), (.int y1), (.int y2), (.int y3), (.int y4)] (.int 0)) (g_a2_0 : n0 ≤ a2_0) :
    MetFree l (⟨"gallai/service/GraphicalitySlacksPinLaw", "order", "([III)V"⟩ : MethodName) (head1 (Jvm.Cond.code (⟨"gallai/service/GraphicalitySlacksPinLaw", "order", "([III)V"⟩ : MethodName) method_4_code 4 none :: ws) ({ frames := 0, cells := 0, slots := 0, locals := 0 } : Room)) (fun a U => a = #[(.ref a2_0), (.int 2), (.int 3)] ∧ Z.Warmed39 U.vm ∧ U.heap = h0) (fun _ _ _ _ _ => True) (fun _ U o U' => ∃ v L, o = .returned v ∧ Q2p23 Z a2_0 ky y0 y1 y2 y3 y4 h0 n0 v U'.heap L ∧ FrameEnd U o U' L ({ frames := 0, cells := 0, slots := 0, locals := 0 } : Room).cells ({ frames := 0, cells := 0, slots := 0, locals := 0 } : Room).slots) := by
  refine MetFree.of_bodySF (plainFor_of_name pn_gallai_service_GraphicalitySlacksPinLaw) hisR ?_
  intro p e s m args below meth c s₁ Bd hml0 hP hK
  obtain ⟨rfl, hZ, hh⟩ := hP
  have hx := Bd.exec
  have hby := Bd.bytes
  have hlk := Bd.notSynchronized
  have hret := Bd.returns
  have hml : c.maxLocals = 4 := hml0
  have hown : s.vm.findClass "gallai/service/GraphicalitySlacksPinLaw" = some m.cls := findClass_of_methodNamed Bd.named
  have hnm := (name_of_methodNamed Bd.named Bd.method).1
  have X0 : Stand p l e ({ frames := 0, cells := 0, slots := 0, locals := 0 } : Room) s m #[(.ref a2_0), (.int 2), (.int 3)] below meth c s₁ [] 0 0 := Stand.of_body Bd
  have e0 : s₁.heap = h0 := by rw [← hh, Bd.state]; rfl
  have N0 := Fr.nil n0
  have K0 : Keep h0 h0 [a2_0] := Keep.refl _ _
  show own_G p e below s (Q2p23 Z a2_0 ky y0 y1 y2 y3 y4 h0 n0) ({ frames := 0, cells := 0, slots := 0, locals := 0 } : Room).cells ({ frames := 0, cells := 0, slots := 0, locals := 0 } : Room).slots s₁ (entryFrame m #[(.ref a2_0), (.int 2), (.int 3)] 4)
  refine own_cast (ef_2p23 m a2_0) ?_
  refine own_s (g' := (mkF m 1 #[.val (.ref a2_0), .val (.int 2), .val (.int 3), .unset] [(.ref a2_0)])) (fun _ kz => XS.aloadN X0.here hx rfl (hb hby d2_0) rfl rfl kz) ?_
  refine own_s (g' := (mkF m 2 #[.val (.ref a2_0), .val (.int 2), .val (.int 3), .unset] [(.int 2), (.ref a2_0)])) (fun _ kz => XS.iloadN X0.here hx rfl (hb hby d2_1) rfl kz) ?_
  obtain ⟨cl38, Ar38, -, S38, -, H38, -⟩ := id V_a2_0
  have in38 := inb_of S38 (j := (2 : Int32)) ⟨by decide, by decide⟩
  refine own_s (g' := (mkF m 3 #[.val (.ref a2_0), .val (.int 2), .val (.int 3), .unset] [(.int y2)])) (X0.iaload hx (j := (2 : Int32)) (v := (.int y2)) (by rw [e0]; exact Ar38.1) (State.isArrayOf_alike hZ.alike Ar38.2.1) Ar38.2.2 in38 (Has.at H38 in38 rfl) (g := (mkF m 2 #[.val (.ref a2_0), .val (.int 2), .val (.int 3), .unset] [(.int 2), (.ref a2_0)])) rfl rfl (hb hby d2_2)) ?_
  refine own_s (g' := (mkF m 4 #[.val (.ref a2_0), .val (.int 2), .val (.int 3), .unset] [(.ref a2_0), (.int y2)])) (fun _ kz => XS.aloadN X0.here hx rfl (hb hby d2_3) rfl rfl kz) ?_
  refine own_s (g' := (mkF m 5 #[.val (.ref a2_0), .val (.int 2), .val (.int 3), .unset] [(.int 3), (.ref a2_0), (.int y2)])) (fun _ kz => XS.iloadN X0.here hx rfl (hb hby d2_4) rfl kz) ?_
  obtain ⟨cl39, Ar39, -, S39, -, H39, -⟩ := id V_a2_0
  have in39 := inb_of S39 (j := (3 : Int32)) ⟨by decide, by decide⟩
  refine own_s (g' := (mkF m 6 #[.val (.ref a2_0), .val (.int 2), .val (.int 3), .unset] [(.int y3), (.int y2)])) (X0.iaload hx (j := (3 : Int32)) (v := (.int y3)) (by rw [e0]; exact Ar39.1) (State.isArrayOf_alike hZ.alike Ar39.2.1) Ar39.2.2 in39 (Has.at H39 in39 rfl) (g := (mkF m 5 #[.val (.ref a2_0), .val (.int 2), .val (.int 3), .unset] [(.int 3), (.ref a2_0), (.int y2)])) rfl rfl (hb hby d2_5)) ?_
  by_cases c40 : y2 < y3
  ·skip
   refine own_s (g' := (mkF m 9 #[.val (.ref a2_0), .val (.int 2), .val (.int 3), .unset] [])) (fun _ kz => XS.icmpNo X0.here hx rfl (hb hby d2_6) rfl (tlt c40).2.1 kz) ?_
   refine own_s (g' := (mkF m 10 #[.val (.ref a2_0), .val (.int 2), .val (.int 3), .unset] [(.ref a2_0)])) (fun _ kz => XS.aloadN X0.here hx rfl (hb hby d2_9) rfl rfl kz) ?_
   refine own_s (g' := (mkF m 11 #[.val (.ref a2_0), .val (.int 2), .val (.int 3), .unset] [(.int 2), (.ref a2_0)])) (fun _ kz => XS.iloadN X0.here hx rfl (hb hby d2_10) rfl kz) ?_
   obtain ⟨cl41, Ar41, -, S41, -, H41, -⟩ := id V_a2_0
   have in41 := inb_of S41 (j := (2 : Int32)) ⟨by decide, by decide⟩
   refine own_s (g' := (mkF m 12 #[.val (.ref a2_0), .val (.int 2), .val (.int 3), .unset] [(.int y2)])) (X0.iaload hx (j := (2 : Int32)) (v := (.int y2)) (by rw [e0]; exact Ar41.1) (State.isArrayOf_alike hZ.alike Ar41.2.1) Ar41.2.2 in41 (Has.at H41 in41 rfl) (g := (mkF m 11 #[.val (.ref a2_0), .val (.int 2), .val (.int 3), .unset] [(.int 2), (.ref a2_0)])) rfl rfl (hb hby d2_11)) ?_
   refine own_s (g' := (mkF m 13 #[.val (.ref a2_0), .val (.int 2), .val (.int 3), .val (.int y2)] [])) (fun _ kz => XS.istoreN X0.here hx rfl (hb hby d2_12) rfl (l' := #[.val (.ref a2_0), .val (.int 2), .val (.int 3), .val (.int y2)]) rfl kz) ?_
   refine own_s (g' := (mkF m 14 #[.val (.ref a2_0), .val (.int 2), .val (.int 3), .val (.int y2)] [(.ref a2_0)])) (fun _ kz => XS.aloadN X0.here hx rfl (hb hby d2_13) rfl rfl kz) ?_
   refine own_s (g' := (mkF m 15 #[.val (.ref a2_0), .val (.int 2), .val (.int 3), .val (.int y2)] [(.int 2), (.ref a2_0)])) (fun _ kz => XS.iloadN X0.here hx rfl (hb hby d2_14) rfl kz) ?_
   refine own_s (g' := (mkF m 16 #[.val (.ref a2_0), .val (.int 2), .val (.int 3), .val (.int y2)] [(.ref a2_0), (.int 2), (.ref a2_0)])) (fun _ kz => XS.aloadN X0.here hx rfl (hb hby d2_15) rfl rfl kz) ?_
   refine own_s (g' := (mkF m 17 #[.val (.ref a2_0), .val (.int 2), .val (.int 3), .val (.int y2)] [(.int 3), (.ref a2_0), (.int 2), (.ref a2_0)])) (fun _ kz => XS.iloadN X0.here hx rfl (hb hby d2_16) rfl kz) ?_
   obtain ⟨cl42, Ar42, -, S42, -, H42, -⟩ := id V_a2_0
   have in42 := inb_of S42 (j := (3 : Int32)) ⟨by decide, by decide⟩
   refine own_s (g' := (mkF m 18 #[.val (.ref a2_0), .val (.int 2), .val (.int 3), .val (.int y2)] [(.int y3), (.int 2), (.ref a2_0)])) (X0.iaload hx (j := (3 : Int32)) (v := (.int y3)) (by rw [e0]; exact Ar42.1) (State.isArrayOf_alike hZ.alike Ar42.2.1) Ar42.2.2 in42 (Has.at H42 in42 rfl) (g := (mkF m 17 #[.val (.ref a2_0), .val (.int 2), .val (.int 3), .val (.int y2)] [(.int 3), (.ref a2_0), (.int 2), (.ref a2_0)])) rfl rfl (hb hby d2_17)) ?_
   obtain ⟨cl43, Ar43, q43, S43, M43, H43, G43⟩ := id V_a2_0
   obtain ⟨T43, h43, X43, e43, W43, st43⟩ := stI X0 hx hZ e0 Ar43 (j := (2 : Int32)) (inb_of S43 ⟨by decide, by decide⟩) (g := (mkF m 18 #[.val (.ref a2_0), .val (.int 2), .val (.int 3), .val (.int y2)] [(.int y3), (.int 2), (.ref a2_0)])) rfl rfl (hb hby d2_18)
   have f44 : Arv Z h43 a2_0 ky .int (5 : Int32) [(.int y0), (.int y1), (.int y3), (.int y3), (.int y4)] (.int 0) := Arv.set Ar43 q43 S43 M43 H43 G43 rfl W43 2 rfl (Nat.le_of_ble_eq_true rfl)
   have K43 := K0.wr W43 (Or.inl (List.mem_of_getElem? (i := 0) rfl))
   have N43 := Fr.snoc X43 N0 g_a2_0
   refine own_s (g' := (mkF m 19 #[.val (.ref a2_0), .val (.int 2), .val (.int 3), .val (.int y2)] [])) st43 ?_
   refine own_s (g' := (mkF m 20 #[.val (.ref a2_0), .val (.int 2), .val (.int 3), .val (.int y2)] [(.ref a2_0)])) (fun _ kz => XS.aloadN X43.here hx rfl (hb hby d2_19) rfl rfl kz) ?_
   refine own_s (g' := (mkF m 21 #[.val (.ref a2_0), .val (.int 2), .val (.int 3), .val (.int y2)] [(.int 3), (.ref a2_0)])) (fun _ kz => XS.iloadN X43.here hx rfl (hb hby d2_20) rfl kz) ?_
   refine own_s (g' := (mkF m 22 #[.val (.ref a2_0), .val (.int 2), .val (.int 3), .val (.int y2)] [(.int y2), (.int 3), (.ref a2_0)])) (fun _ kz => XS.iloadN X43.here hx rfl (hb hby d2_21) rfl kz) ?_
   obtain ⟨cl45, Ar45, q45, S45, M45, H45, G45⟩ := id f44
   obtain ⟨T45, h45, X45, e45, W45, st45⟩ := stI X43 hx hZ e43 Ar45 (j := (3 : Int32)) (inb_of S45 ⟨by decide, by decide⟩) (g := (mkF m 22 #[.val (.ref a2_0), .val (.int 2), .val (.int 3), .val (.int y2)] [(.int y2), (.int 3), (.ref a2_0)])) rfl rfl (hb hby d2_22)
   have f46 : Arv Z h45 a2_0 ky .int (5 : Int32) [(.int y0), (.int y1), (.int y3), (.int y2), (.int y4)] (.int 0) := Arv.set Ar45 q45 S45 M45 H45 G45 rfl W45 3 rfl (Nat.le_of_ble_eq_true rfl)
   have K45 := K43.wr W45 (Or.inl (List.mem_of_getElem? (i := 0) rfl))
   have N45 := Fr.snoc X45 N43 g_a2_0
   refine own_s (g' := (mkF m 23 #[.val (.ref a2_0), .val (.int 2), .val (.int 3), .val (.int y2)] [])) st45 ?_
   refine own_retV X45 hx hlk hret (hb hby d2_23) (by decide) (by decide) ?_
   show Q2p23 Z a2_0 ky y0 y1 y2 y3 y4 h0 n0 _ T45.heap _
   rw [e45]
   exact ⟨rfl, N45, K45, (by rw [show (w2p23_a2_0_2 y2 y3) = y3 from (if_pos c40), show (w2p23_a2_0_3 y2 y3) = y2 from (if_pos c40)]; exact f46)⟩
  ·skip
   refine own_s (g' := (mkF m 23 #[.val (.ref a2_0), .val (.int 2), .val (.int 3), .unset] [])) (fun _ kz => XS.icmpYes X0.here hx rfl (pc0 := 6) (pc' := 23) rfl (hb hby d2_6) rfl (flt c40).2.1 (by decide) (by decide) kz) ?_
   refine own_retV X0 hx hlk hret (hb hby d2_23) (by decide) (by decide) ?_
   show Q2p23 Z a2_0 ky y0 y1 y2 y3 y4 h0 n0 _ s₁.heap _
   rw [e0]
   exact ⟨rfl, N0, K0, (by rw [show (w2p23_a2_0_2 y2 y3) = y2 from (if_neg c40), show (w2p23_a2_0_3 y2 y3) = y3 from (if_neg c40)]; exact V_a2_0)⟩
theorem ef_2p14 (m : MethodId) (a2_0 : Addr) : entryFrame m #[(.ref a2_0), (.int 1), (.int 4)] 4 = mkF m 0 #[.val (.ref a2_0), .val (.int 1), .val (.int 4), .unset] [] := by first | (simp [entryFrame, mkF, argsToLocals, Value.category]; done) | rfl
def w2p14_a2_0_1 (y1 : Int32) (y4 : Int32) : Int32 := (if y1 < y4 then y4 else y1)
def w2p14_a2_0_4 (y1 : Int32) (y4 : Int32) : Int32 := (if y1 < y4 then y1 else y4)
def Q2p14 (Z : State) (a2_0 : Addr) (ky : ClassId) (y0 : Int32) (y1 : Int32) (y2 : Int32) (y3 : Int32) (y4 : Int32) (h0 : Heap) (n0 : Nat) (v : Option Value) (h : Heap) (L : List Loc) : Prop := v = none ∧ Fr n0 L ∧ Keep h0 h [a2_0] ∧ Arv Z h a2_0 ky .int (5 : Int32) [(.int y0), (.int (w2p14_a2_0_1 y1 y4)), (.int y2), (.int y3), (.int (w2p14_a2_0_4 y1 y4))] (.int 0)
set_option maxRecDepth 65536 in
set_option maxHeartbeats 40000000 in
theorem rm2p14 (l : Launch) (Z : State) (a0 : Array Value) (hw : ∀ d ∈ tables_1, d.before a0 Z = true) (ws : List Jvm.Cond) (a2_0 : Addr) (ky : ClassId) (y0 : Int32) (y1 : Int32) (y2 : Int32) (y3 : Int32) (y4 : Int32) (h0 : Heap) (n0 : Nat) (Z0 : n0 ≤ h0.size) (V_a2_0 : Arv Z h0 a2_0 ky .int (5 : Int32) [(.int y0), (.int y1), (.int y2), (.int y3), (.int y4)] (.int 0)) (g_a2_0 : n0 ≤ a2_0) :
    MetFree l (⟨"gallai/service/GraphicalitySlacksPinLaw", "order", "([III)V"⟩ : MethodName) (head1 (Jvm.Cond.code (⟨"gallai/service/GraphicalitySlacksPinLaw", "order", "([III)V"⟩ : MethodName) method_4_code 4 none :: ws) ({ frames := 0, cells := 0, slots := 0, locals := 0 } : Room)) (fun a U => a = #[(.ref a2_0), (.int 1), (.int 4)] ∧ Z.Warmed39 U.vm ∧ U.heap = h0) (fun _ _ _ _ _ => True) (fun _ U o U' => ∃ v L, o = .returned v ∧ Q2p14 Z a2_0 ky y0 y1 y2 y3 y4 h0 n0 v U'.heap L ∧ FrameEnd U o U' L ({ frames := 0, cells := 0, slots := 0, locals := 0 } : Room).cells ({ frames := 0, cells := 0, slots := 0, locals := 0 } : Room).slots) := by
  refine MetFree.of_bodySF (plainFor_of_name pn_gallai_service_GraphicalitySlacksPinLaw) hisR ?_
  intro p e s m args below meth c s₁ Bd hml0 hP hK
  obtain ⟨rfl, hZ, hh⟩ := hP
  have hx := Bd.exec
  have hby := Bd.bytes
  have hlk := Bd.notSynchronized
  have hret := Bd.returns
  have hml : c.maxLocals = 4 := hml0
  have hown : s.vm.findClass "gallai/service/GraphicalitySlacksPinLaw" = some m.cls := findClass_of_methodNamed Bd.named
  have hnm := (name_of_methodNamed Bd.named Bd.method).1
  have X0 : Stand p l e ({ frames := 0, cells := 0, slots := 0, locals := 0 } : Room) s m #[(.ref a2_0), (.int 1), (.int 4)] below meth c s₁ [] 0 0 := Stand.of_body Bd
  have e0 : s₁.heap = h0 := by rw [← hh, Bd.state]; rfl
  have N0 := Fr.nil n0
  have K0 : Keep h0 h0 [a2_0] := Keep.refl _ _
  show own_G p e below s (Q2p14 Z a2_0 ky y0 y1 y2 y3 y4 h0 n0) ({ frames := 0, cells := 0, slots := 0, locals := 0 } : Room).cells ({ frames := 0, cells := 0, slots := 0, locals := 0 } : Room).slots s₁ (entryFrame m #[(.ref a2_0), (.int 1), (.int 4)] 4)
  refine own_cast (ef_2p14 m a2_0) ?_
  refine own_s (g' := (mkF m 1 #[.val (.ref a2_0), .val (.int 1), .val (.int 4), .unset] [(.ref a2_0)])) (fun _ kz => XS.aloadN X0.here hx rfl (hb hby d2_0) rfl rfl kz) ?_
  refine own_s (g' := (mkF m 2 #[.val (.ref a2_0), .val (.int 1), .val (.int 4), .unset] [(.int 1), (.ref a2_0)])) (fun _ kz => XS.iloadN X0.here hx rfl (hb hby d2_1) rfl kz) ?_
  obtain ⟨cl47, Ar47, -, S47, -, H47, -⟩ := id V_a2_0
  have in47 := inb_of S47 (j := (1 : Int32)) ⟨by decide, by decide⟩
  refine own_s (g' := (mkF m 3 #[.val (.ref a2_0), .val (.int 1), .val (.int 4), .unset] [(.int y1)])) (X0.iaload hx (j := (1 : Int32)) (v := (.int y1)) (by rw [e0]; exact Ar47.1) (State.isArrayOf_alike hZ.alike Ar47.2.1) Ar47.2.2 in47 (Has.at H47 in47 rfl) (g := (mkF m 2 #[.val (.ref a2_0), .val (.int 1), .val (.int 4), .unset] [(.int 1), (.ref a2_0)])) rfl rfl (hb hby d2_2)) ?_
  refine own_s (g' := (mkF m 4 #[.val (.ref a2_0), .val (.int 1), .val (.int 4), .unset] [(.ref a2_0), (.int y1)])) (fun _ kz => XS.aloadN X0.here hx rfl (hb hby d2_3) rfl rfl kz) ?_
  refine own_s (g' := (mkF m 5 #[.val (.ref a2_0), .val (.int 1), .val (.int 4), .unset] [(.int 4), (.ref a2_0), (.int y1)])) (fun _ kz => XS.iloadN X0.here hx rfl (hb hby d2_4) rfl kz) ?_
  obtain ⟨cl48, Ar48, -, S48, -, H48, -⟩ := id V_a2_0
  have in48 := inb_of S48 (j := (4 : Int32)) ⟨by decide, by decide⟩
  refine own_s (g' := (mkF m 6 #[.val (.ref a2_0), .val (.int 1), .val (.int 4), .unset] [(.int y4), (.int y1)])) (X0.iaload hx (j := (4 : Int32)) (v := (.int y4)) (by rw [e0]; exact Ar48.1) (State.isArrayOf_alike hZ.alike Ar48.2.1) Ar48.2.2 in48 (Has.at H48 in48 rfl) (g := (mkF m 5 #[.val (.ref a2_0), .val (.int 1), .val (.int 4), .unset] [(.int 4), (.ref a2_0), (.int y1)])) rfl rfl (hb hby d2_5)) ?_
  by_cases c49 : y1 < y4
  ·skip
   refine own_s (g' := (mkF m 9 #[.val (.ref a2_0), .val (.int 1), .val (.int 4), .unset] [])) (fun _ kz => XS.icmpNo X0.here hx rfl (hb hby d2_6) rfl (tlt c49).2.1 kz) ?_
   refine own_s (g' := (mkF m 10 #[.val (.ref a2_0), .val (.int 1), .val (.int 4), .unset] [(.ref a2_0)])) (fun _ kz => XS.aloadN X0.here hx rfl (hb hby d2_9) rfl rfl kz) ?_
   refine own_s (g' := (mkF m 11 #[.val (.ref a2_0), .val (.int 1), .val (.int 4), .unset] [(.int 1), (.ref a2_0)])) (fun _ kz => XS.iloadN X0.here hx rfl (hb hby d2_10) rfl kz) ?_
   obtain ⟨cl50, Ar50, -, S50, -, H50, -⟩ := id V_a2_0
   have in50 := inb_of S50 (j := (1 : Int32)) ⟨by decide, by decide⟩
   refine own_s (g' := (mkF m 12 #[.val (.ref a2_0), .val (.int 1), .val (.int 4), .unset] [(.int y1)])) (X0.iaload hx (j := (1 : Int32)) (v := (.int y1)) (by rw [e0]; exact Ar50.1) (State.isArrayOf_alike hZ.alike Ar50.2.1) Ar50.2.2 in50 (Has.at H50 in50 rfl) (g := (mkF m 11 #[.val (.ref a2_0), .val (.int 1), .val (.int 4), .unset] [(.int 1), (.ref a2_0)])) rfl rfl (hb hby d2_11)) ?_
   refine own_s (g' := (mkF m 13 #[.val (.ref a2_0), .val (.int 1), .val (.int 4), .val (.int y1)] [])) (fun _ kz => XS.istoreN X0.here hx rfl (hb hby d2_12) rfl (l' := #[.val (.ref a2_0), .val (.int 1), .val (.int 4), .val (.int y1)]) rfl kz) ?_
   refine own_s (g' := (mkF m 14 #[.val (.ref a2_0), .val (.int 1), .val (.int 4), .val (.int y1)] [(.ref a2_0)])) (fun _ kz => XS.aloadN X0.here hx rfl (hb hby d2_13) rfl rfl kz) ?_
   refine own_s (g' := (mkF m 15 #[.val (.ref a2_0), .val (.int 1), .val (.int 4), .val (.int y1)] [(.int 1), (.ref a2_0)])) (fun _ kz => XS.iloadN X0.here hx rfl (hb hby d2_14) rfl kz) ?_
   refine own_s (g' := (mkF m 16 #[.val (.ref a2_0), .val (.int 1), .val (.int 4), .val (.int y1)] [(.ref a2_0), (.int 1), (.ref a2_0)])) (fun _ kz => XS.aloadN X0.here hx rfl (hb hby d2_15) rfl rfl kz) ?_
   refine own_s (g' := (mkF m 17 #[.val (.ref a2_0), .val (.int 1), .val (.int 4), .val (.int y1)] [(.int 4), (.ref a2_0), (.int 1), (.ref a2_0)])) (fun _ kz => XS.iloadN X0.here hx rfl (hb hby d2_16) rfl kz) ?_
   obtain ⟨cl51, Ar51, -, S51, -, H51, -⟩ := id V_a2_0
   have in51 := inb_of S51 (j := (4 : Int32)) ⟨by decide, by decide⟩
   refine own_s (g' := (mkF m 18 #[.val (.ref a2_0), .val (.int 1), .val (.int 4), .val (.int y1)] [(.int y4), (.int 1), (.ref a2_0)])) (X0.iaload hx (j := (4 : Int32)) (v := (.int y4)) (by rw [e0]; exact Ar51.1) (State.isArrayOf_alike hZ.alike Ar51.2.1) Ar51.2.2 in51 (Has.at H51 in51 rfl) (g := (mkF m 17 #[.val (.ref a2_0), .val (.int 1), .val (.int 4), .val (.int y1)] [(.int 4), (.ref a2_0), (.int 1), (.ref a2_0)])) rfl rfl (hb hby d2_17)) ?_
   obtain ⟨cl52, Ar52, q52, S52, M52, H52, G52⟩ := id V_a2_0
   obtain ⟨T52, h52, X52, e52, W52, st52⟩ := stI X0 hx hZ e0 Ar52 (j := (1 : Int32)) (inb_of S52 ⟨by decide, by decide⟩) (g := (mkF m 18 #[.val (.ref a2_0), .val (.int 1), .val (.int 4), .val (.int y1)] [(.int y4), (.int 1), (.ref a2_0)])) rfl rfl (hb hby d2_18)
   have f53 : Arv Z h52 a2_0 ky .int (5 : Int32) [(.int y0), (.int y4), (.int y2), (.int y3), (.int y4)] (.int 0) := Arv.set Ar52 q52 S52 M52 H52 G52 rfl W52 1 rfl (Nat.le_of_ble_eq_true rfl)
   have K52 := K0.wr W52 (Or.inl (List.mem_of_getElem? (i := 0) rfl))
   have N52 := Fr.snoc X52 N0 g_a2_0
   refine own_s (g' := (mkF m 19 #[.val (.ref a2_0), .val (.int 1), .val (.int 4), .val (.int y1)] [])) st52 ?_
   refine own_s (g' := (mkF m 20 #[.val (.ref a2_0), .val (.int 1), .val (.int 4), .val (.int y1)] [(.ref a2_0)])) (fun _ kz => XS.aloadN X52.here hx rfl (hb hby d2_19) rfl rfl kz) ?_
   refine own_s (g' := (mkF m 21 #[.val (.ref a2_0), .val (.int 1), .val (.int 4), .val (.int y1)] [(.int 4), (.ref a2_0)])) (fun _ kz => XS.iloadN X52.here hx rfl (hb hby d2_20) rfl kz) ?_
   refine own_s (g' := (mkF m 22 #[.val (.ref a2_0), .val (.int 1), .val (.int 4), .val (.int y1)] [(.int y1), (.int 4), (.ref a2_0)])) (fun _ kz => XS.iloadN X52.here hx rfl (hb hby d2_21) rfl kz) ?_
   obtain ⟨cl54, Ar54, q54, S54, M54, H54, G54⟩ := id f53
   obtain ⟨T54, h54, X54, e54, W54, st54⟩ := stI X52 hx hZ e52 Ar54 (j := (4 : Int32)) (inb_of S54 ⟨by decide, by decide⟩) (g := (mkF m 22 #[.val (.ref a2_0), .val (.int 1), .val (.int 4), .val (.int y1)] [(.int y1), (.int 4), (.ref a2_0)])) rfl rfl (hb hby d2_22)
   have f55 : Arv Z h54 a2_0 ky .int (5 : Int32) [(.int y0), (.int y4), (.int y2), (.int y3), (.int y1)] (.int 0) := Arv.set Ar54 q54 S54 M54 H54 G54 rfl W54 4 rfl (Nat.le_of_ble_eq_true rfl)
   have K54 := K52.wr W54 (Or.inl (List.mem_of_getElem? (i := 0) rfl))
   have N54 := Fr.snoc X54 N52 g_a2_0
   refine own_s (g' := (mkF m 23 #[.val (.ref a2_0), .val (.int 1), .val (.int 4), .val (.int y1)] [])) st54 ?_
   refine own_retV X54 hx hlk hret (hb hby d2_23) (by decide) (by decide) ?_
   show Q2p14 Z a2_0 ky y0 y1 y2 y3 y4 h0 n0 _ T54.heap _
   rw [e54]
   exact ⟨rfl, N54, K54, (by rw [show (w2p14_a2_0_1 y1 y4) = y4 from (if_pos c49), show (w2p14_a2_0_4 y1 y4) = y1 from (if_pos c49)]; exact f55)⟩
  ·skip
   refine own_s (g' := (mkF m 23 #[.val (.ref a2_0), .val (.int 1), .val (.int 4), .unset] [])) (fun _ kz => XS.icmpYes X0.here hx rfl (pc0 := 6) (pc' := 23) rfl (hb hby d2_6) rfl (flt c49).2.1 (by decide) (by decide) kz) ?_
   refine own_retV X0 hx hlk hret (hb hby d2_23) (by decide) (by decide) ?_
   show Q2p14 Z a2_0 ky y0 y1 y2 y3 y4 h0 n0 _ s₁.heap _
   rw [e0]
   exact ⟨rfl, N0, K0, (by rw [show (w2p14_a2_0_1 y1 y4) = y1 from (if_neg c49), show (w2p14_a2_0_4 y1 y4) = y4 from (if_neg c49)]; exact V_a2_0)⟩
theorem ef_2p03 (m : MethodId) (a2_0 : Addr) : entryFrame m #[(.ref a2_0), (.int 0), (.int 3)] 4 = mkF m 0 #[.val (.ref a2_0), .val (.int 0), .val (.int 3), .unset] [] := by first | (simp [entryFrame, mkF, argsToLocals, Value.category]; done) | rfl
def w2p03_a2_0_0 (y0 : Int32) (y3 : Int32) : Int32 := (if y0 < y3 then y3 else y0)
def w2p03_a2_0_3 (y0 : Int32) (y3 : Int32) : Int32 := (if y0 < y3 then y0 else y3)
def Q2p03 (Z : State) (a2_0 : Addr) (ky : ClassId) (y0 : Int32) (y1 : Int32) (y2 : Int32) (y3 : Int32) (y4 : Int32) (h0 : Heap) (n0 : Nat) (v : Option Value) (h : Heap) (L : List Loc) : Prop := v = none ∧ Fr n0 L ∧ Keep h0 h [a2_0] ∧ Arv Z h a2_0 ky .int (5 : Int32) [(.int (w2p03_a2_0_0 y0 y3)), (.int y1), (.int y2), (.int (w2p03_a2_0_3 y0 y3)), (.int y4)] (.int 0)
set_option maxRecDepth 65536 in
set_option maxHeartbeats 40000000 in
theorem rm2p03 (l : Launch) (Z : State) (a0 : Array Value) (hw : ∀ d ∈ tables_1, d.before a0 Z = true) (ws : List Jvm.Cond) (a2_0 : Addr) (ky : ClassId) (y0 : Int32) (y1 : Int32) (y2 : Int32) (y3 : Int32) (y4 : Int32) (h0 : Heap) (n0 : Nat) (Z0 : n0 ≤ h0.size) (V_a2_0 : Arv Z h0 a2_0 ky .int (5 : Int32) [(.int y0), (.int y1), (.int y2), (.int y3), (.int y4)] (.int 0)) (g_a2_0 : n0 ≤ a2_0) :
    MetFree l (⟨"gallai/service/GraphicalitySlacksPinLaw", "order", "([III)V"⟩ : MethodName) (head1 (Jvm.Cond.code (⟨"gallai/service/GraphicalitySlacksPinLaw", "order", "([III)V"⟩ : MethodName) method_4_code 4 none :: ws) ({ frames := 0, cells := 0, slots := 0, locals := 0 } : Room)) (fun a U => a = #[(.ref a2_0), (.int 0), (.int 3)] ∧ Z.Warmed39 U.vm ∧ U.heap = h0) (fun _ _ _ _ _ => True) (fun _ U o U' => ∃ v L, o = .returned v ∧ Q2p03 Z a2_0 ky y0 y1 y2 y3 y4 h0 n0 v U'.heap L ∧ FrameEnd U o U' L ({ frames := 0, cells := 0, slots := 0, locals := 0 } : Room).cells ({ frames := 0, cells := 0, slots := 0, locals := 0 } : Room).slots) := by
  refine MetFree.of_bodySF (plainFor_of_name pn_gallai_service_GraphicalitySlacksPinLaw) hisR ?_
  intro p e s m args below meth c s₁ Bd hml0 hP hK
  obtain ⟨rfl, hZ, hh⟩ := hP
  have hx := Bd.exec
  have hby := Bd.bytes
  have hlk := Bd.notSynchronized
  have hret := Bd.returns
  have hml : c.maxLocals = 4 := hml0
  have hown : s.vm.findClass "gallai/service/GraphicalitySlacksPinLaw" = some m.cls := findClass_of_methodNamed Bd.named
  have hnm := (name_of_methodNamed Bd.named Bd.method).1
  have X0 : Stand p l e ({ frames := 0, cells := 0, slots := 0, locals := 0 } : Room) s m #[(.ref a2_0), (.int 0), (.int 3)] below meth c s₁ [] 0 0 := Stand.of_body Bd
  have e0 : s₁.heap = h0 := by rw [← hh, Bd.state]; rfl
  have N0 := Fr.nil n0
  have K0 : Keep h0 h0 [a2_0] := Keep.refl _ _
  show own_G p e below s (Q2p03 Z a2_0 ky y0 y1 y2 y3 y4 h0 n0) ({ frames := 0, cells := 0, slots := 0, locals := 0 } : Room).cells ({ frames := 0, cells := 0, slots := 0, locals := 0 } : Room).slots s₁ (entryFrame m #[(.ref a2_0), (.int 0), (.int 3)] 4)
  refine own_cast (ef_2p03 m a2_0) ?_
  refine own_s (g' := (mkF m 1 #[.val (.ref a2_0), .val (.int 0), .val (.int 3), .unset] [(.ref a2_0)])) (fun _ kz => XS.aloadN X0.here hx rfl (hb hby d2_0) rfl rfl kz) ?_
  refine own_s (g' := (mkF m 2 #[.val (.ref a2_0), .val (.int 0), .val (.int 3), .unset] [(.int 0), (.ref a2_0)])) (fun _ kz => XS.iloadN X0.here hx rfl (hb hby d2_1) rfl kz) ?_
  obtain ⟨cl56, Ar56, -, S56, -, H56, -⟩ := id V_a2_0
  have in56 := inb_of S56 (j := (0 : Int32)) ⟨by decide, by decide⟩
  refine own_s (g' := (mkF m 3 #[.val (.ref a2_0), .val (.int 0), .val (.int 3), .unset] [(.int y0)])) (X0.iaload hx (j := (0 : Int32)) (v := (.int y0)) (by rw [e0]; exact Ar56.1) (State.isArrayOf_alike hZ.alike Ar56.2.1) Ar56.2.2 in56 (Has.at H56 in56 rfl) (g := (mkF m 2 #[.val (.ref a2_0), .val (.int 0), .val (.int 3), .unset] [(.int 0), (.ref a2_0)])) rfl rfl (hb hby d2_2)) ?_
  refine own_s (g' := (mkF m 4 #[.val (.ref a2_0), .val (.int 0), .val (.int 3), .unset] [(.ref a2_0), (.int y0)])) (fun _ kz => XS.aloadN X0.here hx rfl (hb hby d2_3) rfl rfl kz) ?_
  refine own_s (g' := (mkF m 5 #[.val (.ref a2_0), .val (.int 0), .val (.int 3), .unset] [(.int 3), (.ref a2_0), (.int y0)])) (fun _ kz => XS.iloadN X0.here hx rfl (hb hby d2_4) rfl kz) ?_
  obtain ⟨cl57, Ar57, -, S57, -, H57, -⟩ := id V_a2_0
  have in57 := inb_of S57 (j := (3 : Int32)) ⟨by decide, by decide⟩
  refine own_s (g' := (mkF m 6 #[.val (.ref a2_0), .val (.int 0), .val (.int 3), .unset] [(.int y3), (.int y0)])) (X0.iaload hx (j := (3 : Int32)) (v := (.int y3)) (by rw [e0]; exact Ar57.1) (State.isArrayOf_alike hZ.alike Ar57.2.1) Ar57.2.2 in57 (Has.at H57 in57 rfl) (g := (mkF m 5 #[.val (.ref a2_0), .val (.int 0), .val (.int 3), .unset] [(.int 3), (.ref a2_0), (.int y0)])) rfl rfl (hb hby d2_5)) ?_
  by_cases c58 : y0 < y3
  ·skip
   refine own_s (g' := (mkF m 9 #[.val (.ref a2_0), .val (.int 0), .val (.int 3), .unset] [])) (fun _ kz => XS.icmpNo X0.here hx rfl (hb hby d2_6) rfl (tlt c58).2.1 kz) ?_
   refine own_s (g' := (mkF m 10 #[.val (.ref a2_0), .val (.int 0), .val (.int 3), .unset] [(.ref a2_0)])) (fun _ kz => XS.aloadN X0.here hx rfl (hb hby d2_9) rfl rfl kz) ?_
   refine own_s (g' := (mkF m 11 #[.val (.ref a2_0), .val (.int 0), .val (.int 3), .unset] [(.int 0), (.ref a2_0)])) (fun _ kz => XS.iloadN X0.here hx rfl (hb hby d2_10) rfl kz) ?_
   obtain ⟨cl59, Ar59, -, S59, -, H59, -⟩ := id V_a2_0
   have in59 := inb_of S59 (j := (0 : Int32)) ⟨by decide, by decide⟩
   refine own_s (g' := (mkF m 12 #[.val (.ref a2_0), .val (.int 0), .val (.int 3), .unset] [(.int y0)])) (X0.iaload hx (j := (0 : Int32)) (v := (.int y0)) (by rw [e0]; exact Ar59.1) (State.isArrayOf_alike hZ.alike Ar59.2.1) Ar59.2.2 in59 (Has.at H59 in59 rfl) (g := (mkF m 11 #[.val (.ref a2_0), .val (.int 0), .val (.int 3), .unset] [(.int 0), (.ref a2_0)])) rfl rfl (hb hby d2_11)) ?_
   refine own_s (g' := (mkF m 13 #[.val (.ref a2_0), .val (.int 0), .val (.int 3), .val (.int y0)] [])) (fun _ kz => XS.istoreN X0.here hx rfl (hb hby d2_12) rfl (l' := #[.val (.ref a2_0), .val (.int 0), .val (.int 3), .val (.int y0)]) rfl kz) ?_
   refine own_s (g' := (mkF m 14 #[.val (.ref a2_0), .val (.int 0), .val (.int 3), .val (.int y0)] [(.ref a2_0)])) (fun _ kz => XS.aloadN X0.here hx rfl (hb hby d2_13) rfl rfl kz) ?_
   refine own_s (g' := (mkF m 15 #[.val (.ref a2_0), .val (.int 0), .val (.int 3), .val (.int y0)] [(.int 0), (.ref a2_0)])) (fun _ kz => XS.iloadN X0.here hx rfl (hb hby d2_14) rfl kz) ?_
   refine own_s (g' := (mkF m 16 #[.val (.ref a2_0), .val (.int 0), .val (.int 3), .val (.int y0)] [(.ref a2_0), (.int 0), (.ref a2_0)])) (fun _ kz => XS.aloadN X0.here hx rfl (hb hby d2_15) rfl rfl kz) ?_
   refine own_s (g' := (mkF m 17 #[.val (.ref a2_0), .val (.int 0), .val (.int 3), .val (.int y0)] [(.int 3), (.ref a2_0), (.int 0), (.ref a2_0)])) (fun _ kz => XS.iloadN X0.here hx rfl (hb hby d2_16) rfl kz) ?_
   obtain ⟨cl60, Ar60, -, S60, -, H60, -⟩ := id V_a2_0
   have in60 := inb_of S60 (j := (3 : Int32)) ⟨by decide, by decide⟩
   refine own_s (g' := (mkF m 18 #[.val (.ref a2_0), .val (.int 0), .val (.int 3), .val (.int y0)] [(.int y3), (.int 0), (.ref a2_0)])) (X0.iaload hx (j := (3 : Int32)) (v := (.int y3)) (by rw [e0]; exact Ar60.1) (State.isArrayOf_alike hZ.alike Ar60.2.1) Ar60.2.2 in60 (Has.at H60 in60 rfl) (g := (mkF m 17 #[.val (.ref a2_0), .val (.int 0), .val (.int 3), .val (.int y0)] [(.int 3), (.ref a2_0), (.int 0), (.ref a2_0)])) rfl rfl (hb hby d2_17)) ?_
   obtain ⟨cl61, Ar61, q61, S61, M61, H61, G61⟩ := id V_a2_0
   obtain ⟨T61, h61, X61, e61, W61, st61⟩ := stI X0 hx hZ e0 Ar61 (j := (0 : Int32)) (inb_of S61 ⟨by decide, by decide⟩) (g := (mkF m 18 #[.val (.ref a2_0), .val (.int 0), .val (.int 3), .val (.int y0)] [(.int y3), (.int 0), (.ref a2_0)])) rfl rfl (hb hby d2_18)
   have f62 : Arv Z h61 a2_0 ky .int (5 : Int32) [(.int y3), (.int y1), (.int y2), (.int y3), (.int y4)] (.int 0) := Arv.set Ar61 q61 S61 M61 H61 G61 rfl W61 0 rfl (Nat.le_of_ble_eq_true rfl)
   have K61 := K0.wr W61 (Or.inl (List.mem_of_getElem? (i := 0) rfl))
   have N61 := Fr.snoc X61 N0 g_a2_0
   refine own_s (g' := (mkF m 19 #[.val (.ref a2_0), .val (.int 0), .val (.int 3), .val (.int y0)] [])) st61 ?_
   refine own_s (g' := (mkF m 20 #[.val (.ref a2_0), .val (.int 0), .val (.int 3), .val (.int y0)] [(.ref a2_0)])) (fun _ kz => XS.aloadN X61.here hx rfl (hb hby d2_19) rfl rfl kz) ?_
   refine own_s (g' := (mkF m 21 #[.val (.ref a2_0), .val (.int 0), .val (.int 3), .val (.int y0)] [(.int 3), (.ref a2_0)])) (fun _ kz => XS.iloadN X61.here hx rfl (hb hby d2_20) rfl kz) ?_
   refine own_s (g' := (mkF m 22 #[.val (.ref a2_0), .val (.int 0), .val (.int 3), .val (.int y0)] [(.int y0), (.int 3), (.ref a2_0)])) (fun _ kz => XS.iloadN X61.here hx rfl (hb hby d2_21) rfl kz) ?_
   obtain ⟨cl63, Ar63, q63, S63, M63, H63, G63⟩ := id f62
   obtain ⟨T63, h63, X63, e63, W63, st63⟩ := stI X61 hx hZ e61 Ar63 (j := (3 : Int32)) (inb_of S63 ⟨by decide, by decide⟩) (g := (mkF m 22 #[.val (.ref a2_0), .val (.int 0), .val (.int 3), .val (.int y0)] [(.int y0), (.int 3), (.ref a2_0)])) rfl rfl (hb hby d2_22)
   have f64 : Arv Z h63 a2_0 ky .int (5 : Int32) [(.int y3), (.int y1), (.int y2), (.int y0), (.int y4)] (.int 0) := Arv.set Ar63 q63 S63 M63 H63 G63 rfl W63 3 rfl (Nat.le_of_ble_eq_true rfl)
   have K63 := K61.wr W63 (Or.inl (List.mem_of_getElem? (i := 0) rfl))
   have N63 := Fr.snoc X63 N61 g_a2_0
   refine own_s (g' := (mkF m 23 #[.val (.ref a2_0), .val (.int 0), .val (.int 3), .val (.int y0)] [])) st63 ?_
   refine own_retV X63 hx hlk hret (hb hby d2_23) (by decide) (by decide) ?_
   show Q2p03 Z a2_0 ky y0 y1 y2 y3 y4 h0 n0 _ T63.heap _
   rw [e63]
   exact ⟨rfl, N63, K63, (by rw [show (w2p03_a2_0_0 y0 y3) = y3 from (if_pos c58), show (w2p03_a2_0_3 y0 y3) = y0 from (if_pos c58)]; exact f64)⟩
  ·skip
   refine own_s (g' := (mkF m 23 #[.val (.ref a2_0), .val (.int 0), .val (.int 3), .unset] [])) (fun _ kz => XS.icmpYes X0.here hx rfl (pc0 := 6) (pc' := 23) rfl (hb hby d2_6) rfl (flt c58).2.1 (by decide) (by decide) kz) ?_
   refine own_retV X0 hx hlk hret (hb hby d2_23) (by decide) (by decide) ?_
   show Q2p03 Z a2_0 ky y0 y1 y2 y3 y4 h0 n0 _ s₁.heap _
   rw [e0]
   exact ⟨rfl, N0, K0, (by rw [show (w2p03_a2_0_0 y0 y3) = y0 from (if_neg c58), show (w2p03_a2_0_3 y0 y3) = y3 from (if_neg c58)]; exact V_a2_0)⟩
theorem ef_2p02 (m : MethodId) (a2_0 : Addr) : entryFrame m #[(.ref a2_0), (.int 0), (.int 2)] 4 = mkF m 0 #[.val (.ref a2_0), .val (.int 0), .val (.int 2), .unset] [] := by first | (simp [entryFrame, mkF, argsToLocals, Value.category]; done) | rfl
def w2p02_a2_0_0 (y0 : Int32) (y2 : Int32) : Int32 := (if y0 < y2 then y2 else y0)
def w2p02_a2_0_2 (y0 : Int32) (y2 : Int32) : Int32 := (if y0 < y2 then y0 else y2)
def Q2p02 (Z : State) (a2_0 : Addr) (ky : ClassId) (y0 : Int32) (y1 : Int32) (y2 : Int32) (y3 : Int32) (y4 : Int32) (h0 : Heap) (n0 : Nat) (v : Option Value) (h : Heap) (L : List Loc) : Prop := v = none ∧ Fr n0 L ∧ Keep h0 h [a2_0] ∧ Arv Z h a2_0 ky .int (5 : Int32) [(.int (w2p02_a2_0_0 y0 y2)), (.int y1), (.int (w2p02_a2_0_2 y0 y2)), (.int y3), (.int y4)] (.int 0)
set_option maxRecDepth 65536 in
set_option maxHeartbeats 40000000 in
theorem rm2p02 (l : Launch) (Z : State) (a0 : Array Value) (hw : ∀ d ∈ tables_1, d.before a0 Z = true) (ws : List Jvm.Cond) (a2_0 : Addr) (ky : ClassId) (y0 : Int32) (y1 : Int32) (y2 : Int32) (y3 : Int32) (y4 : Int32) (h0 : Heap) (n0 : Nat) (Z0 : n0 ≤ h0.size) (V_a2_0 : Arv Z h0 a2_0 ky .int (5 : Int32) [(.int y0), (.int y1), (.int y2), (.int y3), (.int y4)] (.int 0)) (g_a2_0 : n0 ≤ a2_0) :
    MetFree l (⟨"gallai/service/GraphicalitySlacksPinLaw", "order", "([III)V"⟩ : MethodName) (head1 (Jvm.Cond.code (⟨"gallai/service/GraphicalitySlacksPinLaw", "order", "([III)V"⟩ : MethodName) method_4_code 4 none :: ws) ({ frames := 0, cells := 0, slots := 0, locals := 0 } : Room)) (fun a U => a = #[(.ref a2_0), (.int 0), (.int 2)] ∧ Z.Warmed39 U.vm ∧ U.heap = h0) (fun _ _ _ _ _ => True) (fun _ U o U' => ∃ v L, o = .returned v ∧ Q2p02 Z a2_0 ky y0 y1 y2 y3 y4 h0 n0 v U'.heap L ∧ FrameEnd U o U' L ({ frames := 0, cells := 0, slots := 0, locals := 0 } : Room).cells ({ frames := 0, cells := 0, slots := 0, locals := 0 } : Room).slots) := by
  refine MetFree.of_bodySF (plainFor_of_name pn_gallai_service_GraphicalitySlacksPinLaw) hisR ?_
  intro p e s m args below meth c s₁ Bd hml0 hP hK
  obtain ⟨rfl, hZ, hh⟩ := hP
  have hx := Bd.exec
  have hby := Bd.bytes
  have hlk := Bd.notSynchronized
  have hret := Bd.returns
  have hml : c.maxLocals = 4 := hml0
  have hown : s.vm.findClass "gallai/service/GraphicalitySlacksPinLaw" = some m.cls := findClass_of_methodNamed Bd.named
  have hnm := (name_of_methodNamed Bd.named Bd.method).1
  have X0 : Stand p l e ({ frames := 0, cells := 0, slots := 0, locals := 0 } : Room) s m #[(.ref a2_0), (.int 0), (.int 2)] below meth c s₁ [] 0 0 := Stand.of_body Bd
  have e0 : s₁.heap = h0 := by rw [← hh, Bd.state]; rfl
  have N0 := Fr.nil n0
  have K0 : Keep h0 h0 [a2_0] := Keep.refl _ _
  show own_G p e below s (Q2p02 Z a2_0 ky y0 y1 y2 y3 y4 h0 n0) ({ frames := 0, cells := 0, slots := 0, locals := 0 } : Room).cells ({ frames := 0, cells := 0, slots := 0, locals := 0 } : Room).slots s₁ (entryFrame m #[(.ref a2_0), (.int 0), (.int 2)] 4)
  refine own_cast (ef_2p02 m a2_0) ?_
  refine own_s (g' := (mkF m 1 #[.val (.ref a2_0), .val (.int 0), .val (.int 2), .unset] [(.ref a2_0)])) (fun _ kz => XS.aloadN X0.here hx rfl (hb hby d2_0) rfl rfl kz) ?_
  refine own_s (g' := (mkF m 2 #[.val (.ref a2_0), .val (.int 0), .val (.int 2), .unset] [(.int 0), (.ref a2_0)])) (fun _ kz => XS.iloadN X0.here hx rfl (hb hby d2_1) rfl kz) ?_
  obtain ⟨cl65, Ar65, -, S65, -, H65, -⟩ := id V_a2_0
  have in65 := inb_of S65 (j := (0 : Int32)) ⟨by decide, by decide⟩
  refine own_s (g' := (mkF m 3 #[.val (.ref a2_0), .val (.int 0), .val (.int 2), .unset] [(.int y0)])) (X0.iaload hx (j := (0 : Int32)) (v := (.int y0)) (by rw [e0]; exact Ar65.1) (State.isArrayOf_alike hZ.alike Ar65.2.1) Ar65.2.2 in65 (Has.at H65 in65 rfl) (g := (mkF m 2 #[.val (.ref a2_0), .val (.int 0), .val (.int 2), .unset] [(.int 0), (.ref a2_0)])) rfl rfl (hb hby d2_2)) ?_
  refine own_s (g' := (mkF m 4 #[.val (.ref a2_0), .val (.int 0), .val (.int 2), .unset] [(.ref a2_0), (.int y0)])) (fun _ kz => XS.aloadN X0.here hx rfl (hb hby d2_3) rfl rfl kz) ?_
  refine own_s (g' := (mkF m 5 #[.val (.ref a2_0), .val (.int 0), .val (.int 2), .unset] [(.int 2), (.ref a2_0), (.int y0)])) (fun _ kz => XS.iloadN X0.here hx rfl (hb hby d2_4) rfl kz) ?_
  obtain ⟨cl66, Ar66, -, S66, -, H66, -⟩ := id V_a2_0
  have in66 := inb_of S66 (j := (2 : Int32)) ⟨by decide, by decide⟩
  refine own_s (g' := (mkF m 6 #[.val (.ref a2_0), .val (.int 0), .val (.int 2), .unset] [(.int y2), (.int y0)])) (X0.iaload hx (j := (2 : Int32)) (v := (.int y2)) (by rw [e0]; exact Ar66.1) (State.isArrayOf_alike hZ.alike Ar66.2.1) Ar66.2.2 in66 (Has.at H66 in66 rfl) (g := (mkF m 5 #[.val (.ref a2_0), .val (.int 0), .val (.int 2), .unset] [(.int 2), (.ref a2_0), (.int y0)])) rfl rfl (hb hby d2_5)) ?_
  by_cases c67 : y0 < y2
  ·skip
   refine own_s (g' := (mkF m 9 #[.val (.ref a2_0), .val (.int 0), .val (.int 2), .unset] [])) (fun _ kz => XS.icmpNo X0.here hx rfl (hb hby d2_6) rfl (tlt c67).2.1 kz) ?_
   refine own_s (g' := (mkF m 10 #[.val (.ref a2_0), .val (.int 0), .val (.int 2), .unset] [(.ref a2_0)])) (fun _ kz => XS.aloadN X0.here hx rfl (hb hby d2_9) rfl rfl kz) ?_
   refine own_s (g' := (mkF m 11 #[.val (.ref a2_0), .val (.int 0), .val (.int 2), .unset] [(.int 0), (.ref a2_0)])) (fun _ kz => XS.iloadN X0.here hx rfl (hb hby d2_10) rfl kz) ?_
   obtain ⟨cl68, Ar68, -, S68, -, H68, -⟩ := id V_a2_0
   have in68 := inb_of S68 (j := (0 : Int32)) ⟨by decide, by decide⟩
   refine own_s (g' := (mkF m 12 #[.val (.ref a2_0), .val (.int 0), .val (.int 2), .unset] [(.int y0)])) (X0.iaload hx (j := (0 : Int32)) (v := (.int y0)) (by rw [e0]; exact Ar68.1) (State.isArrayOf_alike hZ.alike Ar68.2.1) Ar68.2.2 in68 (Has.at H68 in68 rfl) (g := (mkF m 11 #[.val (.ref a2_0), .val (.int 0), .val (.int 2), .unset] [(.int 0), (.ref a2_0)])) rfl rfl (hb hby d2_11)) ?_
   refine own_s (g' := (mkF m 13 #[.val (.ref a2_0), .val (.int 0), .val (.int 2), .val (.int y0)] [])) (fun _ kz => XS.istoreN X0.here hx rfl (hb hby d2_12) rfl (l' := #[.val (.ref a2_0), .val (.int 0), .val (.int 2), .val (.int y0)]) rfl kz) ?_
   refine own_s (g' := (mkF m 14 #[.val (.ref a2_0), .val (.int 0), .val (.int 2), .val (.int y0)] [(.ref a2_0)])) (fun _ kz => XS.aloadN X0.here hx rfl (hb hby d2_13) rfl rfl kz) ?_
   refine own_s (g' := (mkF m 15 #[.val (.ref a2_0), .val (.int 0), .val (.int 2), .val (.int y0)] [(.int 0), (.ref a2_0)])) (fun _ kz => XS.iloadN X0.here hx rfl (hb hby d2_14) rfl kz) ?_
   refine own_s (g' := (mkF m 16 #[.val (.ref a2_0), .val (.int 0), .val (.int 2), .val (.int y0)] [(.ref a2_0), (.int 0), (.ref a2_0)])) (fun _ kz => XS.aloadN X0.here hx rfl (hb hby d2_15) rfl rfl kz) ?_
   refine own_s (g' := (mkF m 17 #[.val (.ref a2_0), .val (.int 0), .val (.int 2), .val (.int y0)] [(.int 2), (.ref a2_0), (.int 0), (.ref a2_0)])) (fun _ kz => XS.iloadN X0.here hx rfl (hb hby d2_16) rfl kz) ?_
   obtain ⟨cl69, Ar69, -, S69, -, H69, -⟩ := id V_a2_0
   have in69 := inb_of S69 (j := (2 : Int32)) ⟨by decide, by decide⟩
   refine own_s (g' := (mkF m 18 #[.val (.ref a2_0), .val (.int 0), .val (.int 2), .val (.int y0)] [(.int y2), (.int 0), (.ref a2_0)])) (X0.iaload hx (j := (2 : Int32)) (v := (.int y2)) (by rw [e0]; exact Ar69.1) (State.isArrayOf_alike hZ.alike Ar69.2.1) Ar69.2.2 in69 (Has.at H69 in69 rfl) (g := (mkF m 17 #[.val (.ref a2_0), .val (.int 0), .val (.int 2), .val (.int y0)] [(.int 2), (.ref a2_0), (.int 0), (.ref a2_0)])) rfl rfl (hb hby d2_17)) ?_
   obtain ⟨cl70, Ar70, q70, S70, M70, H70, G70⟩ := id V_a2_0
   obtain ⟨T70, h70, X70, e70, W70, st70⟩ := stI X0 hx hZ e0 Ar70 (j := (0 : Int32)) (inb_of S70 ⟨by decide, by decide⟩) (g := (mkF m 18 #[.val (.ref a2_0), .val (.int 0), .val (.int 2), .val (.int y0)] [(.int y2), (.int 0), (.ref a2_0)])) rfl rfl (hb hby d2_18)
   have f71 : Arv Z h70 a2_0 ky .int (5 : Int32) [(.int y2), (.int y1), (.int y2), (.int y3), (.int y4)] (.int 0) := Arv.set Ar70 q70 S70 M70 H70 G70 rfl W70 0 rfl (Nat.le_of_ble_eq_true rfl)
   have K70 := K0.wr W70 (Or.inl (List.mem_of_getElem? (i := 0) rfl))
   have N70 := Fr.snoc X70 N0 g_a2_0
   refine own_s (g' := (mkF m 19 #[.val (.ref a2_0), .val (.int 0), .val (.int 2), .val (.int y0)] [])) st70 ?_
   refine own_s (g' := (mkF m 20 #[.val (.ref a2_0), .val (.int 0), .val (.int 2), .val (.int y0)] [(.ref a2_0)])) (fun _ kz => XS.aloadN X70.here hx rfl (hb hby d2_19) rfl rfl kz) ?_
   refine own_s (g' := (mkF m 21 #[.val (.ref a2_0), .val (.int 0), .val (.int 2), .val (.int y0)] [(.int 2), (.ref a2_0)])) (fun _ kz => XS.iloadN X70.here hx rfl (hb hby d2_20) rfl kz) ?_
   refine own_s (g' := (mkF m 22 #[.val (.ref a2_0), .val (.int 0), .val (.int 2), .val (.int y0)] [(.int y0), (.int 2), (.ref a2_0)])) (fun _ kz => XS.iloadN X70.here hx rfl (hb hby d2_21) rfl kz) ?_
   obtain ⟨cl72, Ar72, q72, S72, M72, H72, G72⟩ := id f71
   obtain ⟨T72, h72, X72, e72, W72, st72⟩ := stI X70 hx hZ e70 Ar72 (j := (2 : Int32)) (inb_of S72 ⟨by decide, by decide⟩) (g := (mkF m 22 #[.val (.ref a2_0), .val (.int 0), .val (.int 2), .val (.int y0)] [(.int y0), (.int 2), (.ref a2_0)])) rfl rfl (hb hby d2_22)
   have f73 : Arv Z h72 a2_0 ky .int (5 : Int32) [(.int y2), (.int y1), (.int y0), (.int y3), (.int y4)] (.int 0) := Arv.set Ar72 q72 S72 M72 H72 G72 rfl W72 2 rfl (Nat.le_of_ble_eq_true rfl)
   have K72 := K70.wr W72 (Or.inl (List.mem_of_getElem? (i := 0) rfl))
   have N72 := Fr.snoc X72 N70 g_a2_0
   refine own_s (g' := (mkF m 23 #[.val (.ref a2_0), .val (.int 0), .val (.int 2), .val (.int y0)] [])) st72 ?_
   refine own_retV X72 hx hlk hret (hb hby d2_23) (by decide) (by decide) ?_
   show Q2p02 Z a2_0 ky y0 y1 y2 y3 y4 h0 n0 _ T72.heap _
   rw [e72]
   exact ⟨rfl, N72, K72, (by rw [show (w2p02_a2_0_0 y0 y2) = y2 from (if_pos c67), show (w2p02_a2_0_2 y0 y2) = y0 from (if_pos c67)]; exact f73)⟩
  ·skip
   refine own_s (g' := (mkF m 23 #[.val (.ref a2_0), .val (.int 0), .val (.int 2), .unset] [])) (fun _ kz => XS.icmpYes X0.here hx rfl (pc0 := 6) (pc' := 23) rfl (hb hby d2_6) rfl (flt c67).2.1 (by decide) (by decide) kz) ?_
   refine own_retV X0 hx hlk hret (hb hby d2_23) (by decide) (by decide) ?_
   show Q2p02 Z a2_0 ky y0 y1 y2 y3 y4 h0 n0 _ s₁.heap _
   rw [e0]
   exact ⟨rfl, N0, K0, (by rw [show (w2p02_a2_0_0 y0 y2) = y0 from (if_neg c67), show (w2p02_a2_0_2 y0 y2) = y2 from (if_neg c67)]; exact V_a2_0)⟩
theorem ef_2p13 (m : MethodId) (a2_0 : Addr) : entryFrame m #[(.ref a2_0), (.int 1), (.int 3)] 4 = mkF m 0 #[.val (.ref a2_0), .val (.int 1), .val (.int 3), .unset] [] := by first | (simp [entryFrame, mkF, argsToLocals, Value.category]; done) | rfl
def w2p13_a2_0_1 (y1 : Int32) (y3 : Int32) : Int32 := (if y1 < y3 then y3 else y1)
def w2p13_a2_0_3 (y1 : Int32) (y3 : Int32) : Int32 := (if y1 < y3 then y1 else y3)
def Q2p13 (Z : State) (a2_0 : Addr) (ky : ClassId) (y0 : Int32) (y1 : Int32) (y2 : Int32) (y3 : Int32) (y4 : Int32) (h0 : Heap) (n0 : Nat) (v : Option Value) (h : Heap) (L : List Loc) : Prop := v = none ∧ Fr n0 L ∧ Keep h0 h [a2_0] ∧ Arv Z h a2_0 ky .int (5 : Int32) [(.int y0), (.int (w2p13_a2_0_1 y1 y3)), (.int y2), (.int (w2p13_a2_0_3 y1 y3)), (.int y4)] (.int 0)
set_option maxRecDepth 65536 in
set_option maxHeartbeats 40000000 in
theorem rm2p13 (l : Launch) (Z : State) (a0 : Array Value) (hw : ∀ d ∈ tables_1, d.before a0 Z = true) (ws : List Jvm.Cond) (a2_0 : Addr) (ky : ClassId) (y0 : Int32) (y1 : Int32) (y2 : Int32) (y3 : Int32) (y4 : Int32) (h0 : Heap) (n0 : Nat) (Z0 : n0 ≤ h0.size) (V_a2_0 : Arv Z h0 a2_0 ky .int (5 : Int32) [(.int y0), (.int y1), (.int y2), (.int y3), (.int y4)] (.int 0)) (g_a2_0 : n0 ≤ a2_0) :
    MetFree l (⟨"gallai/service/GraphicalitySlacksPinLaw", "order", "([III)V"⟩ : MethodName) (head1 (Jvm.Cond.code (⟨"gallai/service/GraphicalitySlacksPinLaw", "order", "([III)V"⟩ : MethodName) method_4_code 4 none :: ws) ({ frames := 0, cells := 0, slots := 0, locals := 0 } : Room)) (fun a U => a = #[(.ref a2_0), (.int 1), (.int 3)] ∧ Z.Warmed39 U.vm ∧ U.heap = h0) (fun _ _ _ _ _ => True) (fun _ U o U' => ∃ v L, o = .returned v ∧ Q2p13 Z a2_0 ky y0 y1 y2 y3 y4 h0 n0 v U'.heap L ∧ FrameEnd U o U' L ({ frames := 0, cells := 0, slots := 0, locals := 0 } : Room).cells ({ frames := 0, cells := 0, slots := 0, locals := 0 } : Room).slots) := by
  refine MetFree.of_bodySF (plainFor_of_name pn_gallai_service_GraphicalitySlacksPinLaw) hisR ?_
  intro p e s m args below meth c s₁ Bd hml0 hP hK
  obtain ⟨rfl, hZ, hh⟩ := hP
  have hx := Bd.exec
  have hby := Bd.bytes
  have hlk := Bd.notSynchronized
  have hret := Bd.returns
  have hml : c.maxLocals = 4 := hml0
  have hown : s.vm.findClass "gallai/service/GraphicalitySlacksPinLaw" = some m.cls := findClass_of_methodNamed Bd.named
  have hnm := (name_of_methodNamed Bd.named Bd.method).1
  have X0 : Stand p l e ({ frames := 0, cells := 0, slots := 0, locals := 0 } : Room) s m #[(.ref a2_0), (.int 1), (.int 3)] below meth c s₁ [] 0 0 := Stand.of_body Bd
  have e0 : s₁.heap = h0 := by rw [← hh, Bd.state]; rfl
  have N0 := Fr.nil n0
  have K0 : Keep h0 h0 [a2_0] := Keep.refl _ _
  show own_G p e below s (Q2p13 Z a2_0 ky y0 y1 y2 y3 y4 h0 n0) ({ frames := 0, cells := 0, slots := 0, locals := 0 } : Room).cells ({ frames := 0, cells := 0, slots := 0, locals := 0 } : Room).slots s₁ (entryFrame m #[(.ref a2_0), (.int 1), (.int 3)] 4)
  refine own_cast (ef_2p13 m a2_0) ?_
  refine own_s (g' := (mkF m 1 #[.val (.ref a2_0), .val (.int 1), .val (.int 3), .unset] [(.ref a2_0)])) (fun _ kz => XS.aloadN X0.here hx rfl (hb hby d2_0) rfl rfl kz) ?_
  refine own_s (g' := (mkF m 2 #[.val (.ref a2_0), .val (.int 1), .val (.int 3), .unset] [(.int 1), (.ref a2_0)])) (fun _ kz => XS.iloadN X0.here hx rfl (hb hby d2_1) rfl kz) ?_
  obtain ⟨cl74, Ar74, -, S74, -, H74, -⟩ := id V_a2_0
  have in74 := inb_of S74 (j := (1 : Int32)) ⟨by decide, by decide⟩
  refine own_s (g' := (mkF m 3 #[.val (.ref a2_0), .val (.int 1), .val (.int 3), .unset] [(.int y1)])) (X0.iaload hx (j := (1 : Int32)) (v := (.int y1)) (by rw [e0]; exact Ar74.1) (State.isArrayOf_alike hZ.alike Ar74.2.1) Ar74.2.2 in74 (Has.at H74 in74 rfl) (g := (mkF m 2 #[.val (.ref a2_0), .val (.int 1), .val (.int 3), .unset] [(.int 1), (.ref a2_0)])) rfl rfl (hb hby d2_2)) ?_
  refine own_s (g' := (mkF m 4 #[.val (.ref a2_0), .val (.int 1), .val (.int 3), .unset] [(.ref a2_0), (.int y1)])) (fun _ kz => XS.aloadN X0.here hx rfl (hb hby d2_3) rfl rfl kz) ?_
  refine own_s (g' := (mkF m 5 #[.val (.ref a2_0), .val (.int 1), .val (.int 3), .unset] [(.int 3), (.ref a2_0), (.int y1)])) (fun _ kz => XS.iloadN X0.here hx rfl (hb hby d2_4) rfl kz) ?_
  obtain ⟨cl75, Ar75, -, S75, -, H75, -⟩ := id V_a2_0
  have in75 := inb_of S75 (j := (3 : Int32)) ⟨by decide, by decide⟩
  refine own_s (g' := (mkF m 6 #[.val (.ref a2_0), .val (.int 1), .val (.int 3), .unset] [(.int y3), (.int y1)])) (X0.iaload hx (j := (3 : Int32)) (v := (.int y3)) (by rw [e0]; exact Ar75.1) (State.isArrayOf_alike hZ.alike Ar75.2.1) Ar75.2.2 in75 (Has.at H75 in75 rfl) (g := (mkF m 5 #[.val (.ref a2_0), .val (.int 1), .val (.int 3), .unset] [(.int 3), (.ref a2_0), (.int y1)])) rfl rfl (hb hby d2_5)) ?_
  by_cases c76 : y1 < y3
  ·skip
   refine own_s (g' := (mkF m 9 #[.val (.ref a2_0), .val (.int 1), .val (.int 3), .unset] [])) (fun _ kz => XS.icmpNo X0.here hx rfl (hb hby d2_6) rfl (tlt c76).2.1 kz) ?_
   refine own_s (g' := (mkF m 10 #[.val (.ref a2_0), .val (.int 1), .val (.int 3), .unset] [(.ref a2_0)])) (fun _ kz => XS.aloadN X0.here hx rfl (hb hby d2_9) rfl rfl kz) ?_
   refine own_s (g' := (mkF m 11 #[.val (.ref a2_0), .val (.int 1), .val (.int 3), .unset] [(.int 1), (.ref a2_0)])) (fun _ kz => XS.iloadN X0.here hx rfl (hb hby d2_10) rfl kz) ?_
   obtain ⟨cl77, Ar77, -, S77, -, H77, -⟩ := id V_a2_0
   have in77 := inb_of S77 (j := (1 : Int32)) ⟨by decide, by decide⟩
   refine own_s (g' := (mkF m 12 #[.val (.ref a2_0), .val (.int 1), .val (.int 3), .unset] [(.int y1)])) (X0.iaload hx (j := (1 : Int32)) (v := (.int y1)) (by rw [e0]; exact Ar77.1) (State.isArrayOf_alike hZ.alike Ar77.2.1) Ar77.2.2 in77 (Has.at H77 in77 rfl) (g := (mkF m 11 #[.val (.ref a2_0), .val (.int 1), .val (.int 3), .unset] [(.int 1), (.ref a2_0)])) rfl rfl (hb hby d2_11)) ?_
   refine own_s (g' := (mkF m 13 #[.val (.ref a2_0), .val (.int 1), .val (.int 3), .val (.int y1)] [])) (fun _ kz => XS.istoreN X0.here hx rfl (hb hby d2_12) rfl (l' := #[.val (.ref a2_0), .val (.int 1), .val (.int 3), .val (.int y1)]) rfl kz) ?_
   refine own_s (g' := (mkF m 14 #[.val (.ref a2_0), .val (.int 1), .val (.int 3), .val (.int y1)] [(.ref a2_0)])) (fun _ kz => XS.aloadN X0.here hx rfl (hb hby d2_13) rfl rfl kz) ?_
   refine own_s (g' := (mkF m 15 #[.val (.ref a2_0), .val (.int 1), .val (.int 3), .val (.int y1)] [(.int 1), (.ref a2_0)])) (fun _ kz => XS.iloadN X0.here hx rfl (hb hby d2_14) rfl kz) ?_
   refine own_s (g' := (mkF m 16 #[.val (.ref a2_0), .val (.int 1), .val (.int 3), .val (.int y1)] [(.ref a2_0), (.int 1), (.ref a2_0)])) (fun _ kz => XS.aloadN X0.here hx rfl (hb hby d2_15) rfl rfl kz) ?_
   refine own_s (g' := (mkF m 17 #[.val (.ref a2_0), .val (.int 1), .val (.int 3), .val (.int y1)] [(.int 3), (.ref a2_0), (.int 1), (.ref a2_0)])) (fun _ kz => XS.iloadN X0.here hx rfl (hb hby d2_16) rfl kz) ?_
   obtain ⟨cl78, Ar78, -, S78, -, H78, -⟩ := id V_a2_0
   have in78 := inb_of S78 (j := (3 : Int32)) ⟨by decide, by decide⟩
   refine own_s (g' := (mkF m 18 #[.val (.ref a2_0), .val (.int 1), .val (.int 3), .val (.int y1)] [(.int y3), (.int 1), (.ref a2_0)])) (X0.iaload hx (j := (3 : Int32)) (v := (.int y3)) (by rw [e0]; exact Ar78.1) (State.isArrayOf_alike hZ.alike Ar78.2.1) Ar78.2.2 in78 (Has.at H78 in78 rfl) (g := (mkF m 17 #[.val (.ref a2_0), .val (.int 1), .val (.int 3), .val (.int y1)] [(.int 3), (.ref a2_0), (.int 1), (.ref a2_0)])) rfl rfl (hb hby d2_17)) ?_
   obtain ⟨cl79, Ar79, q79, S79, M79, H79, G79⟩ := id V_a2_0
   obtain ⟨T79, h79, X79, e79, W79, st79⟩ := stI X0 hx hZ e0 Ar79 (j := (1 : Int32)) (inb_of S79 ⟨by decide, by decide⟩) (g := (mkF m 18 #[.val (.ref a2_0), .val (.int 1), .val (.int 3), .val (.int y1)] [(.int y3), (.int 1), (.ref a2_0)])) rfl rfl (hb hby d2_18)
   have f80 : Arv Z h79 a2_0 ky .int (5 : Int32) [(.int y0), (.int y3), (.int y2), (.int y3), (.int y4)] (.int 0) := Arv.set Ar79 q79 S79 M79 H79 G79 rfl W79 1 rfl (Nat.le_of_ble_eq_true rfl)
   have K79 := K0.wr W79 (Or.inl (List.mem_of_getElem? (i := 0) rfl))
   have N79 := Fr.snoc X79 N0 g_a2_0
   refine own_s (g' := (mkF m 19 #[.val (.ref a2_0), .val (.int 1), .val (.int 3), .val (.int y1)] [])) st79 ?_
   refine own_s (g' := (mkF m 20 #[.val (.ref a2_0), .val (.int 1), .val (.int 3), .val (.int y1)] [(.ref a2_0)])) (fun _ kz => XS.aloadN X79.here hx rfl (hb hby d2_19) rfl rfl kz) ?_
   refine own_s (g' := (mkF m 21 #[.val (.ref a2_0), .val (.int 1), .val (.int 3), .val (.int y1)] [(.int 3), (.ref a2_0)])) (fun _ kz => XS.iloadN X79.here hx rfl (hb hby d2_20) rfl kz) ?_
   refine own_s (g' := (mkF m 22 #[.val (.ref a2_0), .val (.int 1), .val (.int 3), .val (.int y1)] [(.int y1), (.int 3), (.ref a2_0)])) (fun _ kz => XS.iloadN X79.here hx rfl (hb hby d2_21) rfl kz) ?_
   obtain ⟨cl81, Ar81, q81, S81, M81, H81, G81⟩ := id f80
   obtain ⟨T81, h81, X81, e81, W81, st81⟩ := stI X79 hx hZ e79 Ar81 (j := (3 : Int32)) (inb_of S81 ⟨by decide, by decide⟩) (g := (mkF m 22 #[.val (.ref a2_0), .val (.int 1), .val (.int 3), .val (.int y1)] [(.int y1), (.int 3), (.ref a2_0)])) rfl rfl (hb hby d2_22)
   have f82 : Arv Z h81 a2_0 ky .int (5 : Int32) [(.int y0), (.int y3), (.int y2), (.int y1), (.int y4)] (.int 0) := Arv.set Ar81 q81 S81 M81 H81 G81 rfl W81 3 rfl (Nat.le_of_ble_eq_true rfl)
   have K81 := K79.wr W81 (Or.inl (List.mem_of_getElem? (i := 0) rfl))
   have N81 := Fr.snoc X81 N79 g_a2_0
   refine own_s (g' := (mkF m 23 #[.val (.ref a2_0), .val (.int 1), .val (.int 3), .val (.int y1)] [])) st81 ?_
   refine own_retV X81 hx hlk hret (hb hby d2_23) (by decide) (by decide) ?_
   show Q2p13 Z a2_0 ky y0 y1 y2 y3 y4 h0 n0 _ T81.heap _
   rw [e81]
   exact ⟨rfl, N81, K81, (by rw [show (w2p13_a2_0_1 y1 y3) = y3 from (if_pos c76), show (w2p13_a2_0_3 y1 y3) = y1 from (if_pos c76)]; exact f82)⟩
  ·skip
   refine own_s (g' := (mkF m 23 #[.val (.ref a2_0), .val (.int 1), .val (.int 3), .unset] [])) (fun _ kz => XS.icmpYes X0.here hx rfl (pc0 := 6) (pc' := 23) rfl (hb hby d2_6) rfl (flt c76).2.1 (by decide) (by decide) kz) ?_
   refine own_retV X0 hx hlk hret (hb hby d2_23) (by decide) (by decide) ?_
   show Q2p13 Z a2_0 ky y0 y1 y2 y3 y4 h0 n0 _ s₁.heap _
   rw [e0]
   exact ⟨rfl, N0, K0, (by rw [show (w2p13_a2_0_1 y1 y3) = y1 from (if_neg c76), show (w2p13_a2_0_3 y1 y3) = y3 from (if_neg c76)]; exact V_a2_0)⟩
theorem ef_2p12 (m : MethodId) (a2_0 : Addr) : entryFrame m #[(.ref a2_0), (.int 1), (.int 2)] 4 = mkF m 0 #[.val (.ref a2_0), .val (.int 1), .val (.int 2), .unset] [] := by first | (simp [entryFrame, mkF, argsToLocals, Value.category]; done) | rfl
def w2p12_a2_0_1 (y1 : Int32) (y2 : Int32) : Int32 := (if y1 < y2 then y2 else y1)
def w2p12_a2_0_2 (y1 : Int32) (y2 : Int32) : Int32 := (if y1 < y2 then y1 else y2)
def Q2p12 (Z : State) (a2_0 : Addr) (ky : ClassId) (y0 : Int32) (y1 : Int32) (y2 : Int32) (y3 : Int32) (y4 : Int32) (h0 : Heap) (n0 : Nat) (v : Option Value) (h : Heap) (L : List Loc) : Prop := v = none ∧ Fr n0 L ∧ Keep h0 h [a2_0] ∧ Arv Z h a2_0 ky .int (5 : Int32) [(.int y0), (.int (w2p12_a2_0_1 y1 y2)), (.int (w2p12_a2_0_2 y1 y2)), (.int y3), (.int y4)] (.int 0)
set_option maxRecDepth 65536 in
set_option maxHeartbeats 40000000 in
theorem rm2p12 (l : Launch) (Z : State) (a0 : Array Value) (hw : ∀ d ∈ tables_1, d.before a0 Z = true) (ws : List Jvm.Cond) (a2_0 : Addr) (ky : ClassId) (y0 : Int32) (y1 : Int32) (y2 : Int32) (y3 : Int32) (y4 : Int32) (h0 : Heap) (n0 : Nat) (Z0 : n0 ≤ h0.size) (V_a2_0 : Arv Z h0 a2_0 ky .int (5 : Int32) [(.int y0), (.int y1), (.int y2), (.int y3), (.int y4)] (.int 0)) (g_a2_0 : n0 ≤ a2_0) :
    MetFree l (⟨"gallai/service/GraphicalitySlacksPinLaw", "order", "([III)V"⟩ : MethodName) (head1 (Jvm.Cond.code (⟨"gallai/service/GraphicalitySlacksPinLaw", "order", "([III)V"⟩ : MethodName) method_4_code 4 none :: ws) ({ frames := 0, cells := 0, slots := 0, locals := 0 } : Room)) (fun a U => a = #[(.ref a2_0), (.int 1), (.int 2)] ∧ Z.Warmed39 U.vm ∧ U.heap = h0) (fun _ _ _ _ _ => True) (fun _ U o U' => ∃ v L, o = .returned v ∧ Q2p12 Z a2_0 ky y0 y1 y2 y3 y4 h0 n0 v U'.heap L ∧ FrameEnd U o U' L ({ frames := 0, cells := 0, slots := 0, locals := 0 } : Room).cells ({ frames := 0, cells := 0, slots := 0, locals := 0 } : Room).slots) := by
  refine MetFree.of_bodySF (plainFor_of_name pn_gallai_service_GraphicalitySlacksPinLaw) hisR ?_
  intro p e s m args below meth c s₁ Bd hml0 hP hK
  obtain ⟨rfl, hZ, hh⟩ := hP
  have hx := Bd.exec
  have hby := Bd.bytes
  have hlk := Bd.notSynchronized
  have hret := Bd.returns
  have hml : c.maxLocals = 4 := hml0
  have hown : s.vm.findClass "gallai/service/GraphicalitySlacksPinLaw" = some m.cls := findClass_of_methodNamed Bd.named
  have hnm := (name_of_methodNamed Bd.named Bd.method).1
  have X0 : Stand p l e ({ frames := 0, cells := 0, slots := 0, locals := 0 } : Room) s m #[(.ref a2_0), (.int 1), (.int 2)] below meth c s₁ [] 0 0 := Stand.of_body Bd
  have e0 : s₁.heap = h0 := by rw [← hh, Bd.state]; rfl
  have N0 := Fr.nil n0
  have K0 : Keep h0 h0 [a2_0] := Keep.refl _ _
  show own_G p e below s (Q2p12 Z a2_0 ky y0 y1 y2 y3 y4 h0 n0) ({ frames := 0, cells := 0, slots := 0, locals := 0 } : Room).cells ({ frames := 0, cells := 0, slots := 0, locals := 0 } : Room).slots s₁ (entryFrame m #[(.ref a2_0), (.int 1), (.int 2)] 4)
  refine own_cast (ef_2p12 m a2_0) ?_
  refine own_s (g' := (mkF m 1 #[.val (.ref a2_0), .val (.int 1), .val (.int 2), .unset] [(.ref a2_0)])) (fun _ kz => XS.aloadN X0.here hx rfl (hb hby d2_0) rfl rfl kz) ?_
  refine own_s (g' := (mkF m 2 #[.val (.ref a2_0), .val (.int 1), .val (.int 2), .unset] [(.int 1), (.ref a2_0)])) (fun _ kz => XS.iloadN X0.here hx rfl (hb hby d2_1) rfl kz) ?_
  obtain ⟨cl83, Ar83, -, S83, -, H83, -⟩ := id V_a2_0
  have in83 := inb_of S83 (j := (1 : Int32)) ⟨by decide, by decide⟩
  refine own_s (g' := (mkF m 3 #[.val (.ref a2_0), .val (.int 1), .val (.int 2), .unset] [(.int y1)])) (X0.iaload hx (j := (1 : Int32)) (v := (.int y1)) (by rw [e0]; exact Ar83.1) (State.isArrayOf_alike hZ.alike Ar83.2.1) Ar83.2.2 in83 (Has.at H83 in83 rfl) (g := (mkF m 2 #[.val (.ref a2_0), .val (.int 1), .val (.int 2), .unset] [(.int 1), (.ref a2_0)])) rfl rfl (hb hby d2_2)) ?_
  refine own_s (g' := (mkF m 4 #[.val (.ref a2_0), .val (.int 1), .val (.int 2), .unset] [(.ref a2_0), (.int y1)])) (fun _ kz => XS.aloadN X0.here hx rfl (hb hby d2_3) rfl rfl kz) ?_
  refine own_s (g' := (mkF m 5 #[.val (.ref a2_0), .val (.int 1), .val (.int 2), .unset] [(.int 2), (.ref a2_0), (.int y1)])) (fun _ kz => XS.iloadN X0.here hx rfl (hb hby d2_4) rfl kz) ?_
  obtain ⟨cl84, Ar84, -, S84, -, H84, -⟩ := id V_a2_0
  have in84 := inb_of S84 (j := (2 : Int32)) ⟨by decide, by decide⟩
  refine own_s (g' := (mkF m 6 #[.val (.ref a2_0), .val (.int 1), .val (.int 2), .unset] [(.int y2), (.int y1)])) (X0.iaload hx (j := (2 : Int32)) (v := (.int y2)) (by rw [e0]; exact Ar84.1) (State.isArrayOf_alike hZ.alike Ar84.2.1) Ar84.2.2 in84 (Has.at H84 in84 rfl) (g := (mkF m 5 #[.val (.ref a2_0), .val (.int 1), .val (.int 2), .unset] [(.int 2), (.ref a2_0), (.int y1)])) rfl rfl (hb hby d2_5)) ?_
  by_cases c85 : y1 < y2
  ·skip
   refine own_s (g' := (mkF m 9 #[.val (.ref a2_0), .val (.int 1), .val (.int 2), .unset] [])) (fun _ kz => XS.icmpNo X0.here hx rfl (hb hby d2_6) rfl (tlt c85).2.1 kz) ?_
   refine own_s (g' := (mkF m 10 #[.val (.ref a2_0), .val (.int 1), .val (.int 2), .unset] [(.ref a2_0)])) (fun _ kz => XS.aloadN X0.here hx rfl (hb hby d2_9) rfl rfl kz) ?_
   refine own_s (g' := (mkF m 11 #[.val (.ref a2_0), .val (.int 1), .val (.int 2), .unset] [(.int 1), (.ref a2_0)])) (fun _ kz => XS.iloadN X0.here hx rfl (hb hby d2_10) rfl kz) ?_
   obtain ⟨cl86, Ar86, -, S86, -, H86, -⟩ := id V_a2_0
   have in86 := inb_of S86 (j := (1 : Int32)) ⟨by decide, by decide⟩
   refine own_s (g' := (mkF m 12 #[.val (.ref a2_0), .val (.int 1), .val (.int 2), .unset] [(.int y1)])) (X0.iaload hx (j := (1 : Int32)) (v := (.int y1)) (by rw [e0]; exact Ar86.1) (State.isArrayOf_alike hZ.alike Ar86.2.1) Ar86.2.2 in86 (Has.at H86 in86 rfl) (g := (mkF m 11 #[.val (.ref a2_0), .val (.int 1), .val (.int 2), .unset] [(.int 1), (.ref a2_0)])) rfl rfl (hb hby d2_11)) ?_
   refine own_s (g' := (mkF m 13 #[.val (.ref a2_0), .val (.int 1), .val (.int 2), .val (.int y1)] [])) (fun _ kz => XS.istoreN X0.here hx rfl (hb hby d2_12) rfl (l' := #[.val (.ref a2_0), .val (.int 1), .val (.int 2), .val (.int y1)]) rfl kz) ?_
   refine own_s (g' := (mkF m 14 #[.val (.ref a2_0), .val (.int 1), .val (.int 2), .val (.int y1)] [(.ref a2_0)])) (fun _ kz => XS.aloadN X0.here hx rfl (hb hby d2_13) rfl rfl kz) ?_
   refine own_s (g' := (mkF m 15 #[.val (.ref a2_0), .val (.int 1), .val (.int 2), .val (.int y1)] [(.int 1), (.ref a2_0)])) (fun _ kz => XS.iloadN X0.here hx rfl (hb hby d2_14) rfl kz) ?_
   refine own_s (g' := (mkF m 16 #[.val (.ref a2_0), .val (.int 1), .val (.int 2), .val (.int y1)] [(.ref a2_0), (.int 1), (.ref a2_0)])) (fun _ kz => XS.aloadN X0.here hx rfl (hb hby d2_15) rfl rfl kz) ?_
   refine own_s (g' := (mkF m 17 #[.val (.ref a2_0), .val (.int 1), .val (.int 2), .val (.int y1)] [(.int 2), (.ref a2_0), (.int 1), (.ref a2_0)])) (fun _ kz => XS.iloadN X0.here hx rfl (hb hby d2_16) rfl kz) ?_
   obtain ⟨cl87, Ar87, -, S87, -, H87, -⟩ := id V_a2_0
   have in87 := inb_of S87 (j := (2 : Int32)) ⟨by decide, by decide⟩
   refine own_s (g' := (mkF m 18 #[.val (.ref a2_0), .val (.int 1), .val (.int 2), .val (.int y1)] [(.int y2), (.int 1), (.ref a2_0)])) (X0.iaload hx (j := (2 : Int32)) (v := (.int y2)) (by rw [e0]; exact Ar87.1) (State.isArrayOf_alike hZ.alike Ar87.2.1) Ar87.2.2 in87 (Has.at H87 in87 rfl) (g := (mkF m 17 #[.val (.ref a2_0), .val (.int 1), .val (.int 2), .val (.int y1)] [(.int 2), (.ref a2_0), (.int 1), (.ref a2_0)])) rfl rfl (hb hby d2_17)) ?_
   obtain ⟨cl88, Ar88, q88, S88, M88, H88, G88⟩ := id V_a2_0
   obtain ⟨T88, h88, X88, e88, W88, st88⟩ := stI X0 hx hZ e0 Ar88 (j := (1 : Int32)) (inb_of S88 ⟨by decide, by decide⟩) (g := (mkF m 18 #[.val (.ref a2_0), .val (.int 1), .val (.int 2), .val (.int y1)] [(.int y2), (.int 1), (.ref a2_0)])) rfl rfl (hb hby d2_18)
   have f89 : Arv Z h88 a2_0 ky .int (5 : Int32) [(.int y0), (.int y2), (.int y2), (.int y3), (.int y4)] (.int 0) := Arv.set Ar88 q88 S88 M88 H88 G88 rfl W88 1 rfl (Nat.le_of_ble_eq_true rfl)
   have K88 := K0.wr W88 (Or.inl (List.mem_of_getElem? (i := 0) rfl))
   have N88 := Fr.snoc X88 N0 g_a2_0
   refine own_s (g' := (mkF m 19 #[.val (.ref a2_0), .val (.int 1), .val (.int 2), .val (.int y1)] [])) st88 ?_
   refine own_s (g' := (mkF m 20 #[.val (.ref a2_0), .val (.int 1), .val (.int 2), .val (.int y1)] [(.ref a2_0)])) (fun _ kz => XS.aloadN X88.here hx rfl (hb hby d2_19) rfl rfl kz) ?_
   refine own_s (g' := (mkF m 21 #[.val (.ref a2_0), .val (.int 1), .val (.int 2), .val (.int y1)] [(.int 2), (.ref a2_0)])) (fun _ kz => XS.iloadN X88.here hx rfl (hb hby d2_20) rfl kz) ?_
   refine own_s (g' := (mkF m 22 #[.val (.ref a2_0), .val (.int 1), .val (.int 2), .val (.int y1)] [(.int y1), (.int 2), (.ref a2_0)])) (fun _ kz => XS.iloadN X88.here hx rfl (hb hby d2_21) rfl kz) ?_
   obtain ⟨cl90, Ar90, q90, S90, M90, H90, G90⟩ := id f89
   obtain ⟨T90, h90, X90, e90, W90, st90⟩ := stI X88 hx hZ e88 Ar90 (j := (2 : Int32)) (inb_of S90 ⟨by decide, by decide⟩) (g := (mkF m 22 #[.val (.ref a2_0), .val (.int 1), .val (.int 2), .val (.int y1)] [(.int y1), (.int 2), (.ref a2_0)])) rfl rfl (hb hby d2_22)
   have f91 : Arv Z h90 a2_0 ky .int (5 : Int32) [(.int y0), (.int y2), (.int y1), (.int y3), (.int y4)] (.int 0) := Arv.set Ar90 q90 S90 M90 H90 G90 rfl W90 2 rfl (Nat.le_of_ble_eq_true rfl)
   have K90 := K88.wr W90 (Or.inl (List.mem_of_getElem? (i := 0) rfl))
   have N90 := Fr.snoc X90 N88 g_a2_0
   refine own_s (g' := (mkF m 23 #[.val (.ref a2_0), .val (.int 1), .val (.int 2), .val (.int y1)] [])) st90 ?_
   refine own_retV X90 hx hlk hret (hb hby d2_23) (by decide) (by decide) ?_
   show Q2p12 Z a2_0 ky y0 y1 y2 y3 y4 h0 n0 _ T90.heap _
   rw [e90]
   exact ⟨rfl, N90, K90, (by rw [show (w2p12_a2_0_1 y1 y2) = y2 from (if_pos c85), show (w2p12_a2_0_2 y1 y2) = y1 from (if_pos c85)]; exact f91)⟩
  ·skip
   refine own_s (g' := (mkF m 23 #[.val (.ref a2_0), .val (.int 1), .val (.int 2), .unset] [])) (fun _ kz => XS.icmpYes X0.here hx rfl (pc0 := 6) (pc' := 23) rfl (hb hby d2_6) rfl (flt c85).2.1 (by decide) (by decide) kz) ?_
   refine own_retV X0 hx hlk hret (hb hby d2_23) (by decide) (by decide) ?_
   show Q2p12 Z a2_0 ky y0 y1 y2 y3 y4 h0 n0 _ s₁.heap _
   rw [e0]
   exact ⟨rfl, N0, K0, (by rw [show (w2p12_a2_0_1 y1 y2) = y1 from (if_neg c85), show (w2p12_a2_0_2 y1 y2) = y2 from (if_neg c85)]; exact V_a2_0)⟩
theorem pd__II_I : parseMethodDescriptor "(II)I" = some ⟨[.int, .int], some .int⟩ := by decide +kernel
theorem d6_0 : decode method_5_code 0 = .ok (.aload_n 0, 1) := by decide +kernel
theorem d6_1 : decode method_5_code 1 = .ok (.iload_n 1, 1) := by decide +kernel
theorem d6_2 : decode method_5_code 2 = .ok (.iaload, 1) := by decide +kernel
theorem d6_3 : decode method_5_code 3 = .ok (.istore_n 3, 1) := by decide +kernel
theorem d6_4 : decode method_5_code 4 = .ok (.iload_n 1, 1) := by decide +kernel
theorem d6_5 : decode method_5_code 5 = .ok (.iload_n 2, 1) := by decide +kernel
theorem d6_6 : decode method_5_code 6 = .ok (.if_icmp .ge 7, 3) := by decide +kernel
theorem d6_9 : decode method_5_code 9 = .ok (.iload_n 3, 1) := by decide +kernel
theorem d6_10 : decode method_5_code 10 = .ok (.ineg, 1) := by decide +kernel
theorem d6_11 : decode method_5_code 11 = .ok (.i2l, 1) := by decide +kernel
theorem d6_12 : decode method_5_code 12 = .ok (.lreturn, 1) := by decide +kernel
theorem d6_13 : decode method_5_code 13 = .ok (.iload_n 3, 1) := by decide +kernel
theorem d6_14 : decode method_5_code 14 = .ok (.ifCond .ge 5, 3) := by decide +kernel
theorem d6_17 : decode method_5_code 17 = .ok (.lconst 0, 1) := by decide +kernel
theorem d6_18 : decode method_5_code 18 = .ok (.lreturn, 1) := by decide +kernel
theorem d6_19 : decode method_5_code 19 = .ok (.iload_n 2, 1) := by decide +kernel
theorem d6_20 : decode method_5_code 20 = .ok (.iload_n 3, 1) := by decide +kernel
theorem d6_21 : decode method_5_code 21 = .ok (.invokestatic 18, 3) := by decide +kernel
theorem d6_24 : decode method_5_code 24 = .ok (.i2l, 1) := by decide +kernel
theorem d6_25 : decode method_5_code 25 = .ok (.lreturn, 1) := by decide +kernel
theorem ef_6i0 (m : MethodId) (a6_0 : Addr) (p6_2 : Int32) : entryFrame m #[(.ref a6_0), (.int 0), (.int p6_2)] 4 = mkF m 0 #[.val (.ref a6_0), .val (.int 0), .val (.int p6_2), .unset] [] := by first | (simp [entryFrame, mkF, argsToLocals, Value.category]; done) | rfl
def r6i0 (p6_2 : Int32) (y0 : Int32) : Int64 := (if (0 : Int32) < p6_2 then (-y0).toInt64 else (if y0 < (0 : Int32) then (0 : Int64) else (r3 p6_2 y0).toInt64))
def Q6i0 (Z : State) (a6_0 : Addr) (p6_2 : Int32) (ky : ClassId) (y0 : Int32) (y1 : Int32) (y2 : Int32) (y3 : Int32) (y4 : Int32) (h0 : Heap) (n0 : Nat) (v : Option Value) (h : Heap) (L : List Loc) : Prop := v = some (.long (r6i0 p6_2 y0)) ∧ Fr n0 L ∧ h = h0
set_option maxRecDepth 65536 in
set_option maxHeartbeats 40000000 in
theorem rm6i0 (l : Launch) (Z : State) (a0 : Array Value) (hw : ∀ d ∈ tables_1, d.before a0 Z = true) (ws : List Jvm.Cond) (a6_0 : Addr) (p6_2 : Int32) (ky : ClassId) (y0 : Int32) (y1 : Int32) (y2 : Int32) (y3 : Int32) (y4 : Int32) (h0 : Heap) (n0 : Nat) (Z0 : n0 ≤ h0.size) (V_a6_0 : Arv Z h0 a6_0 ky .int (5 : Int32) [(.int y0), (.int y1), (.int y2), (.int y3), (.int y4)] (.int 0)) :
    MetFree l (⟨"gallai/service/GraphicalitySlacksPinLaw", "term", "([III)J"⟩ : MethodName) (head1 (Jvm.Cond.code (⟨"gallai/service/GraphicalitySlacksPinLaw", "term", "([III)J"⟩ : MethodName) method_5_code 4 (some .long) :: ws) ({ frames := 1, cells := 0, slots := 0, locals := 13 } : Room)) (fun a U => a = #[(.ref a6_0), (.int 0), (.int p6_2)] ∧ Z.Warmed39 U.vm ∧ U.heap = h0) (fun _ _ _ _ _ => True) (fun _ U o U' => ∃ v L, o = .returned v ∧ Q6i0 Z a6_0 p6_2 ky y0 y1 y2 y3 y4 h0 n0 v U'.heap L ∧ FrameEnd U o U' L ({ frames := 1, cells := 0, slots := 0, locals := 13 } : Room).cells ({ frames := 1, cells := 0, slots := 0, locals := 13 } : Room).slots) := by
  refine MetFree.of_bodySF (plainFor_of_name pn_gallai_service_GraphicalitySlacksPinLaw) hisR ?_
  intro p e s m args below meth c s₁ Bd hml0 hP hK
  obtain ⟨rfl, hZ, hh⟩ := hP
  have hx := Bd.exec
  have hby := Bd.bytes
  have hlk := Bd.notSynchronized
  have hret := Bd.returns
  have hml : c.maxLocals = 4 := hml0
  have hown : s.vm.findClass "gallai/service/GraphicalitySlacksPinLaw" = some m.cls := findClass_of_methodNamed Bd.named
  have hnm := (name_of_methodNamed Bd.named Bd.method).1
  have X0 : Stand p l e ({ frames := 1, cells := 0, slots := 0, locals := 13 } : Room) s m #[(.ref a6_0), (.int 0), (.int p6_2)] below meth c s₁ [] 0 0 := Stand.of_body Bd
  have e0 : s₁.heap = h0 := by rw [← hh, Bd.state]; rfl
  have N0 := Fr.nil n0
  have K0 : Keep h0 h0 [] := Keep.refl _ _
  show own_G p e below s (Q6i0 Z a6_0 p6_2 ky y0 y1 y2 y3 y4 h0 n0) ({ frames := 1, cells := 0, slots := 0, locals := 13 } : Room).cells ({ frames := 1, cells := 0, slots := 0, locals := 13 } : Room).slots s₁ (entryFrame m #[(.ref a6_0), (.int 0), (.int p6_2)] 4)
  have ww9 := hw _ (List.mem_of_getElem? (i := 9) rfl)
  have ww10 := hw _ (List.mem_of_getElem? (i := 10) rfl)
  have ww11 := hw _ (List.mem_of_getElem? (i := 11) rfl)
  have ww12 := hw _ (List.mem_of_getElem? (i := 12) rfl)
  refine own_cast (ef_6i0 m a6_0 p6_2) ?_
  refine own_s (g' := (mkF m 1 #[.val (.ref a6_0), .val (.int 0), .val (.int p6_2), .unset] [(.ref a6_0)])) (fun _ kz => XS.aloadN X0.here hx rfl (hb hby d6_0) rfl rfl kz) ?_
  refine own_s (g' := (mkF m 2 #[.val (.ref a6_0), .val (.int 0), .val (.int p6_2), .unset] [(.int 0), (.ref a6_0)])) (fun _ kz => XS.iloadN X0.here hx rfl (hb hby d6_1) rfl kz) ?_
  obtain ⟨cl92, Ar92, -, S92, -, H92, -⟩ := id V_a6_0
  have in92 := inb_of S92 (j := (0 : Int32)) ⟨by decide, by decide⟩
  refine own_s (g' := (mkF m 3 #[.val (.ref a6_0), .val (.int 0), .val (.int p6_2), .unset] [(.int y0)])) (X0.iaload hx (j := (0 : Int32)) (v := (.int y0)) (by rw [e0]; exact Ar92.1) (State.isArrayOf_alike hZ.alike Ar92.2.1) Ar92.2.2 in92 (Has.at H92 in92 rfl) (g := (mkF m 2 #[.val (.ref a6_0), .val (.int 0), .val (.int p6_2), .unset] [(.int 0), (.ref a6_0)])) rfl rfl (hb hby d6_2)) ?_
  refine own_s (g' := (mkF m 4 #[.val (.ref a6_0), .val (.int 0), .val (.int p6_2), .val (.int y0)] [])) (fun _ kz => XS.istoreN X0.here hx rfl (hb hby d6_3) rfl (l' := #[.val (.ref a6_0), .val (.int 0), .val (.int p6_2), .val (.int y0)]) rfl kz) ?_
  refine own_s (g' := (mkF m 5 #[.val (.ref a6_0), .val (.int 0), .val (.int p6_2), .val (.int y0)] [(.int 0)])) (fun _ kz => XS.iloadN X0.here hx rfl (hb hby d6_4) rfl kz) ?_
  refine own_s (g' := (mkF m 6 #[.val (.ref a6_0), .val (.int 0), .val (.int p6_2), .val (.int y0)] [(.int p6_2), (.int 0)])) (fun _ kz => XS.iloadN X0.here hx rfl (hb hby d6_5) rfl kz) ?_
  by_cases c93 : (0 : Int32) < p6_2
  ·skip
   refine own_s (g' := (mkF m 9 #[.val (.ref a6_0), .val (.int 0), .val (.int p6_2), .val (.int y0)] [])) (fun _ kz => XS.icmpNo X0.here hx rfl (hb hby d6_6) rfl (tlt c93).2.1 kz) ?_
   refine own_s (g' := (mkF m 10 #[.val (.ref a6_0), .val (.int 0), .val (.int p6_2), .val (.int y0)] [(.int y0)])) (fun _ kz => XS.iloadN X0.here hx rfl (hb hby d6_9) rfl kz) ?_
   refine own_s (g' := (mkF m 11 #[.val (.ref a6_0), .val (.int 0), .val (.int p6_2), .val (.int y0)] [(.int (-y0))])) (fun _ kz => XS.ineg X0.here hx rfl (hb hby d6_10) rfl kz) ?_
   refine own_s (g' := (mkF m 12 #[.val (.ref a6_0), .val (.int 0), .val (.int p6_2), .val (.int y0)] [(.long (-y0).toInt64)])) (fun _ kz => XS.i2l X0.here hx rfl (hb hby d6_11) rfl kz) ?_
   refine own_retJ X0 hx hlk hret (hb hby d6_12) (by decide) (by decide) ?_
   show Q6i0 Z a6_0 p6_2 ky y0 y1 y2 y3 y4 h0 n0 _ s₁.heap _
   rw [e0]
   exact ⟨(congrArg (fun z => some (Value.long z)) (show (-y0).toInt64 = (r6i0 p6_2 y0) from (Eq.symm (if_pos c93)))), N0, rfl⟩
  ·skip
   refine own_s (g' := (mkF m 13 #[.val (.ref a6_0), .val (.int 0), .val (.int p6_2), .val (.int y0)] [])) (fun _ kz => XS.icmpYes X0.here hx rfl (pc0 := 6) (pc' := 13) rfl (hb hby d6_6) rfl (flt c93).2.1 (by decide) (by decide) kz) ?_
   refine own_s (g' := (mkF m 14 #[.val (.ref a6_0), .val (.int 0), .val (.int p6_2), .val (.int y0)] [(.int y0)])) (fun _ kz => XS.iloadN X0.here hx rfl (hb hby d6_13) rfl kz) ?_
   by_cases c94 : y0 < (0 : Int32)
   ·skip
    refine own_s (g' := (mkF m 17 #[.val (.ref a6_0), .val (.int 0), .val (.int p6_2), .val (.int y0)] [])) (fun _ kz => XS.ifNo X0.here hx rfl (hb hby d6_14) rfl ((if0 _ _).trans (tlt c94).2.1) kz) ?_
    refine own_s (g' := (mkF m 18 #[.val (.ref a6_0), .val (.int 0), .val (.int p6_2), .val (.int y0)] [(.long 0)])) (fun _ kz => XS.lconst X0.here hx rfl (hb hby d6_17) kz) ?_
    refine own_retJ X0 hx hlk hret (hb hby d6_18) (by decide) (by decide) ?_
    show Q6i0 Z a6_0 p6_2 ky y0 y1 y2 y3 y4 h0 n0 _ s₁.heap _
    rw [e0]
    exact ⟨(congrArg (fun z => some (Value.long z)) (show (0 : Int64) = (r6i0 p6_2 y0) from (Eq.symm ((if_neg c93).trans (if_pos c94))))), N0, rfl⟩
   ·skip
    refine own_s (g' := (mkF m 19 #[.val (.ref a6_0), .val (.int 0), .val (.int p6_2), .val (.int y0)] [])) (fun _ kz => XS.ifYes X0.here hx rfl (pc0 := 14) (pc' := 19) rfl (hb hby d6_14) rfl ((if0 _ _).trans (flt c94).2.1) (by decide) (by decide) kz) ?_
    refine own_s (g' := (mkF m 20 #[.val (.ref a6_0), .val (.int 0), .val (.int p6_2), .val (.int y0)] [(.int p6_2)])) (fun _ kz => XS.iloadN X0.here hx rfl (hb hby d6_19) rfl kz) ?_
    refine own_s (g' := (mkF m 21 #[.val (.ref a6_0), .val (.int 0), .val (.int p6_2), .val (.int y0)] [(.int y0), (.int p6_2)])) (fun _ kz => XS.iloadN X0.here hx rfl (hb hby d6_20) rfl kz) ?_
    obtain ⟨_, _, ⟨T95, L95, k95, n95⟩, -, X95, ⟨Lc95, hQ95, l95, y95, z95⟩, st95⟩ := Jvm.LawKit.callS X0 hx (y := (⟨"java/lang/Math", "min", "(II)I"⟩ : MethodName)) hown (mvT hZ ww9) (mvT hZ ww10) (mvT hZ ww11) (mvT hZ ww12) (by decide) (backOf (W := 0) (rm3 l Z a0 hw [] p6_2 y0 h0 n0 Z0 ) hZ ww12 ww11 (by decide) (by decide)) (g := (mkF m 21 #[.val (.ref a6_0), .val (.int 0), .val (.int p6_2), .val (.int y0)] [(.int y0), (.int p6_2)])) rfl (by rw [hml]; rfl) (argsL := [(.int p6_2), (.int y0)]) (rest := []) (lenOf pd__II_I rfl) rfl (by show 2 * 0 + _ ≤ _; exact Nat.le_of_eq rfl) (hb hby d6_21) (fun _ _ => ⟨rfl, e0, (by decide : 0 + 0 ≤ _), (by decide : 0 + 0 ≤ _)⟩)
    dsimp only [Pt.U, Pt.locs, Pt.cells, Pt.slots] at X95 l95 y95 z95 st95 hQ95
    subst l95 y95 z95
    obtain ⟨rfl, N95q, eh95⟩ := hQ95
    have N95 := Fr.app N0 N95q
    refine own_s (g' := (mkF m 24 #[.val (.ref a6_0), .val (.int 0), .val (.int p6_2), .val (.int y0)] [(.int (r3 p6_2 y0))])) st95 ?_
    refine own_s (g' := (mkF m 25 #[.val (.ref a6_0), .val (.int 0), .val (.int p6_2), .val (.int y0)] [(.long (r3 p6_2 y0).toInt64)])) (fun _ kz => XS.i2l X95.here hx rfl (hb hby d6_24) rfl kz) ?_
    refine own_retJ X95 hx hlk hret (hb hby d6_25) (by decide) (by decide) ?_
    show Q6i0 Z a6_0 p6_2 ky y0 y1 y2 y3 y4 h0 n0 _ T95.heap _
    rw [eh95]
    exact ⟨(congrArg (fun z => some (Value.long z)) (show (r3 p6_2 y0).toInt64 = (r6i0 p6_2 y0) from (Eq.symm ((if_neg c93).trans (if_neg c94))))), N95, rfl⟩
theorem ef_6i1 (m : MethodId) (a6_0 : Addr) (p6_2 : Int32) : entryFrame m #[(.ref a6_0), (.int 1), (.int p6_2)] 4 = mkF m 0 #[.val (.ref a6_0), .val (.int 1), .val (.int p6_2), .unset] [] := by first | (simp [entryFrame, mkF, argsToLocals, Value.category]; done) | rfl
def r6i1 (p6_2 : Int32) (y1 : Int32) : Int64 := (if (1 : Int32) < p6_2 then (-y1).toInt64 else (if y1 < (0 : Int32) then (0 : Int64) else (r3 p6_2 y1).toInt64))
def Q6i1 (Z : State) (a6_0 : Addr) (p6_2 : Int32) (ky : ClassId) (y0 : Int32) (y1 : Int32) (y2 : Int32) (y3 : Int32) (y4 : Int32) (h0 : Heap) (n0 : Nat) (v : Option Value) (h : Heap) (L : List Loc) : Prop := v = some (.long (r6i1 p6_2 y1)) ∧ Fr n0 L ∧ h = h0
set_option maxRecDepth 65536 in
set_option maxHeartbeats 40000000 in
theorem rm6i1 (l : Launch) (Z : State) (a0 : Array Value) (hw : ∀ d ∈ tables_1, d.before a0 Z = true) (ws : List Jvm.Cond) (a6_0 : Addr) (p6_2 : Int32) (ky : ClassId) (y0 : Int32) (y1 : Int32) (y2 : Int32) (y3 : Int32) (y4 : Int32) (h0 : Heap) (n0 : Nat) (Z0 : n0 ≤ h0.size) (V_a6_0 : Arv Z h0 a6_0 ky .int (5 : Int32) [(.int y0), (.int y1), (.int y2), (.int y3), (.int y4)] (.int 0)) :
    MetFree l (⟨"gallai/service/GraphicalitySlacksPinLaw", "term", "([III)J"⟩ : MethodName) (head1 (Jvm.Cond.code (⟨"gallai/service/GraphicalitySlacksPinLaw", "term", "([III)J"⟩ : MethodName) method_5_code 4 (some .long) :: ws) ({ frames := 1, cells := 0, slots := 0, locals := 13 } : Room)) (fun a U => a = #[(.ref a6_0), (.int 1), (.int p6_2)] ∧ Z.Warmed39 U.vm ∧ U.heap = h0) (fun _ _ _ _ _ => True) (fun _ U o U' => ∃ v L, o = .returned v ∧ Q6i1 Z a6_0 p6_2 ky y0 y1 y2 y3 y4 h0 n0 v U'.heap L ∧ FrameEnd U o U' L ({ frames := 1, cells := 0, slots := 0, locals := 13 } : Room).cells ({ frames := 1, cells := 0, slots := 0, locals := 13 } : Room).slots) := by
  refine MetFree.of_bodySF (plainFor_of_name pn_gallai_service_GraphicalitySlacksPinLaw) hisR ?_
  intro p e s m args below meth c s₁ Bd hml0 hP hK
  obtain ⟨rfl, hZ, hh⟩ := hP
  have hx := Bd.exec
  have hby := Bd.bytes
  have hlk := Bd.notSynchronized
  have hret := Bd.returns
  have hml : c.maxLocals = 4 := hml0
  have hown : s.vm.findClass "gallai/service/GraphicalitySlacksPinLaw" = some m.cls := findClass_of_methodNamed Bd.named
  have hnm := (name_of_methodNamed Bd.named Bd.method).1
  have X0 : Stand p l e ({ frames := 1, cells := 0, slots := 0, locals := 13 } : Room) s m #[(.ref a6_0), (.int 1), (.int p6_2)] below meth c s₁ [] 0 0 := Stand.of_body Bd
  have e0 : s₁.heap = h0 := by rw [← hh, Bd.state]; rfl
  have N0 := Fr.nil n0
  have K0 : Keep h0 h0 [] := Keep.refl _ _
  show own_G p e below s (Q6i1 Z a6_0 p6_2 ky y0 y1 y2 y3 y4 h0 n0) ({ frames := 1, cells := 0, slots := 0, locals := 13 } : Room).cells ({ frames := 1, cells := 0, slots := 0, locals := 13 } : Room).slots s₁ (entryFrame m #[(.ref a6_0), (.int 1), (.int p6_2)] 4)
  have ww9 := hw _ (List.mem_of_getElem? (i := 9) rfl)
  have ww10 := hw _ (List.mem_of_getElem? (i := 10) rfl)
  have ww11 := hw _ (List.mem_of_getElem? (i := 11) rfl)
  have ww12 := hw _ (List.mem_of_getElem? (i := 12) rfl)
  refine own_cast (ef_6i1 m a6_0 p6_2) ?_
  refine own_s (g' := (mkF m 1 #[.val (.ref a6_0), .val (.int 1), .val (.int p6_2), .unset] [(.ref a6_0)])) (fun _ kz => XS.aloadN X0.here hx rfl (hb hby d6_0) rfl rfl kz) ?_
  refine own_s (g' := (mkF m 2 #[.val (.ref a6_0), .val (.int 1), .val (.int p6_2), .unset] [(.int 1), (.ref a6_0)])) (fun _ kz => XS.iloadN X0.here hx rfl (hb hby d6_1) rfl kz) ?_
  obtain ⟨cl96, Ar96, -, S96, -, H96, -⟩ := id V_a6_0
  have in96 := inb_of S96 (j := (1 : Int32)) ⟨by decide, by decide⟩
  refine own_s (g' := (mkF m 3 #[.val (.ref a6_0), .val (.int 1), .val (.int p6_2), .unset] [(.int y1)])) (X0.iaload hx (j := (1 : Int32)) (v := (.int y1)) (by rw [e0]; exact Ar96.1) (State.isArrayOf_alike hZ.alike Ar96.2.1) Ar96.2.2 in96 (Has.at H96 in96 rfl) (g := (mkF m 2 #[.val (.ref a6_0), .val (.int 1), .val (.int p6_2), .unset] [(.int 1), (.ref a6_0)])) rfl rfl (hb hby d6_2)) ?_
  refine own_s (g' := (mkF m 4 #[.val (.ref a6_0), .val (.int 1), .val (.int p6_2), .val (.int y1)] [])) (fun _ kz => XS.istoreN X0.here hx rfl (hb hby d6_3) rfl (l' := #[.val (.ref a6_0), .val (.int 1), .val (.int p6_2), .val (.int y1)]) rfl kz) ?_
  refine own_s (g' := (mkF m 5 #[.val (.ref a6_0), .val (.int 1), .val (.int p6_2), .val (.int y1)] [(.int 1)])) (fun _ kz => XS.iloadN X0.here hx rfl (hb hby d6_4) rfl kz) ?_
  refine own_s (g' := (mkF m 6 #[.val (.ref a6_0), .val (.int 1), .val (.int p6_2), .val (.int y1)] [(.int p6_2), (.int 1)])) (fun _ kz => XS.iloadN X0.here hx rfl (hb hby d6_5) rfl kz) ?_
  by_cases c97 : (1 : Int32) < p6_2
  ·skip
   refine own_s (g' := (mkF m 9 #[.val (.ref a6_0), .val (.int 1), .val (.int p6_2), .val (.int y1)] [])) (fun _ kz => XS.icmpNo X0.here hx rfl (hb hby d6_6) rfl (tlt c97).2.1 kz) ?_
   refine own_s (g' := (mkF m 10 #[.val (.ref a6_0), .val (.int 1), .val (.int p6_2), .val (.int y1)] [(.int y1)])) (fun _ kz => XS.iloadN X0.here hx rfl (hb hby d6_9) rfl kz) ?_
   refine own_s (g' := (mkF m 11 #[.val (.ref a6_0), .val (.int 1), .val (.int p6_2), .val (.int y1)] [(.int (-y1))])) (fun _ kz => XS.ineg X0.here hx rfl (hb hby d6_10) rfl kz) ?_
   refine own_s (g' := (mkF m 12 #[.val (.ref a6_0), .val (.int 1), .val (.int p6_2), .val (.int y1)] [(.long (-y1).toInt64)])) (fun _ kz => XS.i2l X0.here hx rfl (hb hby d6_11) rfl kz) ?_
   refine own_retJ X0 hx hlk hret (hb hby d6_12) (by decide) (by decide) ?_
   show Q6i1 Z a6_0 p6_2 ky y0 y1 y2 y3 y4 h0 n0 _ s₁.heap _
   rw [e0]
   exact ⟨(congrArg (fun z => some (Value.long z)) (show (-y1).toInt64 = (r6i1 p6_2 y1) from (Eq.symm (if_pos c97)))), N0, rfl⟩
  ·skip
   refine own_s (g' := (mkF m 13 #[.val (.ref a6_0), .val (.int 1), .val (.int p6_2), .val (.int y1)] [])) (fun _ kz => XS.icmpYes X0.here hx rfl (pc0 := 6) (pc' := 13) rfl (hb hby d6_6) rfl (flt c97).2.1 (by decide) (by decide) kz) ?_
   refine own_s (g' := (mkF m 14 #[.val (.ref a6_0), .val (.int 1), .val (.int p6_2), .val (.int y1)] [(.int y1)])) (fun _ kz => XS.iloadN X0.here hx rfl (hb hby d6_13) rfl kz) ?_
   by_cases c98 : y1 < (0 : Int32)
   ·skip
    refine own_s (g' := (mkF m 17 #[.val (.ref a6_0), .val (.int 1), .val (.int p6_2), .val (.int y1)] [])) (fun _ kz => XS.ifNo X0.here hx rfl (hb hby d6_14) rfl ((if0 _ _).trans (tlt c98).2.1) kz) ?_
    refine own_s (g' := (mkF m 18 #[.val (.ref a6_0), .val (.int 1), .val (.int p6_2), .val (.int y1)] [(.long 0)])) (fun _ kz => XS.lconst X0.here hx rfl (hb hby d6_17) kz) ?_
    refine own_retJ X0 hx hlk hret (hb hby d6_18) (by decide) (by decide) ?_
    show Q6i1 Z a6_0 p6_2 ky y0 y1 y2 y3 y4 h0 n0 _ s₁.heap _
    rw [e0]
    exact ⟨(congrArg (fun z => some (Value.long z)) (show (0 : Int64) = (r6i1 p6_2 y1) from (Eq.symm ((if_neg c97).trans (if_pos c98))))), N0, rfl⟩
   ·skip
    refine own_s (g' := (mkF m 19 #[.val (.ref a6_0), .val (.int 1), .val (.int p6_2), .val (.int y1)] [])) (fun _ kz => XS.ifYes X0.here hx rfl (pc0 := 14) (pc' := 19) rfl (hb hby d6_14) rfl ((if0 _ _).trans (flt c98).2.1) (by decide) (by decide) kz) ?_
    refine own_s (g' := (mkF m 20 #[.val (.ref a6_0), .val (.int 1), .val (.int p6_2), .val (.int y1)] [(.int p6_2)])) (fun _ kz => XS.iloadN X0.here hx rfl (hb hby d6_19) rfl kz) ?_
    refine own_s (g' := (mkF m 21 #[.val (.ref a6_0), .val (.int 1), .val (.int p6_2), .val (.int y1)] [(.int y1), (.int p6_2)])) (fun _ kz => XS.iloadN X0.here hx rfl (hb hby d6_20) rfl kz) ?_
    obtain ⟨_, _, ⟨T99, L99, k99, n99⟩, -, X99, ⟨Lc99, hQ99, l99, y99, z99⟩, st99⟩ := Jvm.LawKit.callS X0 hx (y := (⟨"java/lang/Math", "min", "(II)I"⟩ : MethodName)) hown (mvT hZ ww9) (mvT hZ ww10) (mvT hZ ww11) (mvT hZ ww12) (by decide) (backOf (W := 0) (rm3 l Z a0 hw [] p6_2 y1 h0 n0 Z0 ) hZ ww12 ww11 (by decide) (by decide)) (g := (mkF m 21 #[.val (.ref a6_0), .val (.int 1), .val (.int p6_2), .val (.int y1)] [(.int y1), (.int p6_2)])) rfl (by rw [hml]; rfl) (argsL := [(.int p6_2), (.int y1)]) (rest := []) (lenOf pd__II_I rfl) rfl (by show 2 * 0 + _ ≤ _; exact Nat.le_of_eq rfl) (hb hby d6_21) (fun _ _ => ⟨rfl, e0, (by decide : 0 + 0 ≤ _), (by decide : 0 + 0 ≤ _)⟩)
    dsimp only [Pt.U, Pt.locs, Pt.cells, Pt.slots] at X99 l99 y99 z99 st99 hQ99
    subst l99 y99 z99
    obtain ⟨rfl, N99q, eh99⟩ := hQ99
    have N99 := Fr.app N0 N99q
    refine own_s (g' := (mkF m 24 #[.val (.ref a6_0), .val (.int 1), .val (.int p6_2), .val (.int y1)] [(.int (r3 p6_2 y1))])) st99 ?_
    refine own_s (g' := (mkF m 25 #[.val (.ref a6_0), .val (.int 1), .val (.int p6_2), .val (.int y1)] [(.long (r3 p6_2 y1).toInt64)])) (fun _ kz => XS.i2l X99.here hx rfl (hb hby d6_24) rfl kz) ?_
    refine own_retJ X99 hx hlk hret (hb hby d6_25) (by decide) (by decide) ?_
    show Q6i1 Z a6_0 p6_2 ky y0 y1 y2 y3 y4 h0 n0 _ T99.heap _
    rw [eh99]
    exact ⟨(congrArg (fun z => some (Value.long z)) (show (r3 p6_2 y1).toInt64 = (r6i1 p6_2 y1) from (Eq.symm ((if_neg c97).trans (if_neg c98))))), N99, rfl⟩
theorem ef_6i2 (m : MethodId) (a6_0 : Addr) (p6_2 : Int32) : entryFrame m #[(.ref a6_0), (.int 2), (.int p6_2)] 4 = mkF m 0 #[.val (.ref a6_0), .val (.int 2), .val (.int p6_2), .unset] [] := by first | (simp [entryFrame, mkF, argsToLocals, Value.category]; done) | rfl
def r6i2 (p6_2 : Int32) (y2 : Int32) : Int64 := (if (2 : Int32) < p6_2 then (-y2).toInt64 else (if y2 < (0 : Int32) then (0 : Int64) else (r3 p6_2 y2).toInt64))
def Q6i2 (Z : State) (a6_0 : Addr) (p6_2 : Int32) (ky : ClassId) (y0 : Int32) (y1 : Int32) (y2 : Int32) (y3 : Int32) (y4 : Int32) (h0 : Heap) (n0 : Nat) (v : Option Value) (h : Heap) (L : List Loc) : Prop := v = some (.long (r6i2 p6_2 y2)) ∧ Fr n0 L ∧ h = h0
set_option maxRecDepth 65536 in
set_option maxHeartbeats 40000000 in
theorem rm6i2 (l : Launch) (Z : State) (a0 : Array Value) (hw : ∀ d ∈ tables_1, d.before a0 Z = true) (ws : List Jvm.Cond) (a6_0 : Addr) (p6_2 : Int32) (ky : ClassId) (y0 : Int32) (y1 : Int32) (y2 : Int32) (y3 : Int32) (y4 : Int32) (h0 : Heap) (n0 : Nat) (Z0 : n0 ≤ h0.size) (V_a6_0 : Arv Z h0 a6_0 ky .int (5 : Int32) [(.int y0), (.int y1), (.int y2), (.int y3), (.int y4)] (.int 0)) :
    MetFree l (⟨"gallai/service/GraphicalitySlacksPinLaw", "term", "([III)J"⟩ : MethodName) (head1 (Jvm.Cond.code (⟨"gallai/service/GraphicalitySlacksPinLaw", "term", "([III)J"⟩ : MethodName) method_5_code 4 (some .long) :: ws) ({ frames := 1, cells := 0, slots := 0, locals := 13 } : Room)) (fun a U => a = #[(.ref a6_0), (.int 2), (.int p6_2)] ∧ Z.Warmed39 U.vm ∧ U.heap = h0) (fun _ _ _ _ _ => True) (fun _ U o U' => ∃ v L, o = .returned v ∧ Q6i2 Z a6_0 p6_2 ky y0 y1 y2 y3 y4 h0 n0 v U'.heap L ∧ FrameEnd U o U' L ({ frames := 1, cells := 0, slots := 0, locals := 13 } : Room).cells ({ frames := 1, cells := 0, slots := 0, locals := 13 } : Room).slots) := by
  refine MetFree.of_bodySF (plainFor_of_name pn_gallai_service_GraphicalitySlacksPinLaw) hisR ?_
  intro p e s m args below meth c s₁ Bd hml0 hP hK
  obtain ⟨rfl, hZ, hh⟩ := hP
  have hx := Bd.exec
  have hby := Bd.bytes
  have hlk := Bd.notSynchronized
  have hret := Bd.returns
  have hml : c.maxLocals = 4 := hml0
  have hown : s.vm.findClass "gallai/service/GraphicalitySlacksPinLaw" = some m.cls := findClass_of_methodNamed Bd.named
  have hnm := (name_of_methodNamed Bd.named Bd.method).1
  have X0 : Stand p l e ({ frames := 1, cells := 0, slots := 0, locals := 13 } : Room) s m #[(.ref a6_0), (.int 2), (.int p6_2)] below meth c s₁ [] 0 0 := Stand.of_body Bd
  have e0 : s₁.heap = h0 := by rw [← hh, Bd.state]; rfl
  have N0 := Fr.nil n0
  have K0 : Keep h0 h0 [] := Keep.refl _ _
  show own_G p e below s (Q6i2 Z a6_0 p6_2 ky y0 y1 y2 y3 y4 h0 n0) ({ frames := 1, cells := 0, slots := 0, locals := 13 } : Room).cells ({ frames := 1, cells := 0, slots := 0, locals := 13 } : Room).slots s₁ (entryFrame m #[(.ref a6_0), (.int 2), (.int p6_2)] 4)
  have ww9 := hw _ (List.mem_of_getElem? (i := 9) rfl)
  have ww10 := hw _ (List.mem_of_getElem? (i := 10) rfl)
  have ww11 := hw _ (List.mem_of_getElem? (i := 11) rfl)
  have ww12 := hw _ (List.mem_of_getElem? (i := 12) rfl)
  refine own_cast (ef_6i2 m a6_0 p6_2) ?_
  refine own_s (g' := (mkF m 1 #[.val (.ref a6_0), .val (.int 2), .val (.int p6_2), .unset] [(.ref a6_0)])) (fun _ kz => XS.aloadN X0.here hx rfl (hb hby d6_0) rfl rfl kz) ?_
  refine own_s (g' := (mkF m 2 #[.val (.ref a6_0), .val (.int 2), .val (.int p6_2), .unset] [(.int 2), (.ref a6_0)])) (fun _ kz => XS.iloadN X0.here hx rfl (hb hby d6_1) rfl kz) ?_
  obtain ⟨cl100, Ar100, -, S100, -, H100, -⟩ := id V_a6_0
  have in100 := inb_of S100 (j := (2 : Int32)) ⟨by decide, by decide⟩
  refine own_s (g' := (mkF m 3 #[.val (.ref a6_0), .val (.int 2), .val (.int p6_2), .unset] [(.int y2)])) (X0.iaload hx (j := (2 : Int32)) (v := (.int y2)) (by rw [e0]; exact Ar100.1) (State.isArrayOf_alike hZ.alike Ar100.2.1) Ar100.2.2 in100 (Has.at H100 in100 rfl) (g := (mkF m 2 #[.val (.ref a6_0), .val (.int 2), .val (.int p6_2), .unset] [(.int 2), (.ref a6_0)])) rfl rfl (hb hby d6_2)) ?_
  refine own_s (g' := (mkF m 4 #[.val (.ref a6_0), .val (.int 2), .val (.int p6_2), .val (.int y2)] [])) (fun _ kz => XS.istoreN X0.here hx rfl (hb hby d6_3) rfl (l' := #[.val (.ref a6_0), .val (.int 2), .val (.int p6_2), .val (.int y2)]) rfl kz) ?_
  refine own_s (g' := (mkF m 5 #[.val (.ref a6_0), .val (.int 2), .val (.int p6_2), .val (.int y2)] [(.int 2)])) (fun _ kz => XS.iloadN X0.here hx rfl (hb hby d6_4) rfl kz) ?_
  refine own_s (g' := (mkF m 6 #[.val (.ref a6_0), .val (.int 2), .val (.int p6_2), .val (.int y2)] [(.int p6_2), (.int 2)])) (fun _ kz => XS.iloadN X0.here hx rfl (hb hby d6_5) rfl kz) ?_
  by_cases c101 : (2 : Int32) < p6_2
  ·skip
   refine own_s (g' := (mkF m 9 #[.val (.ref a6_0), .val (.int 2), .val (.int p6_2), .val (.int y2)] [])) (fun _ kz => XS.icmpNo X0.here hx rfl (hb hby d6_6) rfl (tlt c101).2.1 kz) ?_
   refine own_s (g' := (mkF m 10 #[.val (.ref a6_0), .val (.int 2), .val (.int p6_2), .val (.int y2)] [(.int y2)])) (fun _ kz => XS.iloadN X0.here hx rfl (hb hby d6_9) rfl kz) ?_
   refine own_s (g' := (mkF m 11 #[.val (.ref a6_0), .val (.int 2), .val (.int p6_2), .val (.int y2)] [(.int (-y2))])) (fun _ kz => XS.ineg X0.here hx rfl (hb hby d6_10) rfl kz) ?_
   refine own_s (g' := (mkF m 12 #[.val (.ref a6_0), .val (.int 2), .val (.int p6_2), .val (.int y2)] [(.long (-y2).toInt64)])) (fun _ kz => XS.i2l X0.here hx rfl (hb hby d6_11) rfl kz) ?_
   refine own_retJ X0 hx hlk hret (hb hby d6_12) (by decide) (by decide) ?_
   show Q6i2 Z a6_0 p6_2 ky y0 y1 y2 y3 y4 h0 n0 _ s₁.heap _
   rw [e0]
   exact ⟨(congrArg (fun z => some (Value.long z)) (show (-y2).toInt64 = (r6i2 p6_2 y2) from (Eq.symm (if_pos c101)))), N0, rfl⟩
  ·skip
   refine own_s (g' := (mkF m 13 #[.val (.ref a6_0), .val (.int 2), .val (.int p6_2), .val (.int y2)] [])) (fun _ kz => XS.icmpYes X0.here hx rfl (pc0 := 6) (pc' := 13) rfl (hb hby d6_6) rfl (flt c101).2.1 (by decide) (by decide) kz) ?_
   refine own_s (g' := (mkF m 14 #[.val (.ref a6_0), .val (.int 2), .val (.int p6_2), .val (.int y2)] [(.int y2)])) (fun _ kz => XS.iloadN X0.here hx rfl (hb hby d6_13) rfl kz) ?_
   by_cases c102 : y2 < (0 : Int32)
   ·skip
    refine own_s (g' := (mkF m 17 #[.val (.ref a6_0), .val (.int 2), .val (.int p6_2), .val (.int y2)] [])) (fun _ kz => XS.ifNo X0.here hx rfl (hb hby d6_14) rfl ((if0 _ _).trans (tlt c102).2.1) kz) ?_
    refine own_s (g' := (mkF m 18 #[.val (.ref a6_0), .val (.int 2), .val (.int p6_2), .val (.int y2)] [(.long 0)])) (fun _ kz => XS.lconst X0.here hx rfl (hb hby d6_17) kz) ?_
    refine own_retJ X0 hx hlk hret (hb hby d6_18) (by decide) (by decide) ?_
    show Q6i2 Z a6_0 p6_2 ky y0 y1 y2 y3 y4 h0 n0 _ s₁.heap _
    rw [e0]
    exact ⟨(congrArg (fun z => some (Value.long z)) (show (0 : Int64) = (r6i2 p6_2 y2) from (Eq.symm ((if_neg c101).trans (if_pos c102))))), N0, rfl⟩
   ·skip
    refine own_s (g' := (mkF m 19 #[.val (.ref a6_0), .val (.int 2), .val (.int p6_2), .val (.int y2)] [])) (fun _ kz => XS.ifYes X0.here hx rfl (pc0 := 14) (pc' := 19) rfl (hb hby d6_14) rfl ((if0 _ _).trans (flt c102).2.1) (by decide) (by decide) kz) ?_
    refine own_s (g' := (mkF m 20 #[.val (.ref a6_0), .val (.int 2), .val (.int p6_2), .val (.int y2)] [(.int p6_2)])) (fun _ kz => XS.iloadN X0.here hx rfl (hb hby d6_19) rfl kz) ?_
    refine own_s (g' := (mkF m 21 #[.val (.ref a6_0), .val (.int 2), .val (.int p6_2), .val (.int y2)] [(.int y2), (.int p6_2)])) (fun _ kz => XS.iloadN X0.here hx rfl (hb hby d6_20) rfl kz) ?_
    obtain ⟨_, _, ⟨T103, L103, k103, n103⟩, -, X103, ⟨Lc103, hQ103, l103, y103, z103⟩, st103⟩ := Jvm.LawKit.callS X0 hx (y := (⟨"java/lang/Math", "min", "(II)I"⟩ : MethodName)) hown (mvT hZ ww9) (mvT hZ ww10) (mvT hZ ww11) (mvT hZ ww12) (by decide) (backOf (W := 0) (rm3 l Z a0 hw [] p6_2 y2 h0 n0 Z0 ) hZ ww12 ww11 (by decide) (by decide)) (g := (mkF m 21 #[.val (.ref a6_0), .val (.int 2), .val (.int p6_2), .val (.int y2)] [(.int y2), (.int p6_2)])) rfl (by rw [hml]; rfl) (argsL := [(.int p6_2), (.int y2)]) (rest := []) (lenOf pd__II_I rfl) rfl (by show 2 * 0 + _ ≤ _; exact Nat.le_of_eq rfl) (hb hby d6_21) (fun _ _ => ⟨rfl, e0, (by decide : 0 + 0 ≤ _), (by decide : 0 + 0 ≤ _)⟩)
    dsimp only [Pt.U, Pt.locs, Pt.cells, Pt.slots] at X103 l103 y103 z103 st103 hQ103
    subst l103 y103 z103
    obtain ⟨rfl, N103q, eh103⟩ := hQ103
    have N103 := Fr.app N0 N103q
    refine own_s (g' := (mkF m 24 #[.val (.ref a6_0), .val (.int 2), .val (.int p6_2), .val (.int y2)] [(.int (r3 p6_2 y2))])) st103 ?_
    refine own_s (g' := (mkF m 25 #[.val (.ref a6_0), .val (.int 2), .val (.int p6_2), .val (.int y2)] [(.long (r3 p6_2 y2).toInt64)])) (fun _ kz => XS.i2l X103.here hx rfl (hb hby d6_24) rfl kz) ?_
    refine own_retJ X103 hx hlk hret (hb hby d6_25) (by decide) (by decide) ?_
    show Q6i2 Z a6_0 p6_2 ky y0 y1 y2 y3 y4 h0 n0 _ T103.heap _
    rw [eh103]
    exact ⟨(congrArg (fun z => some (Value.long z)) (show (r3 p6_2 y2).toInt64 = (r6i2 p6_2 y2) from (Eq.symm ((if_neg c101).trans (if_neg c102))))), N103, rfl⟩
theorem ef_6i3 (m : MethodId) (a6_0 : Addr) (p6_2 : Int32) : entryFrame m #[(.ref a6_0), (.int 3), (.int p6_2)] 4 = mkF m 0 #[.val (.ref a6_0), .val (.int 3), .val (.int p6_2), .unset] [] := by first | (simp [entryFrame, mkF, argsToLocals, Value.category]; done) | rfl
def r6i3 (p6_2 : Int32) (y3 : Int32) : Int64 := (if (3 : Int32) < p6_2 then (-y3).toInt64 else (if y3 < (0 : Int32) then (0 : Int64) else (r3 p6_2 y3).toInt64))
def Q6i3 (Z : State) (a6_0 : Addr) (p6_2 : Int32) (ky : ClassId) (y0 : Int32) (y1 : Int32) (y2 : Int32) (y3 : Int32) (y4 : Int32) (h0 : Heap) (n0 : Nat) (v : Option Value) (h : Heap) (L : List Loc) : Prop := v = some (.long (r6i3 p6_2 y3)) ∧ Fr n0 L ∧ h = h0
set_option maxRecDepth 65536 in
set_option maxHeartbeats 40000000 in
theorem rm6i3 (l : Launch) (Z : State) (a0 : Array Value) (hw : ∀ d ∈ tables_1, d.before a0 Z = true) (ws : List Jvm.Cond) (a6_0 : Addr) (p6_2 : Int32) (ky : ClassId) (y0 : Int32) (y1 : Int32) (y2 : Int32) (y3 : Int32) (y4 : Int32) (h0 : Heap) (n0 : Nat) (Z0 : n0 ≤ h0.size) (V_a6_0 : Arv Z h0 a6_0 ky .int (5 : Int32) [(.int y0), (.int y1), (.int y2), (.int y3), (.int y4)] (.int 0)) :
    MetFree l (⟨"gallai/service/GraphicalitySlacksPinLaw", "term", "([III)J"⟩ : MethodName) (head1 (Jvm.Cond.code (⟨"gallai/service/GraphicalitySlacksPinLaw", "term", "([III)J"⟩ : MethodName) method_5_code 4 (some .long) :: ws) ({ frames := 1, cells := 0, slots := 0, locals := 13 } : Room)) (fun a U => a = #[(.ref a6_0), (.int 3), (.int p6_2)] ∧ Z.Warmed39 U.vm ∧ U.heap = h0) (fun _ _ _ _ _ => True) (fun _ U o U' => ∃ v L, o = .returned v ∧ Q6i3 Z a6_0 p6_2 ky y0 y1 y2 y3 y4 h0 n0 v U'.heap L ∧ FrameEnd U o U' L ({ frames := 1, cells := 0, slots := 0, locals := 13 } : Room).cells ({ frames := 1, cells := 0, slots := 0, locals := 13 } : Room).slots) := by
  refine MetFree.of_bodySF (plainFor_of_name pn_gallai_service_GraphicalitySlacksPinLaw) hisR ?_
  intro p e s m args below meth c s₁ Bd hml0 hP hK
  obtain ⟨rfl, hZ, hh⟩ := hP
  have hx := Bd.exec
  have hby := Bd.bytes
  have hlk := Bd.notSynchronized
  have hret := Bd.returns
  have hml : c.maxLocals = 4 := hml0
  have hown : s.vm.findClass "gallai/service/GraphicalitySlacksPinLaw" = some m.cls := findClass_of_methodNamed Bd.named
  have hnm := (name_of_methodNamed Bd.named Bd.method).1
  have X0 : Stand p l e ({ frames := 1, cells := 0, slots := 0, locals := 13 } : Room) s m #[(.ref a6_0), (.int 3), (.int p6_2)] below meth c s₁ [] 0 0 := Stand.of_body Bd
  have e0 : s₁.heap = h0 := by rw [← hh, Bd.state]; rfl
  have N0 := Fr.nil n0
  have K0 : Keep h0 h0 [] := Keep.refl _ _
  show own_G p e below s (Q6i3 Z a6_0 p6_2 ky y0 y1 y2 y3 y4 h0 n0) ({ frames := 1, cells := 0, slots := 0, locals := 13 } : Room).cells ({ frames := 1, cells := 0, slots := 0, locals := 13 } : Room).slots s₁ (entryFrame m #[(.ref a6_0), (.int 3), (.int p6_2)] 4)
  have ww9 := hw _ (List.mem_of_getElem? (i := 9) rfl)
  have ww10 := hw _ (List.mem_of_getElem? (i := 10) rfl)
  have ww11 := hw _ (List.mem_of_getElem? (i := 11) rfl)
  have ww12 := hw _ (List.mem_of_getElem? (i := 12) rfl)
  refine own_cast (ef_6i3 m a6_0 p6_2) ?_
  refine own_s (g' := (mkF m 1 #[.val (.ref a6_0), .val (.int 3), .val (.int p6_2), .unset] [(.ref a6_0)])) (fun _ kz => XS.aloadN X0.here hx rfl (hb hby d6_0) rfl rfl kz) ?_
  refine own_s (g' := (mkF m 2 #[.val (.ref a6_0), .val (.int 3), .val (.int p6_2), .unset] [(.int 3), (.ref a6_0)])) (fun _ kz => XS.iloadN X0.here hx rfl (hb hby d6_1) rfl kz) ?_
  obtain ⟨cl104, Ar104, -, S104, -, H104, -⟩ := id V_a6_0
  have in104 := inb_of S104 (j := (3 : Int32)) ⟨by decide, by decide⟩
  refine own_s (g' := (mkF m 3 #[.val (.ref a6_0), .val (.int 3), .val (.int p6_2), .unset] [(.int y3)])) (X0.iaload hx (j := (3 : Int32)) (v := (.int y3)) (by rw [e0]; exact Ar104.1) (State.isArrayOf_alike hZ.alike Ar104.2.1) Ar104.2.2 in104 (Has.at H104 in104 rfl) (g := (mkF m 2 #[.val (.ref a6_0), .val (.int 3), .val (.int p6_2), .unset] [(.int 3), (.ref a6_0)])) rfl rfl (hb hby d6_2)) ?_
  refine own_s (g' := (mkF m 4 #[.val (.ref a6_0), .val (.int 3), .val (.int p6_2), .val (.int y3)] [])) (fun _ kz => XS.istoreN X0.here hx rfl (hb hby d6_3) rfl (l' := #[.val (.ref a6_0), .val (.int 3), .val (.int p6_2), .val (.int y3)]) rfl kz) ?_
  refine own_s (g' := (mkF m 5 #[.val (.ref a6_0), .val (.int 3), .val (.int p6_2), .val (.int y3)] [(.int 3)])) (fun _ kz => XS.iloadN X0.here hx rfl (hb hby d6_4) rfl kz) ?_
  refine own_s (g' := (mkF m 6 #[.val (.ref a6_0), .val (.int 3), .val (.int p6_2), .val (.int y3)] [(.int p6_2), (.int 3)])) (fun _ kz => XS.iloadN X0.here hx rfl (hb hby d6_5) rfl kz) ?_
  by_cases c105 : (3 : Int32) < p6_2
  ·skip
   refine own_s (g' := (mkF m 9 #[.val (.ref a6_0), .val (.int 3), .val (.int p6_2), .val (.int y3)] [])) (fun _ kz => XS.icmpNo X0.here hx rfl (hb hby d6_6) rfl (tlt c105).2.1 kz) ?_
   refine own_s (g' := (mkF m 10 #[.val (.ref a6_0), .val (.int 3), .val (.int p6_2), .val (.int y3)] [(.int y3)])) (fun _ kz => XS.iloadN X0.here hx rfl (hb hby d6_9) rfl kz) ?_
   refine own_s (g' := (mkF m 11 #[.val (.ref a6_0), .val (.int 3), .val (.int p6_2), .val (.int y3)] [(.int (-y3))])) (fun _ kz => XS.ineg X0.here hx rfl (hb hby d6_10) rfl kz) ?_
   refine own_s (g' := (mkF m 12 #[.val (.ref a6_0), .val (.int 3), .val (.int p6_2), .val (.int y3)] [(.long (-y3).toInt64)])) (fun _ kz => XS.i2l X0.here hx rfl (hb hby d6_11) rfl kz) ?_
   refine own_retJ X0 hx hlk hret (hb hby d6_12) (by decide) (by decide) ?_
   show Q6i3 Z a6_0 p6_2 ky y0 y1 y2 y3 y4 h0 n0 _ s₁.heap _
   rw [e0]
   exact ⟨(congrArg (fun z => some (Value.long z)) (show (-y3).toInt64 = (r6i3 p6_2 y3) from (Eq.symm (if_pos c105)))), N0, rfl⟩
  ·skip
   refine own_s (g' := (mkF m 13 #[.val (.ref a6_0), .val (.int 3), .val (.int p6_2), .val (.int y3)] [])) (fun _ kz => XS.icmpYes X0.here hx rfl (pc0 := 6) (pc' := 13) rfl (hb hby d6_6) rfl (flt c105).2.1 (by decide) (by decide) kz) ?_
   refine own_s (g' := (mkF m 14 #[.val (.ref a6_0), .val (.int 3), .val (.int p6_2), .val (.int y3)] [(.int y3)])) (fun _ kz => XS.iloadN X0.here hx rfl (hb hby d6_13) rfl kz) ?_
   by_cases c106 : y3 < (0 : Int32)
   ·skip
    refine own_s (g' := (mkF m 17 #[.val (.ref a6_0), .val (.int 3), .val (.int p6_2), .val (.int y3)] [])) (fun _ kz => XS.ifNo X0.here hx rfl (hb hby d6_14) rfl ((if0 _ _).trans (tlt c106).2.1) kz) ?_
    refine own_s (g' := (mkF m 18 #[.val (.ref a6_0), .val (.int 3), .val (.int p6_2), .val (.int y3)] [(.long 0)])) (fun _ kz => XS.lconst X0.here hx rfl (hb hby d6_17) kz) ?_
    refine own_retJ X0 hx hlk hret (hb hby d6_18) (by decide) (by decide) ?_
    show Q6i3 Z a6_0 p6_2 ky y0 y1 y2 y3 y4 h0 n0 _ s₁.heap _
    rw [e0]
    exact ⟨(congrArg (fun z => some (Value.long z)) (show (0 : Int64) = (r6i3 p6_2 y3) from (Eq.symm ((if_neg c105).trans (if_pos c106))))), N0, rfl⟩
   ·skip
    refine own_s (g' := (mkF m 19 #[.val (.ref a6_0), .val (.int 3), .val (.int p6_2), .val (.int y3)] [])) (fun _ kz => XS.ifYes X0.here hx rfl (pc0 := 14) (pc' := 19) rfl (hb hby d6_14) rfl ((if0 _ _).trans (flt c106).2.1) (by decide) (by decide) kz) ?_
    refine own_s (g' := (mkF m 20 #[.val (.ref a6_0), .val (.int 3), .val (.int p6_2), .val (.int y3)] [(.int p6_2)])) (fun _ kz => XS.iloadN X0.here hx rfl (hb hby d6_19) rfl kz) ?_
    refine own_s (g' := (mkF m 21 #[.val (.ref a6_0), .val (.int 3), .val (.int p6_2), .val (.int y3)] [(.int y3), (.int p6_2)])) (fun _ kz => XS.iloadN X0.here hx rfl (hb hby d6_20) rfl kz) ?_
    obtain ⟨_, _, ⟨T107, L107, k107, n107⟩, -, X107, ⟨Lc107, hQ107, l107, y107, z107⟩, st107⟩ := Jvm.LawKit.callS X0 hx (y := (⟨"java/lang/Math", "min", "(II)I"⟩ : MethodName)) hown (mvT hZ ww9) (mvT hZ ww10) (mvT hZ ww11) (mvT hZ ww12) (by decide) (backOf (W := 0) (rm3 l Z a0 hw [] p6_2 y3 h0 n0 Z0 ) hZ ww12 ww11 (by decide) (by decide)) (g := (mkF m 21 #[.val (.ref a6_0), .val (.int 3), .val (.int p6_2), .val (.int y3)] [(.int y3), (.int p6_2)])) rfl (by rw [hml]; rfl) (argsL := [(.int p6_2), (.int y3)]) (rest := []) (lenOf pd__II_I rfl) rfl (by show 2 * 0 + _ ≤ _; exact Nat.le_of_eq rfl) (hb hby d6_21) (fun _ _ => ⟨rfl, e0, (by decide : 0 + 0 ≤ _), (by decide : 0 + 0 ≤ _)⟩)
    dsimp only [Pt.U, Pt.locs, Pt.cells, Pt.slots] at X107 l107 y107 z107 st107 hQ107
    subst l107 y107 z107
    obtain ⟨rfl, N107q, eh107⟩ := hQ107
    have N107 := Fr.app N0 N107q
    refine own_s (g' := (mkF m 24 #[.val (.ref a6_0), .val (.int 3), .val (.int p6_2), .val (.int y3)] [(.int (r3 p6_2 y3))])) st107 ?_
    refine own_s (g' := (mkF m 25 #[.val (.ref a6_0), .val (.int 3), .val (.int p6_2), .val (.int y3)] [(.long (r3 p6_2 y3).toInt64)])) (fun _ kz => XS.i2l X107.here hx rfl (hb hby d6_24) rfl kz) ?_
    refine own_retJ X107 hx hlk hret (hb hby d6_25) (by decide) (by decide) ?_
    show Q6i3 Z a6_0 p6_2 ky y0 y1 y2 y3 y4 h0 n0 _ T107.heap _
    rw [eh107]
    exact ⟨(congrArg (fun z => some (Value.long z)) (show (r3 p6_2 y3).toInt64 = (r6i3 p6_2 y3) from (Eq.symm ((if_neg c105).trans (if_neg c106))))), N107, rfl⟩
theorem ef_6i4 (m : MethodId) (a6_0 : Addr) (p6_2 : Int32) : entryFrame m #[(.ref a6_0), (.int 4), (.int p6_2)] 4 = mkF m 0 #[.val (.ref a6_0), .val (.int 4), .val (.int p6_2), .unset] [] := by first | (simp [entryFrame, mkF, argsToLocals, Value.category]; done) | rfl
def r6i4 (p6_2 : Int32) (y4 : Int32) : Int64 := (if (4 : Int32) < p6_2 then (-y4).toInt64 else (if y4 < (0 : Int32) then (0 : Int64) else (r3 p6_2 y4).toInt64))
def Q6i4 (Z : State) (a6_0 : Addr) (p6_2 : Int32) (ky : ClassId) (y0 : Int32) (y1 : Int32) (y2 : Int32) (y3 : Int32) (y4 : Int32) (h0 : Heap) (n0 : Nat) (v : Option Value) (h : Heap) (L : List Loc) : Prop := v = some (.long (r6i4 p6_2 y4)) ∧ Fr n0 L ∧ h = h0
set_option maxRecDepth 65536 in
set_option maxHeartbeats 40000000 in
theorem rm6i4 (l : Launch) (Z : State) (a0 : Array Value) (hw : ∀ d ∈ tables_1, d.before a0 Z = true) (ws : List Jvm.Cond) (a6_0 : Addr) (p6_2 : Int32) (ky : ClassId) (y0 : Int32) (y1 : Int32) (y2 : Int32) (y3 : Int32) (y4 : Int32) (h0 : Heap) (n0 : Nat) (Z0 : n0 ≤ h0.size) (V_a6_0 : Arv Z h0 a6_0 ky .int (5 : Int32) [(.int y0), (.int y1), (.int y2), (.int y3), (.int y4)] (.int 0)) :
    MetFree l (⟨"gallai/service/GraphicalitySlacksPinLaw", "term", "([III)J"⟩ : MethodName) (head1 (Jvm.Cond.code (⟨"gallai/service/GraphicalitySlacksPinLaw", "term", "([III)J"⟩ : MethodName) method_5_code 4 (some .long) :: ws) ({ frames := 1, cells := 0, slots := 0, locals := 13 } : Room)) (fun a U => a = #[(.ref a6_0), (.int 4), (.int p6_2)] ∧ Z.Warmed39 U.vm ∧ U.heap = h0) (fun _ _ _ _ _ => True) (fun _ U o U' => ∃ v L, o = .returned v ∧ Q6i4 Z a6_0 p6_2 ky y0 y1 y2 y3 y4 h0 n0 v U'.heap L ∧ FrameEnd U o U' L ({ frames := 1, cells := 0, slots := 0, locals := 13 } : Room).cells ({ frames := 1, cells := 0, slots := 0, locals := 13 } : Room).slots) := by
  refine MetFree.of_bodySF (plainFor_of_name pn_gallai_service_GraphicalitySlacksPinLaw) hisR ?_
  intro p e s m args below meth c s₁ Bd hml0 hP hK
  obtain ⟨rfl, hZ, hh⟩ := hP
  have hx := Bd.exec
  have hby := Bd.bytes
  have hlk := Bd.notSynchronized
  have hret := Bd.returns
  have hml : c.maxLocals = 4 := hml0
  have hown : s.vm.findClass "gallai/service/GraphicalitySlacksPinLaw" = some m.cls := findClass_of_methodNamed Bd.named
  have hnm := (name_of_methodNamed Bd.named Bd.method).1
  have X0 : Stand p l e ({ frames := 1, cells := 0, slots := 0, locals := 13 } : Room) s m #[(.ref a6_0), (.int 4), (.int p6_2)] below meth c s₁ [] 0 0 := Stand.of_body Bd
  have e0 : s₁.heap = h0 := by rw [← hh, Bd.state]; rfl
  have N0 := Fr.nil n0
  have K0 : Keep h0 h0 [] := Keep.refl _ _
  show own_G p e below s (Q6i4 Z a6_0 p6_2 ky y0 y1 y2 y3 y4 h0 n0) ({ frames := 1, cells := 0, slots := 0, locals := 13 } : Room).cells ({ frames := 1, cells := 0, slots := 0, locals := 13 } : Room).slots s₁ (entryFrame m #[(.ref a6_0), (.int 4), (.int p6_2)] 4)
  have ww9 := hw _ (List.mem_of_getElem? (i := 9) rfl)
  have ww10 := hw _ (List.mem_of_getElem? (i := 10) rfl)
  have ww11 := hw _ (List.mem_of_getElem? (i := 11) rfl)
  have ww12 := hw _ (List.mem_of_getElem? (i := 12) rfl)
  refine own_cast (ef_6i4 m a6_0 p6_2) ?_
  refine own_s (g' := (mkF m 1 #[.val (.ref a6_0), .val (.int 4), .val (.int p6_2), .unset] [(.ref a6_0)])) (fun _ kz => XS.aloadN X0.here hx rfl (hb hby d6_0) rfl rfl kz) ?_
  refine own_s (g' := (mkF m 2 #[.val (.ref a6_0), .val (.int 4), .val (.int p6_2), .unset] [(.int 4), (.ref a6_0)])) (fun _ kz => XS.iloadN X0.here hx rfl (hb hby d6_1) rfl kz) ?_
  obtain ⟨cl108, Ar108, -, S108, -, H108, -⟩ := id V_a6_0
  have in108 := inb_of S108 (j := (4 : Int32)) ⟨by decide, by decide⟩
  refine own_s (g' := (mkF m 3 #[.val (.ref a6_0), .val (.int 4), .val (.int p6_2), .unset] [(.int y4)])) (X0.iaload hx (j := (4 : Int32)) (v := (.int y4)) (by rw [e0]; exact Ar108.1) (State.isArrayOf_alike hZ.alike Ar108.2.1) Ar108.2.2 in108 (Has.at H108 in108 rfl) (g := (mkF m 2 #[.val (.ref a6_0), .val (.int 4), .val (.int p6_2), .unset] [(.int 4), (.ref a6_0)])) rfl rfl (hb hby d6_2)) ?_
  refine own_s (g' := (mkF m 4 #[.val (.ref a6_0), .val (.int 4), .val (.int p6_2), .val (.int y4)] [])) (fun _ kz => XS.istoreN X0.here hx rfl (hb hby d6_3) rfl (l' := #[.val (.ref a6_0), .val (.int 4), .val (.int p6_2), .val (.int y4)]) rfl kz) ?_
  refine own_s (g' := (mkF m 5 #[.val (.ref a6_0), .val (.int 4), .val (.int p6_2), .val (.int y4)] [(.int 4)])) (fun _ kz => XS.iloadN X0.here hx rfl (hb hby d6_4) rfl kz) ?_
  refine own_s (g' := (mkF m 6 #[.val (.ref a6_0), .val (.int 4), .val (.int p6_2), .val (.int y4)] [(.int p6_2), (.int 4)])) (fun _ kz => XS.iloadN X0.here hx rfl (hb hby d6_5) rfl kz) ?_
  by_cases c109 : (4 : Int32) < p6_2
  ·skip
   refine own_s (g' := (mkF m 9 #[.val (.ref a6_0), .val (.int 4), .val (.int p6_2), .val (.int y4)] [])) (fun _ kz => XS.icmpNo X0.here hx rfl (hb hby d6_6) rfl (tlt c109).2.1 kz) ?_
   refine own_s (g' := (mkF m 10 #[.val (.ref a6_0), .val (.int 4), .val (.int p6_2), .val (.int y4)] [(.int y4)])) (fun _ kz => XS.iloadN X0.here hx rfl (hb hby d6_9) rfl kz) ?_
   refine own_s (g' := (mkF m 11 #[.val (.ref a6_0), .val (.int 4), .val (.int p6_2), .val (.int y4)] [(.int (-y4))])) (fun _ kz => XS.ineg X0.here hx rfl (hb hby d6_10) rfl kz) ?_
   refine own_s (g' := (mkF m 12 #[.val (.ref a6_0), .val (.int 4), .val (.int p6_2), .val (.int y4)] [(.long (-y4).toInt64)])) (fun _ kz => XS.i2l X0.here hx rfl (hb hby d6_11) rfl kz) ?_
   refine own_retJ X0 hx hlk hret (hb hby d6_12) (by decide) (by decide) ?_
   show Q6i4 Z a6_0 p6_2 ky y0 y1 y2 y3 y4 h0 n0 _ s₁.heap _
   rw [e0]
   exact ⟨(congrArg (fun z => some (Value.long z)) (show (-y4).toInt64 = (r6i4 p6_2 y4) from (Eq.symm (if_pos c109)))), N0, rfl⟩
  ·skip
   refine own_s (g' := (mkF m 13 #[.val (.ref a6_0), .val (.int 4), .val (.int p6_2), .val (.int y4)] [])) (fun _ kz => XS.icmpYes X0.here hx rfl (pc0 := 6) (pc' := 13) rfl (hb hby d6_6) rfl (flt c109).2.1 (by decide) (by decide) kz) ?_
   refine own_s (g' := (mkF m 14 #[.val (.ref a6_0), .val (.int 4), .val (.int p6_2), .val (.int y4)] [(.int y4)])) (fun _ kz => XS.iloadN X0.here hx rfl (hb hby d6_13) rfl kz) ?_
   by_cases c110 : y4 < (0 : Int32)
   ·skip
    refine own_s (g' := (mkF m 17 #[.val (.ref a6_0), .val (.int 4), .val (.int p6_2), .val (.int y4)] [])) (fun _ kz => XS.ifNo X0.here hx rfl (hb hby d6_14) rfl ((if0 _ _).trans (tlt c110).2.1) kz) ?_
    refine own_s (g' := (mkF m 18 #[.val (.ref a6_0), .val (.int 4), .val (.int p6_2), .val (.int y4)] [(.long 0)])) (fun _ kz => XS.lconst X0.here hx rfl (hb hby d6_17) kz) ?_
    refine own_retJ X0 hx hlk hret (hb hby d6_18) (by decide) (by decide) ?_
    show Q6i4 Z a6_0 p6_2 ky y0 y1 y2 y3 y4 h0 n0 _ s₁.heap _
    rw [e0]
    exact ⟨(congrArg (fun z => some (Value.long z)) (show (0 : Int64) = (r6i4 p6_2 y4) from (Eq.symm ((if_neg c109).trans (if_pos c110))))), N0, rfl⟩
   ·skip
    refine own_s (g' := (mkF m 19 #[.val (.ref a6_0), .val (.int 4), .val (.int p6_2), .val (.int y4)] [])) (fun _ kz => XS.ifYes X0.here hx rfl (pc0 := 14) (pc' := 19) rfl (hb hby d6_14) rfl ((if0 _ _).trans (flt c110).2.1) (by decide) (by decide) kz) ?_
    refine own_s (g' := (mkF m 20 #[.val (.ref a6_0), .val (.int 4), .val (.int p6_2), .val (.int y4)] [(.int p6_2)])) (fun _ kz => XS.iloadN X0.here hx rfl (hb hby d6_19) rfl kz) ?_
    refine own_s (g' := (mkF m 21 #[.val (.ref a6_0), .val (.int 4), .val (.int p6_2), .val (.int y4)] [(.int y4), (.int p6_2)])) (fun _ kz => XS.iloadN X0.here hx rfl (hb hby d6_20) rfl kz) ?_
    obtain ⟨_, _, ⟨T111, L111, k111, n111⟩, -, X111, ⟨Lc111, hQ111, l111, y111, z111⟩, st111⟩ := Jvm.LawKit.callS X0 hx (y := (⟨"java/lang/Math", "min", "(II)I"⟩ : MethodName)) hown (mvT hZ ww9) (mvT hZ ww10) (mvT hZ ww11) (mvT hZ ww12) (by decide) (backOf (W := 0) (rm3 l Z a0 hw [] p6_2 y4 h0 n0 Z0 ) hZ ww12 ww11 (by decide) (by decide)) (g := (mkF m 21 #[.val (.ref a6_0), .val (.int 4), .val (.int p6_2), .val (.int y4)] [(.int y4), (.int p6_2)])) rfl (by rw [hml]; rfl) (argsL := [(.int p6_2), (.int y4)]) (rest := []) (lenOf pd__II_I rfl) rfl (by show 2 * 0 + _ ≤ _; exact Nat.le_of_eq rfl) (hb hby d6_21) (fun _ _ => ⟨rfl, e0, (by decide : 0 + 0 ≤ _), (by decide : 0 + 0 ≤ _)⟩)
    dsimp only [Pt.U, Pt.locs, Pt.cells, Pt.slots] at X111 l111 y111 z111 st111 hQ111
    subst l111 y111 z111
    obtain ⟨rfl, N111q, eh111⟩ := hQ111
    have N111 := Fr.app N0 N111q
    refine own_s (g' := (mkF m 24 #[.val (.ref a6_0), .val (.int 4), .val (.int p6_2), .val (.int y4)] [(.int (r3 p6_2 y4))])) st111 ?_
    refine own_s (g' := (mkF m 25 #[.val (.ref a6_0), .val (.int 4), .val (.int p6_2), .val (.int y4)] [(.long (r3 p6_2 y4).toInt64)])) (fun _ kz => XS.i2l X111.here hx rfl (hb hby d6_24) rfl kz) ?_
    refine own_retJ X111 hx hlk hret (hb hby d6_25) (by decide) (by decide) ?_
    show Q6i4 Z a6_0 p6_2 ky y0 y1 y2 y3 y4 h0 n0 _ T111.heap _
    rw [eh111]
    exact ⟨(congrArg (fun z => some (Value.long z)) (show (r3 p6_2 y4).toInt64 = (r6i4 p6_2 y4) from (Eq.symm ((if_neg c109).trans (if_neg c110))))), N111, rfl⟩
theorem pd___III_J : parseMethodDescriptor "([III)J" = some ⟨[(.array .int), .int, .int], some .long⟩ := by decide +kernel
theorem d5_0 : decode method_6_code 0 = .ok (.iload_n 1, 1) := by decide +kernel
theorem d5_1 : decode method_6_code 1 = .ok (.i2l, 1) := by decide +kernel
theorem d5_2 : decode method_6_code 2 = .ok (.iload_n 1, 1) := by decide +kernel
theorem d5_3 : decode method_6_code 3 = .ok (.iconst 1, 1) := by decide +kernel
theorem d5_4 : decode method_6_code 4 = .ok (.isub, 1) := by decide +kernel
theorem d5_5 : decode method_6_code 5 = .ok (.i2l, 1) := by decide +kernel
theorem d5_6 : decode method_6_code 6 = .ok (.lmul, 1) := by decide +kernel
theorem d5_7 : decode method_6_code 7 = .ok (.aload_n 0, 1) := by decide +kernel
theorem d5_8 : decode method_6_code 8 = .ok (.iconst 0, 1) := by decide +kernel
theorem d5_9 : decode method_6_code 9 = .ok (.iload_n 1, 1) := by decide +kernel
theorem d5_10 : decode method_6_code 10 = .ok (.invokestatic 34, 3) := by decide +kernel
theorem d5_13 : decode method_6_code 13 = .ok (.ladd, 1) := by decide +kernel
theorem d5_14 : decode method_6_code 14 = .ok (.aload_n 0, 1) := by decide +kernel
theorem d5_15 : decode method_6_code 15 = .ok (.iconst 1, 1) := by decide +kernel
theorem d5_16 : decode method_6_code 16 = .ok (.iload_n 1, 1) := by decide +kernel
theorem d5_17 : decode method_6_code 17 = .ok (.invokestatic 34, 3) := by decide +kernel
theorem d5_20 : decode method_6_code 20 = .ok (.ladd, 1) := by decide +kernel
theorem d5_21 : decode method_6_code 21 = .ok (.aload_n 0, 1) := by decide +kernel
theorem d5_22 : decode method_6_code 22 = .ok (.iconst 2, 1) := by decide +kernel
theorem d5_23 : decode method_6_code 23 = .ok (.iload_n 1, 1) := by decide +kernel
theorem d5_24 : decode method_6_code 24 = .ok (.invokestatic 34, 3) := by decide +kernel
theorem d5_27 : decode method_6_code 27 = .ok (.ladd, 1) := by decide +kernel
theorem d5_28 : decode method_6_code 28 = .ok (.aload_n 0, 1) := by decide +kernel
theorem d5_29 : decode method_6_code 29 = .ok (.iconst 3, 1) := by decide +kernel
theorem d5_30 : decode method_6_code 30 = .ok (.iload_n 1, 1) := by decide +kernel
theorem d5_31 : decode method_6_code 31 = .ok (.invokestatic 34, 3) := by decide +kernel
theorem d5_34 : decode method_6_code 34 = .ok (.ladd, 1) := by decide +kernel
theorem d5_35 : decode method_6_code 35 = .ok (.aload_n 0, 1) := by decide +kernel
theorem d5_36 : decode method_6_code 36 = .ok (.iconst 4, 1) := by decide +kernel
theorem d5_37 : decode method_6_code 37 = .ok (.iload_n 1, 1) := by decide +kernel
theorem d5_38 : decode method_6_code 38 = .ok (.invokestatic 34, 3) := by decide +kernel
theorem d5_41 : decode method_6_code 41 = .ok (.ladd, 1) := by decide +kernel
theorem d5_42 : decode method_6_code 42 = .ok (.lreturn, 1) := by decide +kernel
theorem ef_5 (m : MethodId) (a5_0 : Addr) (p5_1 : Int32) : entryFrame m #[(.ref a5_0), (.int p5_1)] 2 = mkF m 0 #[.val (.ref a5_0), .val (.int p5_1)] [] := by first | (simp [entryFrame, mkF, argsToLocals, Value.category]; done) | rfl
def r5 (p5_1 : Int32) (y0 : Int32) (y1 : Int32) (y2 : Int32) (y3 : Int32) (y4 : Int32) : Int64 := ((((((p5_1.toInt64 * (p5_1 - (1 : Int32)).toInt64) + (r6i0 p5_1 y0)) + (r6i1 p5_1 y1)) + (r6i2 p5_1 y2)) + (r6i3 p5_1 y3)) + (r6i4 p5_1 y4))
def Q5 (Z : State) (a5_0 : Addr) (p5_1 : Int32) (ky : ClassId) (y0 : Int32) (y1 : Int32) (y2 : Int32) (y3 : Int32) (y4 : Int32) (h0 : Heap) (n0 : Nat) (v : Option Value) (h : Heap) (L : List Loc) : Prop := v = some (.long (r5 p5_1 y0 y1 y2 y3 y4)) ∧ Fr n0 L ∧ h = h0
set_option maxRecDepth 65536 in
set_option maxHeartbeats 40000000 in
theorem rm5 (l : Launch) (Z : State) (a0 : Array Value) (hw : ∀ d ∈ tables_1, d.before a0 Z = true) (ws : List Jvm.Cond) (a5_0 : Addr) (p5_1 : Int32) (ky : ClassId) (y0 : Int32) (y1 : Int32) (y2 : Int32) (y3 : Int32) (y4 : Int32) (h0 : Heap) (n0 : Nat) (Z0 : n0 ≤ h0.size) (V_a5_0 : Arv Z h0 a5_0 ky .int (5 : Int32) [(.int y0), (.int y1), (.int y2), (.int y3), (.int y4)] (.int 0)) :
    MetFree l (⟨"gallai/service/GraphicalitySlacksPinLaw", "ref", "([II)J"⟩ : MethodName) (head1 (Jvm.Cond.code (⟨"gallai/service/GraphicalitySlacksPinLaw", "ref", "([II)J"⟩ : MethodName) method_6_code 2 (some .long) :: ws) ({ frames := 2, cells := 0, slots := 0, locals := 30 } : Room)) (fun a U => a = #[(.ref a5_0), (.int p5_1)] ∧ Z.Warmed39 U.vm ∧ U.heap = h0) (fun _ _ _ _ _ => True) (fun _ U o U' => ∃ v L, o = .returned v ∧ Q5 Z a5_0 p5_1 ky y0 y1 y2 y3 y4 h0 n0 v U'.heap L ∧ FrameEnd U o U' L ({ frames := 2, cells := 0, slots := 0, locals := 30 } : Room).cells ({ frames := 2, cells := 0, slots := 0, locals := 30 } : Room).slots) := by
  refine MetFree.of_bodySF (plainFor_of_name pn_gallai_service_GraphicalitySlacksPinLaw) hisR ?_
  intro p e s m args below meth c s₁ Bd hml0 hP hK
  obtain ⟨rfl, hZ, hh⟩ := hP
  have hx := Bd.exec
  have hby := Bd.bytes
  have hlk := Bd.notSynchronized
  have hret := Bd.returns
  have hml : c.maxLocals = 2 := hml0
  have hown : s.vm.findClass "gallai/service/GraphicalitySlacksPinLaw" = some m.cls := findClass_of_methodNamed Bd.named
  have hnm := (name_of_methodNamed Bd.named Bd.method).1
  have X0 : Stand p l e ({ frames := 2, cells := 0, slots := 0, locals := 30 } : Room) s m #[(.ref a5_0), (.int p5_1)] below meth c s₁ [] 0 0 := Stand.of_body Bd
  have e0 : s₁.heap = h0 := by rw [← hh, Bd.state]; rfl
  have N0 := Fr.nil n0
  have K0 : Keep h0 h0 [] := Keep.refl _ _
  show own_G p e below s (Q5 Z a5_0 p5_1 ky y0 y1 y2 y3 y4 h0 n0) ({ frames := 2, cells := 0, slots := 0, locals := 30 } : Room).cells ({ frames := 2, cells := 0, slots := 0, locals := 30 } : Room).slots s₁ (entryFrame m #[(.ref a5_0), (.int p5_1)] 2)
  have ww4 := hw _ (List.mem_of_getElem? (i := 4) rfl)
  have ww21 := hw _ (List.mem_of_getElem? (i := 21) rfl)
  have ww22 := hw _ (List.mem_of_getElem? (i := 22) rfl)
  have ww23 := hw _ (List.mem_of_getElem? (i := 23) rfl)
  refine own_cast (ef_5 m a5_0 p5_1) ?_
  refine own_s (g' := (mkF m 1 #[.val (.ref a5_0), .val (.int p5_1)] [(.int p5_1)])) (fun _ kz => XS.iloadN X0.here hx rfl (hb hby d5_0) rfl kz) ?_
  refine own_s (g' := (mkF m 2 #[.val (.ref a5_0), .val (.int p5_1)] [(.long p5_1.toInt64)])) (fun _ kz => XS.i2l X0.here hx rfl (hb hby d5_1) rfl kz) ?_
  refine own_s (g' := (mkF m 3 #[.val (.ref a5_0), .val (.int p5_1)] [(.int p5_1), (.long p5_1.toInt64)])) (fun _ kz => XS.iloadN X0.here hx rfl (hb hby d5_2) rfl kz) ?_
  refine own_s (g' := (mkF m 4 #[.val (.ref a5_0), .val (.int p5_1)] [(.int 1), (.int p5_1), (.long p5_1.toInt64)])) (fun _ kz => XS.iconst X0.here hx rfl (hb hby d5_3) kz) ?_
  refine own_s (g' := (mkF m 5 #[.val (.ref a5_0), .val (.int p5_1)] [(.int (p5_1 - (1 : Int32))), (.long p5_1.toInt64)])) (fun _ kz => XS.isub X0.here hx rfl (hb hby d5_4) rfl kz) ?_
  refine own_s (g' := (mkF m 6 #[.val (.ref a5_0), .val (.int p5_1)] [(.long (p5_1 - (1 : Int32)).toInt64), (.long p5_1.toInt64)])) (fun _ kz => XS.i2l X0.here hx rfl (hb hby d5_5) rfl kz) ?_
  refine own_s (g' := (mkF m 7 #[.val (.ref a5_0), .val (.int p5_1)] [(.long (p5_1.toInt64 * (p5_1 - (1 : Int32)).toInt64))])) (fun _ kz => XS.lmul X0.here hx rfl (hb hby d5_6) rfl kz) ?_
  refine own_s (g' := (mkF m 8 #[.val (.ref a5_0), .val (.int p5_1)] [(.ref a5_0), (.long (p5_1.toInt64 * (p5_1 - (1 : Int32)).toInt64))])) (fun _ kz => XS.aloadN X0.here hx rfl (hb hby d5_7) rfl rfl kz) ?_
  refine own_s (g' := (mkF m 9 #[.val (.ref a5_0), .val (.int p5_1)] [(.int 0), (.ref a5_0), (.long (p5_1.toInt64 * (p5_1 - (1 : Int32)).toInt64))])) (fun _ kz => XS.iconst X0.here hx rfl (hb hby d5_8) kz) ?_
  refine own_s (g' := (mkF m 10 #[.val (.ref a5_0), .val (.int p5_1)] [(.int p5_1), (.int 0), (.ref a5_0), (.long (p5_1.toInt64 * (p5_1 - (1 : Int32)).toInt64))])) (fun _ kz => XS.iloadN X0.here hx rfl (hb hby d5_9) rfl kz) ?_
  obtain ⟨_, _, ⟨T112, L112, k112, n112⟩, -, X112, ⟨Lc112, hQ112, l112, y112, z112⟩, st112⟩ := Jvm.LawKit.callS X0 hx (y := (⟨"gallai/service/GraphicalitySlacksPinLaw", "term", "([III)J"⟩ : MethodName)) hown (mvT hZ ww21) (mvT hZ ww22) (mvT hZ ww4) (mvT hZ ww23) (by decide) (backOf (W := 2) (rm6i0 l Z a0 hw [] a5_0 p5_1 ky y0 y1 y2 y3 y4 h0 n0 Z0 V_a5_0) hZ ww23 ww4 (by decide) (by decide)) (g := (mkF m 10 #[.val (.ref a5_0), .val (.int p5_1)] [(.int p5_1), (.int 0), (.ref a5_0), (.long (p5_1.toInt64 * (p5_1 - (1 : Int32)).toInt64))])) rfl (by rw [hml]; rfl) (argsL := [(.ref a5_0), (.int 0), (.int p5_1)]) (rest := [(.long (p5_1.toInt64 * (p5_1 - (1 : Int32)).toInt64))]) (lenOf pd___III_J rfl) rfl (by show 2 * 0 + _ ≤ _; exact Nat.le_of_eq rfl) (hb hby d5_10) (fun _ _ => ⟨rfl, e0, (by decide : 0 + 0 ≤ _), (by decide : 0 + 0 ≤ _)⟩)
  dsimp only [Pt.U, Pt.locs, Pt.cells, Pt.slots] at X112 l112 y112 z112 st112 hQ112
  subst l112 y112 z112
  obtain ⟨rfl, N112q, eh112⟩ := hQ112
  have N112 := Fr.app N0 N112q
  refine own_s (g' := (mkF m 13 #[.val (.ref a5_0), .val (.int p5_1)] [(.long (r6i0 p5_1 y0)), (.long (p5_1.toInt64 * (p5_1 - (1 : Int32)).toInt64))])) st112 ?_
  refine own_s (g' := (mkF m 14 #[.val (.ref a5_0), .val (.int p5_1)] [(.long ((p5_1.toInt64 * (p5_1 - (1 : Int32)).toInt64) + (r6i0 p5_1 y0)))])) (fun _ kz => XS.ladd X112.here hx rfl (hb hby d5_13) rfl kz) ?_
  refine own_s (g' := (mkF m 15 #[.val (.ref a5_0), .val (.int p5_1)] [(.ref a5_0), (.long ((p5_1.toInt64 * (p5_1 - (1 : Int32)).toInt64) + (r6i0 p5_1 y0)))])) (fun _ kz => XS.aloadN X112.here hx rfl (hb hby d5_14) rfl rfl kz) ?_
  refine own_s (g' := (mkF m 16 #[.val (.ref a5_0), .val (.int p5_1)] [(.int 1), (.ref a5_0), (.long ((p5_1.toInt64 * (p5_1 - (1 : Int32)).toInt64) + (r6i0 p5_1 y0)))])) (fun _ kz => XS.iconst X112.here hx rfl (hb hby d5_15) kz) ?_
  refine own_s (g' := (mkF m 17 #[.val (.ref a5_0), .val (.int p5_1)] [(.int p5_1), (.int 1), (.ref a5_0), (.long ((p5_1.toInt64 * (p5_1 - (1 : Int32)).toInt64) + (r6i0 p5_1 y0)))])) (fun _ kz => XS.iloadN X112.here hx rfl (hb hby d5_16) rfl kz) ?_
  obtain ⟨_, _, ⟨T113, L113, k113, n113⟩, -, X113, ⟨Lc113, hQ113, l113, y113, z113⟩, st113⟩ := Jvm.LawKit.callS X112 hx (y := (⟨"gallai/service/GraphicalitySlacksPinLaw", "term", "([III)J"⟩ : MethodName)) hown (mvT hZ ww21) (mvT hZ ww22) (mvT hZ ww4) (mvT hZ ww23) (by decide) (backOf (W := 2) (rm6i1 l Z a0 hw [] a5_0 p5_1 ky y0 y1 y2 y3 y4 h0 n0 Z0 V_a5_0) hZ ww23 ww4 (by decide) (by decide)) (g := (mkF m 17 #[.val (.ref a5_0), .val (.int p5_1)] [(.int p5_1), (.int 1), (.ref a5_0), (.long ((p5_1.toInt64 * (p5_1 - (1 : Int32)).toInt64) + (r6i0 p5_1 y0)))])) rfl (by rw [hml]; rfl) (argsL := [(.ref a5_0), (.int 1), (.int p5_1)]) (rest := [(.long ((p5_1.toInt64 * (p5_1 - (1 : Int32)).toInt64) + (r6i0 p5_1 y0)))]) (lenOf pd___III_J rfl) rfl (by show 2 * 0 + _ ≤ _; exact Nat.le_of_eq rfl) (hb hby d5_17) (fun _ _ => ⟨rfl, eh112, (by decide : 0 + 0 ≤ _), (by decide : 0 + 0 ≤ _)⟩)
  dsimp only [Pt.U, Pt.locs, Pt.cells, Pt.slots] at X113 l113 y113 z113 st113 hQ113
  subst l113 y113 z113
  obtain ⟨rfl, N113q, eh113⟩ := hQ113
  have N113 := Fr.app N112 N113q
  refine own_s (g' := (mkF m 20 #[.val (.ref a5_0), .val (.int p5_1)] [(.long (r6i1 p5_1 y1)), (.long ((p5_1.toInt64 * (p5_1 - (1 : Int32)).toInt64) + (r6i0 p5_1 y0)))])) st113 ?_
  refine own_s (g' := (mkF m 21 #[.val (.ref a5_0), .val (.int p5_1)] [(.long (((p5_1.toInt64 * (p5_1 - (1 : Int32)).toInt64) + (r6i0 p5_1 y0)) + (r6i1 p5_1 y1)))])) (fun _ kz => XS.ladd X113.here hx rfl (hb hby d5_20) rfl kz) ?_
  refine own_s (g' := (mkF m 22 #[.val (.ref a5_0), .val (.int p5_1)] [(.ref a5_0), (.long (((p5_1.toInt64 * (p5_1 - (1 : Int32)).toInt64) + (r6i0 p5_1 y0)) + (r6i1 p5_1 y1)))])) (fun _ kz => XS.aloadN X113.here hx rfl (hb hby d5_21) rfl rfl kz) ?_
  refine own_s (g' := (mkF m 23 #[.val (.ref a5_0), .val (.int p5_1)] [(.int 2), (.ref a5_0), (.long (((p5_1.toInt64 * (p5_1 - (1 : Int32)).toInt64) + (r6i0 p5_1 y0)) + (r6i1 p5_1 y1)))])) (fun _ kz => XS.iconst X113.here hx rfl (hb hby d5_22) kz) ?_
  refine own_s (g' := (mkF m 24 #[.val (.ref a5_0), .val (.int p5_1)] [(.int p5_1), (.int 2), (.ref a5_0), (.long (((p5_1.toInt64 * (p5_1 - (1 : Int32)).toInt64) + (r6i0 p5_1 y0)) + (r6i1 p5_1 y1)))])) (fun _ kz => XS.iloadN X113.here hx rfl (hb hby d5_23) rfl kz) ?_
  obtain ⟨_, _, ⟨T114, L114, k114, n114⟩, -, X114, ⟨Lc114, hQ114, l114, y114, z114⟩, st114⟩ := Jvm.LawKit.callS X113 hx (y := (⟨"gallai/service/GraphicalitySlacksPinLaw", "term", "([III)J"⟩ : MethodName)) hown (mvT hZ ww21) (mvT hZ ww22) (mvT hZ ww4) (mvT hZ ww23) (by decide) (backOf (W := 2) (rm6i2 l Z a0 hw [] a5_0 p5_1 ky y0 y1 y2 y3 y4 h0 n0 Z0 V_a5_0) hZ ww23 ww4 (by decide) (by decide)) (g := (mkF m 24 #[.val (.ref a5_0), .val (.int p5_1)] [(.int p5_1), (.int 2), (.ref a5_0), (.long (((p5_1.toInt64 * (p5_1 - (1 : Int32)).toInt64) + (r6i0 p5_1 y0)) + (r6i1 p5_1 y1)))])) rfl (by rw [hml]; rfl) (argsL := [(.ref a5_0), (.int 2), (.int p5_1)]) (rest := [(.long (((p5_1.toInt64 * (p5_1 - (1 : Int32)).toInt64) + (r6i0 p5_1 y0)) + (r6i1 p5_1 y1)))]) (lenOf pd___III_J rfl) rfl (by show 2 * 0 + _ ≤ _; exact Nat.le_of_eq rfl) (hb hby d5_24) (fun _ _ => ⟨rfl, eh113, (by decide : 0 + 0 ≤ _), (by decide : 0 + 0 ≤ _)⟩)
  dsimp only [Pt.U, Pt.locs, Pt.cells, Pt.slots] at X114 l114 y114 z114 st114 hQ114
  subst l114 y114 z114
  obtain ⟨rfl, N114q, eh114⟩ := hQ114
  have N114 := Fr.app N113 N114q
  refine own_s (g' := (mkF m 27 #[.val (.ref a5_0), .val (.int p5_1)] [(.long (r6i2 p5_1 y2)), (.long (((p5_1.toInt64 * (p5_1 - (1 : Int32)).toInt64) + (r6i0 p5_1 y0)) + (r6i1 p5_1 y1)))])) st114 ?_
  refine own_s (g' := (mkF m 28 #[.val (.ref a5_0), .val (.int p5_1)] [(.long ((((p5_1.toInt64 * (p5_1 - (1 : Int32)).toInt64) + (r6i0 p5_1 y0)) + (r6i1 p5_1 y1)) + (r6i2 p5_1 y2)))])) (fun _ kz => XS.ladd X114.here hx rfl (hb hby d5_27) rfl kz) ?_
  refine own_s (g' := (mkF m 29 #[.val (.ref a5_0), .val (.int p5_1)] [(.ref a5_0), (.long ((((p5_1.toInt64 * (p5_1 - (1 : Int32)).toInt64) + (r6i0 p5_1 y0)) + (r6i1 p5_1 y1)) + (r6i2 p5_1 y2)))])) (fun _ kz => XS.aloadN X114.here hx rfl (hb hby d5_28) rfl rfl kz) ?_
  refine own_s (g' := (mkF m 30 #[.val (.ref a5_0), .val (.int p5_1)] [(.int 3), (.ref a5_0), (.long ((((p5_1.toInt64 * (p5_1 - (1 : Int32)).toInt64) + (r6i0 p5_1 y0)) + (r6i1 p5_1 y1)) + (r6i2 p5_1 y2)))])) (fun _ kz => XS.iconst X114.here hx rfl (hb hby d5_29) kz) ?_
  refine own_s (g' := (mkF m 31 #[.val (.ref a5_0), .val (.int p5_1)] [(.int p5_1), (.int 3), (.ref a5_0), (.long ((((p5_1.toInt64 * (p5_1 - (1 : Int32)).toInt64) + (r6i0 p5_1 y0)) + (r6i1 p5_1 y1)) + (r6i2 p5_1 y2)))])) (fun _ kz => XS.iloadN X114.here hx rfl (hb hby d5_30) rfl kz) ?_
  obtain ⟨_, _, ⟨T115, L115, k115, n115⟩, -, X115, ⟨Lc115, hQ115, l115, y115, z115⟩, st115⟩ := Jvm.LawKit.callS X114 hx (y := (⟨"gallai/service/GraphicalitySlacksPinLaw", "term", "([III)J"⟩ : MethodName)) hown (mvT hZ ww21) (mvT hZ ww22) (mvT hZ ww4) (mvT hZ ww23) (by decide) (backOf (W := 2) (rm6i3 l Z a0 hw [] a5_0 p5_1 ky y0 y1 y2 y3 y4 h0 n0 Z0 V_a5_0) hZ ww23 ww4 (by decide) (by decide)) (g := (mkF m 31 #[.val (.ref a5_0), .val (.int p5_1)] [(.int p5_1), (.int 3), (.ref a5_0), (.long ((((p5_1.toInt64 * (p5_1 - (1 : Int32)).toInt64) + (r6i0 p5_1 y0)) + (r6i1 p5_1 y1)) + (r6i2 p5_1 y2)))])) rfl (by rw [hml]; rfl) (argsL := [(.ref a5_0), (.int 3), (.int p5_1)]) (rest := [(.long ((((p5_1.toInt64 * (p5_1 - (1 : Int32)).toInt64) + (r6i0 p5_1 y0)) + (r6i1 p5_1 y1)) + (r6i2 p5_1 y2)))]) (lenOf pd___III_J rfl) rfl (by show 2 * 0 + _ ≤ _; exact Nat.le_of_eq rfl) (hb hby d5_31) (fun _ _ => ⟨rfl, eh114, (by decide : 0 + 0 ≤ _), (by decide : 0 + 0 ≤ _)⟩)
  dsimp only [Pt.U, Pt.locs, Pt.cells, Pt.slots] at X115 l115 y115 z115 st115 hQ115
  subst l115 y115 z115
  obtain ⟨rfl, N115q, eh115⟩ := hQ115
  have N115 := Fr.app N114 N115q
  refine own_s (g' := (mkF m 34 #[.val (.ref a5_0), .val (.int p5_1)] [(.long (r6i3 p5_1 y3)), (.long ((((p5_1.toInt64 * (p5_1 - (1 : Int32)).toInt64) + (r6i0 p5_1 y0)) + (r6i1 p5_1 y1)) + (r6i2 p5_1 y2)))])) st115 ?_
  refine own_s (g' := (mkF m 35 #[.val (.ref a5_0), .val (.int p5_1)] [(.long (((((p5_1.toInt64 * (p5_1 - (1 : Int32)).toInt64) + (r6i0 p5_1 y0)) + (r6i1 p5_1 y1)) + (r6i2 p5_1 y2)) + (r6i3 p5_1 y3)))])) (fun _ kz => XS.ladd X115.here hx rfl (hb hby d5_34) rfl kz) ?_
  refine own_s (g' := (mkF m 36 #[.val (.ref a5_0), .val (.int p5_1)] [(.ref a5_0), (.long (((((p5_1.toInt64 * (p5_1 - (1 : Int32)).toInt64) + (r6i0 p5_1 y0)) + (r6i1 p5_1 y1)) + (r6i2 p5_1 y2)) + (r6i3 p5_1 y3)))])) (fun _ kz => XS.aloadN X115.here hx rfl (hb hby d5_35) rfl rfl kz) ?_
  refine own_s (g' := (mkF m 37 #[.val (.ref a5_0), .val (.int p5_1)] [(.int 4), (.ref a5_0), (.long (((((p5_1.toInt64 * (p5_1 - (1 : Int32)).toInt64) + (r6i0 p5_1 y0)) + (r6i1 p5_1 y1)) + (r6i2 p5_1 y2)) + (r6i3 p5_1 y3)))])) (fun _ kz => XS.iconst X115.here hx rfl (hb hby d5_36) kz) ?_
  refine own_s (g' := (mkF m 38 #[.val (.ref a5_0), .val (.int p5_1)] [(.int p5_1), (.int 4), (.ref a5_0), (.long (((((p5_1.toInt64 * (p5_1 - (1 : Int32)).toInt64) + (r6i0 p5_1 y0)) + (r6i1 p5_1 y1)) + (r6i2 p5_1 y2)) + (r6i3 p5_1 y3)))])) (fun _ kz => XS.iloadN X115.here hx rfl (hb hby d5_37) rfl kz) ?_
  obtain ⟨_, _, ⟨T116, L116, k116, n116⟩, -, X116, ⟨Lc116, hQ116, l116, y116, z116⟩, st116⟩ := Jvm.LawKit.callS X115 hx (y := (⟨"gallai/service/GraphicalitySlacksPinLaw", "term", "([III)J"⟩ : MethodName)) hown (mvT hZ ww21) (mvT hZ ww22) (mvT hZ ww4) (mvT hZ ww23) (by decide) (backOf (W := 2) (rm6i4 l Z a0 hw [] a5_0 p5_1 ky y0 y1 y2 y3 y4 h0 n0 Z0 V_a5_0) hZ ww23 ww4 (by decide) (by decide)) (g := (mkF m 38 #[.val (.ref a5_0), .val (.int p5_1)] [(.int p5_1), (.int 4), (.ref a5_0), (.long (((((p5_1.toInt64 * (p5_1 - (1 : Int32)).toInt64) + (r6i0 p5_1 y0)) + (r6i1 p5_1 y1)) + (r6i2 p5_1 y2)) + (r6i3 p5_1 y3)))])) rfl (by rw [hml]; rfl) (argsL := [(.ref a5_0), (.int 4), (.int p5_1)]) (rest := [(.long (((((p5_1.toInt64 * (p5_1 - (1 : Int32)).toInt64) + (r6i0 p5_1 y0)) + (r6i1 p5_1 y1)) + (r6i2 p5_1 y2)) + (r6i3 p5_1 y3)))]) (lenOf pd___III_J rfl) rfl (by show 2 * 0 + _ ≤ _; exact Nat.le_of_eq rfl) (hb hby d5_38) (fun _ _ => ⟨rfl, eh115, (by decide : 0 + 0 ≤ _), (by decide : 0 + 0 ≤ _)⟩)
  dsimp only [Pt.U, Pt.locs, Pt.cells, Pt.slots] at X116 l116 y116 z116 st116 hQ116
  subst l116 y116 z116
  obtain ⟨rfl, N116q, eh116⟩ := hQ116
  have N116 := Fr.app N115 N116q
  refine own_s (g' := (mkF m 41 #[.val (.ref a5_0), .val (.int p5_1)] [(.long (r6i4 p5_1 y4)), (.long (((((p5_1.toInt64 * (p5_1 - (1 : Int32)).toInt64) + (r6i0 p5_1 y0)) + (r6i1 p5_1 y1)) + (r6i2 p5_1 y2)) + (r6i3 p5_1 y3)))])) st116 ?_
  refine own_s (g' := (mkF m 42 #[.val (.ref a5_0), .val (.int p5_1)] [(.long ((((((p5_1.toInt64 * (p5_1 - (1 : Int32)).toInt64) + (r6i0 p5_1 y0)) + (r6i1 p5_1 y1)) + (r6i2 p5_1 y2)) + (r6i3 p5_1 y3)) + (r6i4 p5_1 y4)))])) (fun _ kz => XS.ladd X116.here hx rfl (hb hby d5_41) rfl kz) ?_
  refine own_retJ X116 hx hlk hret (hb hby d5_42) (by decide) (by decide) ?_
  show Q5 Z a5_0 p5_1 ky y0 y1 y2 y3 y4 h0 n0 _ T116.heap _
  rw [eh116]
  exact ⟨rfl, N116, rfl⟩
def own_okB (t0 t1 t2 t3 t4 rr mm : Int32) (sx : List Int64) : Bool := decide (t4 < (5 : Int32)) && decide (¬ t3 < (4 : Int32) → ¬ t2 < (3 : Int32)) && decide (¬ t2 < (3 : Int32) → ¬ t1 < (2 : Int32)) && decide (¬ t1 < (2 : Int32) → ¬ t0 < (1 : Int32)) && (if t0 < (1 : Int32) then (decide (rr = (0 : Int32))) else if t1 < (2 : Int32) then (decide (rr = (1 : Int32)) && (decide ((1 : Int32) < mm) && decide (sx.getD 1 0 = (r5 (1 : Int32) t0 t1 t2 t3 t4)))) else if t2 < (3 : Int32) then (decide (rr = (2 : Int32)) && (decide ((1 : Int32) < mm) && decide (sx.getD 1 0 = (r5 (1 : Int32) t0 t1 t2 t3 t4))) && (decide ((2 : Int32) < mm) && decide (sx.getD 2 0 = (r5 (2 : Int32) t0 t1 t2 t3 t4)))) else if t3 < (4 : Int32) then (decide (rr = (3 : Int32)) && (decide ((1 : Int32) < mm) && decide (sx.getD 1 0 = (r5 (1 : Int32) t0 t1 t2 t3 t4))) && (decide ((2 : Int32) < mm) && decide (sx.getD 2 0 = (r5 (2 : Int32) t0 t1 t2 t3 t4))) && (decide ((3 : Int32) < mm) && decide (sx.getD 3 0 = (r5 (3 : Int32) t0 t1 t2 t3 t4)))) else (decide (rr = (4 : Int32)) && (decide ((1 : Int32) < mm) && decide (sx.getD 1 0 = (r5 (1 : Int32) t0 t1 t2 t3 t4))) && (decide ((2 : Int32) < mm) && decide (sx.getD 2 0 = (r5 (2 : Int32) t0 t1 t2 t3 t4))) && (decide ((3 : Int32) < mm) && decide (sx.getD 3 0 = (r5 (3 : Int32) t0 t1 t2 t3 t4))) && (decide ((4 : Int32) < mm) && decide (sx.getD 4 0 = (r5 (4 : Int32) t0 t1 t2 t3 t4)))))
theorem pd___II_J : parseMethodDescriptor "([II)J" = some ⟨[(.array .int), .int], some .long⟩ := by decide +kernel
abbrev own_Lown_tail_0 (sl0 : Slot) (sl1 : Slot) (sl2 : Slot) (sl3 : Slot) (sl4 : Slot) (sl5 : Slot) (sl6 : Slot) (aT : Addr) (sl8 : Slot) (sl9 : Slot) (aS : Addr) (rr : Int32) (l12 l13 : Slot) : Array Slot := #[sl0, sl1, sl2, sl3, sl4, sl5, sl6, .val (.ref aT), sl8, sl9, .val (.ref aS), .val (.int rr), l12, l13]
set_option maxRecDepth 65536 in
set_option maxHeartbeats 40000000 in
theorem own_tail (l : Launch) (Z : State) (a0 : Array Value) (hw : ∀ d ∈ tables_1, d.before a0 Z = true) (sl0 : Slot) (sl1 : Slot) (sl2 : Slot) (sl3 : Slot) (sl4 : Slot) (sl5 : Slot) (sl6 : Slot) (aT : Addr) (sl8 : Slot) (sl9 : Slot) (aS : Addr) (rr : Int32) (sx : List Int64) (kt : ClassId) (y0 : Int32) (y1 : Int32) (y2 : Int32) (y3 : Int32) (y4 : Int32) (ks : ClassId) (mm : Int32) {p : Program} {e : Env} {s : State} {m : MethodId} {args : Array Value} {below : List Frame} {meth : Method} {c : Code} {s₁ : State} {locs : List Loc}
    (X0 : Stand p l e room_1 s m args below meth c s₁ locs 8 40) (hx : p.tables.exec = Jvm.exec) (hZ : Z.Warmed39 s.vm) (hby : c.code = code) (hml : c.maxLocals = 14) (hown : s.vm.findClass "gallai/service/GraphicalitySlacksPinLaw" = some m.cls) (hlk : meth.locks = false) (hret : meth.sig.returnType = some .boolean) (h0 : Heap) (n0 : Nat) (e0 : s₁.heap = h0) (Z0 : n0 ≤ h0.size) (N0 : Fr n0 locs) (V_aT : Arv Z h0 aT kt .int (5 : Int32) [(.int y0), (.int y1), (.int y2), (.int y3), (.int y4)] (.int 0)) (V_aS : Arv Z h0 aS ks .long mm (sx.map Value.long) (.long 0)) (hok : own_okB y0 y1 y2 y3 y4 rr mm sx = true) :
    own_G p e below s (fun v h L => v = some (.int (1 : Int32)) ∧ Fr n0 L) 16 128 s₁ (mkF m 277 #[sl0, sl1, sl2, sl3, sl4, sl5, sl6, .val (.ref aT), sl8, sl9, .val (.ref aS), .val (.int rr), .unset, .unset] []) := by
  have K0 : Keep h0 h0 [] := Keep.refl _ _
  have ww4 := hw _ (List.mem_of_getElem? (i := 4) rfl)
  have ww18 := hw _ (List.mem_of_getElem? (i := 18) rfl)
  have ww19 := hw _ (List.mem_of_getElem? (i := 19) rfl)
  have ww20 := hw _ (List.mem_of_getElem? (i := 20) rfl)
  show own_G p e below s _ _ _ s₁ (mkF m _ (own_Lown_tail_0 sl0 sl1 sl2 sl3 sl4 sl5 sl6 aT sl8 sl9 aS rr .unset .unset) _)
  simp only [own_okB, Bool.and_eq_true, decide_eq_true_eq] at hok
  obtain ⟨⟨⟨⟨h45, h32⟩, h21⟩, h10⟩, hr⟩ := hok
  refine own_s (g' := (mkF m 278 (own_Lown_tail_0 sl0 sl1 sl2 sl3 sl4 sl5 sl6 aT sl8 sl9 aS rr .unset .unset) [(.int 5)])) (fun _ kz => XS.iconst X0.here hx rfl (hb hby at_277) kz) ?_
  refine own_s (g' := (mkF m 280 (own_Lown_tail_0 sl0 sl1 sl2 sl3 sl4 sl5 sl6 aT sl8 sl9 aS rr (.val (.int 5)) .unset) [])) (fun _ kz => XS.istore X0.here hx rfl (hb hby at_278) rfl (l' := (own_Lown_tail_0 sl0 sl1 sl2 sl3 sl4 sl5 sl6 aT sl8 sl9 aS rr (.val (.int 5)) .unset)) rfl kz) ?_
  refine own_s (g' := (mkF m 282 (own_Lown_tail_0 sl0 sl1 sl2 sl3 sl4 sl5 sl6 aT sl8 sl9 aS rr (.val (.int 5)) .unset) [(.ref aT)])) (fun _ kz => XS.aload X0.here hx rfl (hb hby at_280) rfl rfl kz) ?_
  refine own_s (g' := (mkF m 283 (own_Lown_tail_0 sl0 sl1 sl2 sl3 sl4 sl5 sl6 aT sl8 sl9 aS rr (.val (.int 5)) .unset) [(.int 4), (.ref aT)])) (fun _ kz => XS.iconst X0.here hx rfl (hb hby at_282) kz) ?_
  obtain ⟨cl117, Ar117, -, S117, -, H117, -⟩ := id V_aT
  have in117 := inb_of S117 (j := (4 : Int32)) ⟨by decide, by decide⟩
  refine own_s (g' := (mkF m 284 (own_Lown_tail_0 sl0 sl1 sl2 sl3 sl4 sl5 sl6 aT sl8 sl9 aS rr (.val (.int 5)) .unset) [(.int y4)])) (X0.iaload hx (j := (4 : Int32)) (v := (.int y4)) (by rw [e0]; exact Ar117.1) (State.isArrayOf_alike hZ.alike Ar117.2.1) Ar117.2.2 in117 (Has.at H117 in117 rfl) (g := (mkF m 283 (own_Lown_tail_0 sl0 sl1 sl2 sl3 sl4 sl5 sl6 aT sl8 sl9 aS rr (.val (.int 5)) .unset) [(.int 4), (.ref aT)])) rfl rfl (hb hby at_283)) ?_
  refine own_s (g' := (mkF m 285 (own_Lown_tail_0 sl0 sl1 sl2 sl3 sl4 sl5 sl6 aT sl8 sl9 aS rr (.val (.int 5)) .unset) [(.int 5), (.int y4)])) (fun _ kz => XS.iconst X0.here hx rfl (hb hby at_284) kz) ?_
  refine own_s (g' := (mkF m 288 (own_Lown_tail_0 sl0 sl1 sl2 sl3 sl4 sl5 sl6 aT sl8 sl9 aS rr (.val (.int 5)) .unset) [])) (fun _ kz => XS.icmpNo X0.here hx rfl (hb hby at_285) rfl (tlt h45).2.1 kz) ?_
  refine own_s (g' := (mkF m 289 (own_Lown_tail_0 sl0 sl1 sl2 sl3 sl4 sl5 sl6 aT sl8 sl9 aS rr (.val (.int 5)) .unset) [(.int 4)])) (fun _ kz => XS.iconst X0.here hx rfl (hb hby at_288) kz) ?_
  refine own_s (g' := (mkF m 291 (own_Lown_tail_0 sl0 sl1 sl2 sl3 sl4 sl5 sl6 aT sl8 sl9 aS rr (.val (.int 4)) .unset) [])) (fun _ kz => XS.istore X0.here hx rfl (hb hby at_289) rfl (l' := (own_Lown_tail_0 sl0 sl1 sl2 sl3 sl4 sl5 sl6 aT sl8 sl9 aS rr (.val (.int 4)) .unset)) rfl kz) ?_
  refine own_s (g' := (mkF m 293 (own_Lown_tail_0 sl0 sl1 sl2 sl3 sl4 sl5 sl6 aT sl8 sl9 aS rr (.val (.int 4)) .unset) [(.ref aT)])) (fun _ kz => XS.aload X0.here hx rfl (hb hby at_291) rfl rfl kz) ?_
  refine own_s (g' := (mkF m 294 (own_Lown_tail_0 sl0 sl1 sl2 sl3 sl4 sl5 sl6 aT sl8 sl9 aS rr (.val (.int 4)) .unset) [(.int 3), (.ref aT)])) (fun _ kz => XS.iconst X0.here hx rfl (hb hby at_293) kz) ?_
  obtain ⟨cl118, Ar118, -, S118, -, H118, -⟩ := id V_aT
  have in118 := inb_of S118 (j := (3 : Int32)) ⟨by decide, by decide⟩
  refine own_s (g' := (mkF m 295 (own_Lown_tail_0 sl0 sl1 sl2 sl3 sl4 sl5 sl6 aT sl8 sl9 aS rr (.val (.int 4)) .unset) [(.int y3)])) (X0.iaload hx (j := (3 : Int32)) (v := (.int y3)) (by rw [e0]; exact Ar118.1) (State.isArrayOf_alike hZ.alike Ar118.2.1) Ar118.2.2 in118 (Has.at H118 in118 rfl) (g := (mkF m 294 (own_Lown_tail_0 sl0 sl1 sl2 sl3 sl4 sl5 sl6 aT sl8 sl9 aS rr (.val (.int 4)) .unset) [(.int 3), (.ref aT)])) rfl rfl (hb hby at_294)) ?_
  refine own_s (g' := (mkF m 296 (own_Lown_tail_0 sl0 sl1 sl2 sl3 sl4 sl5 sl6 aT sl8 sl9 aS rr (.val (.int 4)) .unset) [(.int 4), (.int y3)])) (fun _ kz => XS.iconst X0.here hx rfl (hb hby at_295) kz) ?_
  by_cases c119 : y3 < (4 : Int32)
  ·skip
   refine own_s (g' := (mkF m 299 (own_Lown_tail_0 sl0 sl1 sl2 sl3 sl4 sl5 sl6 aT sl8 sl9 aS rr (.val (.int 4)) .unset) [])) (fun _ kz => XS.icmpNo X0.here hx rfl (hb hby at_296) rfl (tlt c119).2.1 kz) ?_
   refine own_s (g' := (mkF m 300 (own_Lown_tail_0 sl0 sl1 sl2 sl3 sl4 sl5 sl6 aT sl8 sl9 aS rr (.val (.int 4)) .unset) [(.int 3)])) (fun _ kz => XS.iconst X0.here hx rfl (hb hby at_299) kz) ?_
   refine own_s (g' := (mkF m 302 (own_Lown_tail_0 sl0 sl1 sl2 sl3 sl4 sl5 sl6 aT sl8 sl9 aS rr (.val (.int 3)) .unset) [])) (fun _ kz => XS.istore X0.here hx rfl (hb hby at_300) rfl (l' := (own_Lown_tail_0 sl0 sl1 sl2 sl3 sl4 sl5 sl6 aT sl8 sl9 aS rr (.val (.int 3)) .unset)) rfl kz) ?_
   refine own_s (g' := (mkF m 304 (own_Lown_tail_0 sl0 sl1 sl2 sl3 sl4 sl5 sl6 aT sl8 sl9 aS rr (.val (.int 3)) .unset) [(.ref aT)])) (fun _ kz => XS.aload X0.here hx rfl (hb hby at_302) rfl rfl kz) ?_
   refine own_s (g' := (mkF m 305 (own_Lown_tail_0 sl0 sl1 sl2 sl3 sl4 sl5 sl6 aT sl8 sl9 aS rr (.val (.int 3)) .unset) [(.int 2), (.ref aT)])) (fun _ kz => XS.iconst X0.here hx rfl (hb hby at_304) kz) ?_
   obtain ⟨cl120, Ar120, -, S120, -, H120, -⟩ := id V_aT
   have in120 := inb_of S120 (j := (2 : Int32)) ⟨by decide, by decide⟩
   refine own_s (g' := (mkF m 306 (own_Lown_tail_0 sl0 sl1 sl2 sl3 sl4 sl5 sl6 aT sl8 sl9 aS rr (.val (.int 3)) .unset) [(.int y2)])) (X0.iaload hx (j := (2 : Int32)) (v := (.int y2)) (by rw [e0]; exact Ar120.1) (State.isArrayOf_alike hZ.alike Ar120.2.1) Ar120.2.2 in120 (Has.at H120 in120 rfl) (g := (mkF m 305 (own_Lown_tail_0 sl0 sl1 sl2 sl3 sl4 sl5 sl6 aT sl8 sl9 aS rr (.val (.int 3)) .unset) [(.int 2), (.ref aT)])) rfl rfl (hb hby at_305)) ?_
   refine own_s (g' := (mkF m 307 (own_Lown_tail_0 sl0 sl1 sl2 sl3 sl4 sl5 sl6 aT sl8 sl9 aS rr (.val (.int 3)) .unset) [(.int 3), (.int y2)])) (fun _ kz => XS.iconst X0.here hx rfl (hb hby at_306) kz) ?_
   by_cases c121 : y2 < (3 : Int32)
   ·skip
    refine own_s (g' := (mkF m 310 (own_Lown_tail_0 sl0 sl1 sl2 sl3 sl4 sl5 sl6 aT sl8 sl9 aS rr (.val (.int 3)) .unset) [])) (fun _ kz => XS.icmpNo X0.here hx rfl (hb hby at_307) rfl (tlt c121).2.1 kz) ?_
    refine own_s (g' := (mkF m 311 (own_Lown_tail_0 sl0 sl1 sl2 sl3 sl4 sl5 sl6 aT sl8 sl9 aS rr (.val (.int 3)) .unset) [(.int 2)])) (fun _ kz => XS.iconst X0.here hx rfl (hb hby at_310) kz) ?_
    refine own_s (g' := (mkF m 313 (own_Lown_tail_0 sl0 sl1 sl2 sl3 sl4 sl5 sl6 aT sl8 sl9 aS rr (.val (.int 2)) .unset) [])) (fun _ kz => XS.istore X0.here hx rfl (hb hby at_311) rfl (l' := (own_Lown_tail_0 sl0 sl1 sl2 sl3 sl4 sl5 sl6 aT sl8 sl9 aS rr (.val (.int 2)) .unset)) rfl kz) ?_
    refine own_s (g' := (mkF m 315 (own_Lown_tail_0 sl0 sl1 sl2 sl3 sl4 sl5 sl6 aT sl8 sl9 aS rr (.val (.int 2)) .unset) [(.ref aT)])) (fun _ kz => XS.aload X0.here hx rfl (hb hby at_313) rfl rfl kz) ?_
    refine own_s (g' := (mkF m 316 (own_Lown_tail_0 sl0 sl1 sl2 sl3 sl4 sl5 sl6 aT sl8 sl9 aS rr (.val (.int 2)) .unset) [(.int 1), (.ref aT)])) (fun _ kz => XS.iconst X0.here hx rfl (hb hby at_315) kz) ?_
    obtain ⟨cl122, Ar122, -, S122, -, H122, -⟩ := id V_aT
    have in122 := inb_of S122 (j := (1 : Int32)) ⟨by decide, by decide⟩
    refine own_s (g' := (mkF m 317 (own_Lown_tail_0 sl0 sl1 sl2 sl3 sl4 sl5 sl6 aT sl8 sl9 aS rr (.val (.int 2)) .unset) [(.int y1)])) (X0.iaload hx (j := (1 : Int32)) (v := (.int y1)) (by rw [e0]; exact Ar122.1) (State.isArrayOf_alike hZ.alike Ar122.2.1) Ar122.2.2 in122 (Has.at H122 in122 rfl) (g := (mkF m 316 (own_Lown_tail_0 sl0 sl1 sl2 sl3 sl4 sl5 sl6 aT sl8 sl9 aS rr (.val (.int 2)) .unset) [(.int 1), (.ref aT)])) rfl rfl (hb hby at_316)) ?_
    refine own_s (g' := (mkF m 318 (own_Lown_tail_0 sl0 sl1 sl2 sl3 sl4 sl5 sl6 aT sl8 sl9 aS rr (.val (.int 2)) .unset) [(.int 2), (.int y1)])) (fun _ kz => XS.iconst X0.here hx rfl (hb hby at_317) kz) ?_
    by_cases c123 : y1 < (2 : Int32)
    ·skip
     refine own_s (g' := (mkF m 321 (own_Lown_tail_0 sl0 sl1 sl2 sl3 sl4 sl5 sl6 aT sl8 sl9 aS rr (.val (.int 2)) .unset) [])) (fun _ kz => XS.icmpNo X0.here hx rfl (hb hby at_318) rfl (tlt c123).2.1 kz) ?_
     refine own_s (g' := (mkF m 322 (own_Lown_tail_0 sl0 sl1 sl2 sl3 sl4 sl5 sl6 aT sl8 sl9 aS rr (.val (.int 2)) .unset) [(.int 1)])) (fun _ kz => XS.iconst X0.here hx rfl (hb hby at_321) kz) ?_
     refine own_s (g' := (mkF m 324 (own_Lown_tail_0 sl0 sl1 sl2 sl3 sl4 sl5 sl6 aT sl8 sl9 aS rr (.val (.int 1)) .unset) [])) (fun _ kz => XS.istore X0.here hx rfl (hb hby at_322) rfl (l' := (own_Lown_tail_0 sl0 sl1 sl2 sl3 sl4 sl5 sl6 aT sl8 sl9 aS rr (.val (.int 1)) .unset)) rfl kz) ?_
     refine own_s (g' := (mkF m 326 (own_Lown_tail_0 sl0 sl1 sl2 sl3 sl4 sl5 sl6 aT sl8 sl9 aS rr (.val (.int 1)) .unset) [(.ref aT)])) (fun _ kz => XS.aload X0.here hx rfl (hb hby at_324) rfl rfl kz) ?_
     refine own_s (g' := (mkF m 327 (own_Lown_tail_0 sl0 sl1 sl2 sl3 sl4 sl5 sl6 aT sl8 sl9 aS rr (.val (.int 1)) .unset) [(.int 0), (.ref aT)])) (fun _ kz => XS.iconst X0.here hx rfl (hb hby at_326) kz) ?_
     obtain ⟨cl124, Ar124, -, S124, -, H124, -⟩ := id V_aT
     have in124 := inb_of S124 (j := (0 : Int32)) ⟨by decide, by decide⟩
     refine own_s (g' := (mkF m 328 (own_Lown_tail_0 sl0 sl1 sl2 sl3 sl4 sl5 sl6 aT sl8 sl9 aS rr (.val (.int 1)) .unset) [(.int y0)])) (X0.iaload hx (j := (0 : Int32)) (v := (.int y0)) (by rw [e0]; exact Ar124.1) (State.isArrayOf_alike hZ.alike Ar124.2.1) Ar124.2.2 in124 (Has.at H124 in124 rfl) (g := (mkF m 327 (own_Lown_tail_0 sl0 sl1 sl2 sl3 sl4 sl5 sl6 aT sl8 sl9 aS rr (.val (.int 1)) .unset) [(.int 0), (.ref aT)])) rfl rfl (hb hby at_327)) ?_
     refine own_s (g' := (mkF m 329 (own_Lown_tail_0 sl0 sl1 sl2 sl3 sl4 sl5 sl6 aT sl8 sl9 aS rr (.val (.int 1)) .unset) [(.int 1), (.int y0)])) (fun _ kz => XS.iconst X0.here hx rfl (hb hby at_328) kz) ?_
     by_cases c125 : y0 < (1 : Int32)
     ·skip
      refine own_s (g' := (mkF m 332 (own_Lown_tail_0 sl0 sl1 sl2 sl3 sl4 sl5 sl6 aT sl8 sl9 aS rr (.val (.int 1)) .unset) [])) (fun _ kz => XS.icmpNo X0.here hx rfl (hb hby at_329) rfl (tlt c125).2.1 kz) ?_
      refine own_s (g' := (mkF m 333 (own_Lown_tail_0 sl0 sl1 sl2 sl3 sl4 sl5 sl6 aT sl8 sl9 aS rr (.val (.int 1)) .unset) [(.int 0)])) (fun _ kz => XS.iconst X0.here hx rfl (hb hby at_332) kz) ?_
      refine own_s (g' := (mkF m 335 (own_Lown_tail_0 sl0 sl1 sl2 sl3 sl4 sl5 sl6 aT sl8 sl9 aS rr (.val (.int 0)) .unset) [])) (fun _ kz => XS.istore X0.here hx rfl (hb hby at_333) rfl (l' := (own_Lown_tail_0 sl0 sl1 sl2 sl3 sl4 sl5 sl6 aT sl8 sl9 aS rr (.val (.int 0)) .unset)) rfl kz) ?_
      rw [if_pos c125] at hr
      simp only [Bool.and_eq_true, decide_eq_true_eq] at hr
      have hrr := hr
      refine own_s (g' := (mkF m 337 (own_Lown_tail_0 sl0 sl1 sl2 sl3 sl4 sl5 sl6 aT sl8 sl9 aS rr (.val (.int 0)) .unset) [(.int rr)])) (fun _ kz => XS.iload X0.here hx rfl (hb hby at_335) rfl kz) ?_
      refine own_s (g' := (mkF m 339 (own_Lown_tail_0 sl0 sl1 sl2 sl3 sl4 sl5 sl6 aT sl8 sl9 aS rr (.val (.int 0)) .unset) [(.int 0), (.int rr)])) (fun _ kz => XS.iload X0.here hx rfl (hb hby at_337) rfl kz) ?_
      refine own_s (g' := (mkF m 342 (own_Lown_tail_0 sl0 sl1 sl2 sl3 sl4 sl5 sl6 aT sl8 sl9 aS rr (.val (.int 0)) .unset) [])) (fun _ kz => XS.icmpNo X0.here hx rfl (hb hby at_339) rfl (teq hrr).2 kz) ?_
      refine own_s (g' := (mkF m 343 (own_Lown_tail_0 sl0 sl1 sl2 sl3 sl4 sl5 sl6 aT sl8 sl9 aS rr (.val (.int 0)) .unset) [(.int 1)])) (fun _ kz => XS.iconst X0.here hx rfl (hb hby at_342) kz) ?_
      refine own_s (g' := (mkF m 347 (own_Lown_tail_0 sl0 sl1 sl2 sl3 sl4 sl5 sl6 aT sl8 sl9 aS rr (.val (.int 0)) .unset) [(.int 1)])) (fun _ kz => XS.goto X0.here hx rfl (pc0 := 343) (pc' := 347) rfl (hb hby at_343) (by decide) (by decide) kz) ?_
      refine own_s (g' := (mkF m 349 (own_Lown_tail_0 sl0 sl1 sl2 sl3 sl4 sl5 sl6 aT sl8 sl9 aS rr (.val (.int 0)) (.val (.int 1))) [])) (fun _ kz => XS.istore X0.here hx rfl (hb hby at_347) rfl (l' := (own_Lown_tail_0 sl0 sl1 sl2 sl3 sl4 sl5 sl6 aT sl8 sl9 aS rr (.val (.int 0)) (.val (.int 1)))) rfl kz) ?_
      refine own_s (g' := (mkF m 351 (own_Lown_tail_0 sl0 sl1 sl2 sl3 sl4 sl5 sl6 aT sl8 sl9 aS rr (.val (.int 0)) (.val (.int 1))) [(.int 1)])) (fun _ kz => XS.iload X0.here hx rfl (hb hby at_349) rfl kz) ?_
      refine own_s (g' := (mkF m 354 (own_Lown_tail_0 sl0 sl1 sl2 sl3 sl4 sl5 sl6 aT sl8 sl9 aS rr (.val (.int 0)) (.val (.int 1))) [])) (fun _ kz => XS.ifNo X0.here hx rfl (hb hby at_351) rfl ((if0 _ _).trans (feq ((by decide) : ¬ (1 : Int32) = (0 : Int32))).1) kz) ?_
      refine own_s (g' := (mkF m 356 (own_Lown_tail_0 sl0 sl1 sl2 sl3 sl4 sl5 sl6 aT sl8 sl9 aS rr (.val (.int 0)) (.val (.int 1))) [(.int 0)])) (fun _ kz => XS.iload X0.here hx rfl (hb hby at_354) rfl kz) ?_
      refine own_s (g' := (mkF m 357 (own_Lown_tail_0 sl0 sl1 sl2 sl3 sl4 sl5 sl6 aT sl8 sl9 aS rr (.val (.int 0)) (.val (.int 1))) [(.int 1), (.int 0)])) (fun _ kz => XS.iconst X0.here hx rfl (hb hby at_356) kz) ?_
      refine own_s (g' := (mkF m 374 (own_Lown_tail_0 sl0 sl1 sl2 sl3 sl4 sl5 sl6 aT sl8 sl9 aS rr (.val (.int 0)) (.val (.int 1))) [])) (fun _ kz => XS.icmpYes X0.here hx rfl (pc0 := 357) (pc' := 374) rfl (hb hby at_357) rfl (tlt ((by decide) : (0 : Int32) < (1 : Int32))).1 (by decide) (by decide) kz) ?_
      refine own_s (g' := (mkF m 375 (own_Lown_tail_0 sl0 sl1 sl2 sl3 sl4 sl5 sl6 aT sl8 sl9 aS rr (.val (.int 0)) (.val (.int 1))) [(.int 1)])) (fun _ kz => XS.iconst X0.here hx rfl (hb hby at_374) kz) ?_
      refine own_s (g' := (mkF m 379 (own_Lown_tail_0 sl0 sl1 sl2 sl3 sl4 sl5 sl6 aT sl8 sl9 aS rr (.val (.int 0)) (.val (.int 1))) [(.int 1)])) (fun _ kz => XS.goto X0.here hx rfl (pc0 := 375) (pc' := 379) rfl (hb hby at_375) (by decide) (by decide) kz) ?_
      refine own_s (g' := (mkF m 381 (own_Lown_tail_0 sl0 sl1 sl2 sl3 sl4 sl5 sl6 aT sl8 sl9 aS rr (.val (.int 0)) (.val (.int 1))) [])) (fun _ kz => XS.istore X0.here hx rfl (hb hby at_379) rfl (l' := (own_Lown_tail_0 sl0 sl1 sl2 sl3 sl4 sl5 sl6 aT sl8 sl9 aS rr (.val (.int 0)) (.val (.int 1)))) rfl kz) ?_
      refine own_s (g' := (mkF m 383 (own_Lown_tail_0 sl0 sl1 sl2 sl3 sl4 sl5 sl6 aT sl8 sl9 aS rr (.val (.int 0)) (.val (.int 1))) [(.int 1)])) (fun _ kz => XS.iload X0.here hx rfl (hb hby at_381) rfl kz) ?_
      refine own_s (g' := (mkF m 386 (own_Lown_tail_0 sl0 sl1 sl2 sl3 sl4 sl5 sl6 aT sl8 sl9 aS rr (.val (.int 0)) (.val (.int 1))) [])) (fun _ kz => XS.ifNo X0.here hx rfl (hb hby at_383) rfl ((if0 _ _).trans (feq ((by decide) : ¬ (1 : Int32) = (0 : Int32))).1) kz) ?_
      refine own_s (g' := (mkF m 388 (own_Lown_tail_0 sl0 sl1 sl2 sl3 sl4 sl5 sl6 aT sl8 sl9 aS rr (.val (.int 0)) (.val (.int 1))) [(.int 0)])) (fun _ kz => XS.iload X0.here hx rfl (hb hby at_386) rfl kz) ?_
      refine own_s (g' := (mkF m 389 (own_Lown_tail_0 sl0 sl1 sl2 sl3 sl4 sl5 sl6 aT sl8 sl9 aS rr (.val (.int 0)) (.val (.int 1))) [(.int 2), (.int 0)])) (fun _ kz => XS.iconst X0.here hx rfl (hb hby at_388) kz) ?_
      refine own_s (g' := (mkF m 406 (own_Lown_tail_0 sl0 sl1 sl2 sl3 sl4 sl5 sl6 aT sl8 sl9 aS rr (.val (.int 0)) (.val (.int 1))) [])) (fun _ kz => XS.icmpYes X0.here hx rfl (pc0 := 389) (pc' := 406) rfl (hb hby at_389) rfl (tlt ((by decide) : (0 : Int32) < (2 : Int32))).1 (by decide) (by decide) kz) ?_
      refine own_s (g' := (mkF m 407 (own_Lown_tail_0 sl0 sl1 sl2 sl3 sl4 sl5 sl6 aT sl8 sl9 aS rr (.val (.int 0)) (.val (.int 1))) [(.int 1)])) (fun _ kz => XS.iconst X0.here hx rfl (hb hby at_406) kz) ?_
      refine own_s (g' := (mkF m 411 (own_Lown_tail_0 sl0 sl1 sl2 sl3 sl4 sl5 sl6 aT sl8 sl9 aS rr (.val (.int 0)) (.val (.int 1))) [(.int 1)])) (fun _ kz => XS.goto X0.here hx rfl (pc0 := 407) (pc' := 411) rfl (hb hby at_407) (by decide) (by decide) kz) ?_
      refine own_s (g' := (mkF m 413 (own_Lown_tail_0 sl0 sl1 sl2 sl3 sl4 sl5 sl6 aT sl8 sl9 aS rr (.val (.int 0)) (.val (.int 1))) [])) (fun _ kz => XS.istore X0.here hx rfl (hb hby at_411) rfl (l' := (own_Lown_tail_0 sl0 sl1 sl2 sl3 sl4 sl5 sl6 aT sl8 sl9 aS rr (.val (.int 0)) (.val (.int 1)))) rfl kz) ?_
      refine own_s (g' := (mkF m 415 (own_Lown_tail_0 sl0 sl1 sl2 sl3 sl4 sl5 sl6 aT sl8 sl9 aS rr (.val (.int 0)) (.val (.int 1))) [(.int 1)])) (fun _ kz => XS.iload X0.here hx rfl (hb hby at_413) rfl kz) ?_
      refine own_s (g' := (mkF m 418 (own_Lown_tail_0 sl0 sl1 sl2 sl3 sl4 sl5 sl6 aT sl8 sl9 aS rr (.val (.int 0)) (.val (.int 1))) [])) (fun _ kz => XS.ifNo X0.here hx rfl (hb hby at_415) rfl ((if0 _ _).trans (feq ((by decide) : ¬ (1 : Int32) = (0 : Int32))).1) kz) ?_
      refine own_s (g' := (mkF m 420 (own_Lown_tail_0 sl0 sl1 sl2 sl3 sl4 sl5 sl6 aT sl8 sl9 aS rr (.val (.int 0)) (.val (.int 1))) [(.int 0)])) (fun _ kz => XS.iload X0.here hx rfl (hb hby at_418) rfl kz) ?_
      refine own_s (g' := (mkF m 421 (own_Lown_tail_0 sl0 sl1 sl2 sl3 sl4 sl5 sl6 aT sl8 sl9 aS rr (.val (.int 0)) (.val (.int 1))) [(.int 3), (.int 0)])) (fun _ kz => XS.iconst X0.here hx rfl (hb hby at_420) kz) ?_
      refine own_s (g' := (mkF m 438 (own_Lown_tail_0 sl0 sl1 sl2 sl3 sl4 sl5 sl6 aT sl8 sl9 aS rr (.val (.int 0)) (.val (.int 1))) [])) (fun _ kz => XS.icmpYes X0.here hx rfl (pc0 := 421) (pc' := 438) rfl (hb hby at_421) rfl (tlt ((by decide) : (0 : Int32) < (3 : Int32))).1 (by decide) (by decide) kz) ?_
      refine own_s (g' := (mkF m 439 (own_Lown_tail_0 sl0 sl1 sl2 sl3 sl4 sl5 sl6 aT sl8 sl9 aS rr (.val (.int 0)) (.val (.int 1))) [(.int 1)])) (fun _ kz => XS.iconst X0.here hx rfl (hb hby at_438) kz) ?_
      refine own_s (g' := (mkF m 443 (own_Lown_tail_0 sl0 sl1 sl2 sl3 sl4 sl5 sl6 aT sl8 sl9 aS rr (.val (.int 0)) (.val (.int 1))) [(.int 1)])) (fun _ kz => XS.goto X0.here hx rfl (pc0 := 439) (pc' := 443) rfl (hb hby at_439) (by decide) (by decide) kz) ?_
      refine own_s (g' := (mkF m 445 (own_Lown_tail_0 sl0 sl1 sl2 sl3 sl4 sl5 sl6 aT sl8 sl9 aS rr (.val (.int 0)) (.val (.int 1))) [])) (fun _ kz => XS.istore X0.here hx rfl (hb hby at_443) rfl (l' := (own_Lown_tail_0 sl0 sl1 sl2 sl3 sl4 sl5 sl6 aT sl8 sl9 aS rr (.val (.int 0)) (.val (.int 1)))) rfl kz) ?_
      refine own_s (g' := (mkF m 447 (own_Lown_tail_0 sl0 sl1 sl2 sl3 sl4 sl5 sl6 aT sl8 sl9 aS rr (.val (.int 0)) (.val (.int 1))) [(.int 1)])) (fun _ kz => XS.iload X0.here hx rfl (hb hby at_445) rfl kz) ?_
      refine own_s (g' := (mkF m 450 (own_Lown_tail_0 sl0 sl1 sl2 sl3 sl4 sl5 sl6 aT sl8 sl9 aS rr (.val (.int 0)) (.val (.int 1))) [])) (fun _ kz => XS.ifNo X0.here hx rfl (hb hby at_447) rfl ((if0 _ _).trans (feq ((by decide) : ¬ (1 : Int32) = (0 : Int32))).1) kz) ?_
      refine own_s (g' := (mkF m 452 (own_Lown_tail_0 sl0 sl1 sl2 sl3 sl4 sl5 sl6 aT sl8 sl9 aS rr (.val (.int 0)) (.val (.int 1))) [(.int 0)])) (fun _ kz => XS.iload X0.here hx rfl (hb hby at_450) rfl kz) ?_
      refine own_s (g' := (mkF m 453 (own_Lown_tail_0 sl0 sl1 sl2 sl3 sl4 sl5 sl6 aT sl8 sl9 aS rr (.val (.int 0)) (.val (.int 1))) [(.int 4), (.int 0)])) (fun _ kz => XS.iconst X0.here hx rfl (hb hby at_452) kz) ?_
      refine own_s (g' := (mkF m 470 (own_Lown_tail_0 sl0 sl1 sl2 sl3 sl4 sl5 sl6 aT sl8 sl9 aS rr (.val (.int 0)) (.val (.int 1))) [])) (fun _ kz => XS.icmpYes X0.here hx rfl (pc0 := 453) (pc' := 470) rfl (hb hby at_453) rfl (tlt ((by decide) : (0 : Int32) < (4 : Int32))).1 (by decide) (by decide) kz) ?_
      refine own_s (g' := (mkF m 471 (own_Lown_tail_0 sl0 sl1 sl2 sl3 sl4 sl5 sl6 aT sl8 sl9 aS rr (.val (.int 0)) (.val (.int 1))) [(.int 1)])) (fun _ kz => XS.iconst X0.here hx rfl (hb hby at_470) kz) ?_
      refine own_s (g' := (mkF m 475 (own_Lown_tail_0 sl0 sl1 sl2 sl3 sl4 sl5 sl6 aT sl8 sl9 aS rr (.val (.int 0)) (.val (.int 1))) [(.int 1)])) (fun _ kz => XS.goto X0.here hx rfl (pc0 := 471) (pc' := 475) rfl (hb hby at_471) (by decide) (by decide) kz) ?_
      refine own_s (g' := (mkF m 477 (own_Lown_tail_0 sl0 sl1 sl2 sl3 sl4 sl5 sl6 aT sl8 sl9 aS rr (.val (.int 0)) (.val (.int 1))) [])) (fun _ kz => XS.istore X0.here hx rfl (hb hby at_475) rfl (l' := (own_Lown_tail_0 sl0 sl1 sl2 sl3 sl4 sl5 sl6 aT sl8 sl9 aS rr (.val (.int 0)) (.val (.int 1)))) rfl kz) ?_
      refine own_s (g' := (mkF m 479 (own_Lown_tail_0 sl0 sl1 sl2 sl3 sl4 sl5 sl6 aT sl8 sl9 aS rr (.val (.int 0)) (.val (.int 1))) [(.int 1)])) (fun _ kz => XS.iload X0.here hx rfl (hb hby at_477) rfl kz) ?_
      refine own_s (g' := (mkF m 482 (own_Lown_tail_0 sl0 sl1 sl2 sl3 sl4 sl5 sl6 aT sl8 sl9 aS rr (.val (.int 0)) (.val (.int 1))) [])) (fun _ kz => XS.ifNo X0.here hx rfl (hb hby at_479) rfl ((if0 _ _).trans (feq ((by decide) : ¬ (1 : Int32) = (0 : Int32))).1) kz) ?_
      refine own_s (g' := (mkF m 484 (own_Lown_tail_0 sl0 sl1 sl2 sl3 sl4 sl5 sl6 aT sl8 sl9 aS rr (.val (.int 0)) (.val (.int 1))) [(.int 0)])) (fun _ kz => XS.iload X0.here hx rfl (hb hby at_482) rfl kz) ?_
      refine own_s (g' := (mkF m 485 (own_Lown_tail_0 sl0 sl1 sl2 sl3 sl4 sl5 sl6 aT sl8 sl9 aS rr (.val (.int 0)) (.val (.int 1))) [(.int 5), (.int 0)])) (fun _ kz => XS.iconst X0.here hx rfl (hb hby at_484) kz) ?_
      refine own_s (g' := (mkF m 502 (own_Lown_tail_0 sl0 sl1 sl2 sl3 sl4 sl5 sl6 aT sl8 sl9 aS rr (.val (.int 0)) (.val (.int 1))) [])) (fun _ kz => XS.icmpYes X0.here hx rfl (pc0 := 485) (pc' := 502) rfl (hb hby at_485) rfl (tlt ((by decide) : (0 : Int32) < (5 : Int32))).1 (by decide) (by decide) kz) ?_
      refine own_s (g' := (mkF m 503 (own_Lown_tail_0 sl0 sl1 sl2 sl3 sl4 sl5 sl6 aT sl8 sl9 aS rr (.val (.int 0)) (.val (.int 1))) [(.int 1)])) (fun _ kz => XS.iconst X0.here hx rfl (hb hby at_502) kz) ?_
      refine own_s (g' := (mkF m 507 (own_Lown_tail_0 sl0 sl1 sl2 sl3 sl4 sl5 sl6 aT sl8 sl9 aS rr (.val (.int 0)) (.val (.int 1))) [(.int 1)])) (fun _ kz => XS.goto X0.here hx rfl (pc0 := 503) (pc' := 507) rfl (hb hby at_503) (by decide) (by decide) kz) ?_
      refine own_s (g' := (mkF m 509 (own_Lown_tail_0 sl0 sl1 sl2 sl3 sl4 sl5 sl6 aT sl8 sl9 aS rr (.val (.int 0)) (.val (.int 1))) [])) (fun _ kz => XS.istore X0.here hx rfl (hb hby at_507) rfl (l' := (own_Lown_tail_0 sl0 sl1 sl2 sl3 sl4 sl5 sl6 aT sl8 sl9 aS rr (.val (.int 0)) (.val (.int 1)))) rfl kz) ?_
      refine own_s (g' := (mkF m 511 (own_Lown_tail_0 sl0 sl1 sl2 sl3 sl4 sl5 sl6 aT sl8 sl9 aS rr (.val (.int 0)) (.val (.int 1))) [(.int 1)])) (fun _ kz => XS.iload X0.here hx rfl (hb hby at_509) rfl kz) ?_
      refine own_retN X0 hx hlk (t := .boolean) hret (by simp) (hb hby at_511) (z' := (1 : Int32)) (by decide) (by decide) (by decide) ?_
      exact ⟨rfl, N0⟩
     ·skip
      refine own_s (g' := (mkF m 335 (own_Lown_tail_0 sl0 sl1 sl2 sl3 sl4 sl5 sl6 aT sl8 sl9 aS rr (.val (.int 1)) .unset) [])) (fun _ kz => XS.icmpYes X0.here hx rfl (pc0 := 329) (pc' := 335) rfl (hb hby at_329) rfl (flt c125).2.1 (by decide) (by decide) kz) ?_
      rw [if_neg c125, if_pos c123] at hr
      simp only [Bool.and_eq_true, decide_eq_true_eq] at hr
      obtain ⟨hrr, hm1, he1⟩ := hr
      refine own_s (g' := (mkF m 337 (own_Lown_tail_0 sl0 sl1 sl2 sl3 sl4 sl5 sl6 aT sl8 sl9 aS rr (.val (.int 1)) .unset) [(.int rr)])) (fun _ kz => XS.iload X0.here hx rfl (hb hby at_335) rfl kz) ?_
      refine own_s (g' := (mkF m 339 (own_Lown_tail_0 sl0 sl1 sl2 sl3 sl4 sl5 sl6 aT sl8 sl9 aS rr (.val (.int 1)) .unset) [(.int 1), (.int rr)])) (fun _ kz => XS.iload X0.here hx rfl (hb hby at_337) rfl kz) ?_
      refine own_s (g' := (mkF m 342 (own_Lown_tail_0 sl0 sl1 sl2 sl3 sl4 sl5 sl6 aT sl8 sl9 aS rr (.val (.int 1)) .unset) [])) (fun _ kz => XS.icmpNo X0.here hx rfl (hb hby at_339) rfl (teq hrr).2 kz) ?_
      refine own_s (g' := (mkF m 343 (own_Lown_tail_0 sl0 sl1 sl2 sl3 sl4 sl5 sl6 aT sl8 sl9 aS rr (.val (.int 1)) .unset) [(.int 1)])) (fun _ kz => XS.iconst X0.here hx rfl (hb hby at_342) kz) ?_
      refine own_s (g' := (mkF m 347 (own_Lown_tail_0 sl0 sl1 sl2 sl3 sl4 sl5 sl6 aT sl8 sl9 aS rr (.val (.int 1)) .unset) [(.int 1)])) (fun _ kz => XS.goto X0.here hx rfl (pc0 := 343) (pc' := 347) rfl (hb hby at_343) (by decide) (by decide) kz) ?_
      refine own_s (g' := (mkF m 349 (own_Lown_tail_0 sl0 sl1 sl2 sl3 sl4 sl5 sl6 aT sl8 sl9 aS rr (.val (.int 1)) (.val (.int 1))) [])) (fun _ kz => XS.istore X0.here hx rfl (hb hby at_347) rfl (l' := (own_Lown_tail_0 sl0 sl1 sl2 sl3 sl4 sl5 sl6 aT sl8 sl9 aS rr (.val (.int 1)) (.val (.int 1)))) rfl kz) ?_
      refine own_s (g' := (mkF m 351 (own_Lown_tail_0 sl0 sl1 sl2 sl3 sl4 sl5 sl6 aT sl8 sl9 aS rr (.val (.int 1)) (.val (.int 1))) [(.int 1)])) (fun _ kz => XS.iload X0.here hx rfl (hb hby at_349) rfl kz) ?_
      refine own_s (g' := (mkF m 354 (own_Lown_tail_0 sl0 sl1 sl2 sl3 sl4 sl5 sl6 aT sl8 sl9 aS rr (.val (.int 1)) (.val (.int 1))) [])) (fun _ kz => XS.ifNo X0.here hx rfl (hb hby at_351) rfl ((if0 _ _).trans (feq ((by decide) : ¬ (1 : Int32) = (0 : Int32))).1) kz) ?_
      refine own_s (g' := (mkF m 356 (own_Lown_tail_0 sl0 sl1 sl2 sl3 sl4 sl5 sl6 aT sl8 sl9 aS rr (.val (.int 1)) (.val (.int 1))) [(.int 1)])) (fun _ kz => XS.iload X0.here hx rfl (hb hby at_354) rfl kz) ?_
      refine own_s (g' := (mkF m 357 (own_Lown_tail_0 sl0 sl1 sl2 sl3 sl4 sl5 sl6 aT sl8 sl9 aS rr (.val (.int 1)) (.val (.int 1))) [(.int 1), (.int 1)])) (fun _ kz => XS.iconst X0.here hx rfl (hb hby at_356) kz) ?_
      refine own_s (g' := (mkF m 360 (own_Lown_tail_0 sl0 sl1 sl2 sl3 sl4 sl5 sl6 aT sl8 sl9 aS rr (.val (.int 1)) (.val (.int 1))) [])) (fun _ kz => XS.icmpNo X0.here hx rfl (hb hby at_357) rfl (flt ((by decide) : ¬ (1 : Int32) < (1 : Int32))).1 kz) ?_
      refine own_s (g' := (mkF m 362 (own_Lown_tail_0 sl0 sl1 sl2 sl3 sl4 sl5 sl6 aT sl8 sl9 aS rr (.val (.int 1)) (.val (.int 1))) [(.ref aS)])) (fun _ kz => XS.aload X0.here hx rfl (hb hby at_360) rfl rfl kz) ?_
      refine own_s (g' := (mkF m 363 (own_Lown_tail_0 sl0 sl1 sl2 sl3 sl4 sl5 sl6 aT sl8 sl9 aS rr (.val (.int 1)) (.val (.int 1))) [(.int 1), (.ref aS)])) (fun _ kz => XS.iconst X0.here hx rfl (hb hby at_362) kz) ?_
      obtain ⟨cl126, Ar126, -, S126, -, H126, -⟩ := id V_aS
      have in126 := inb_of S126 (j := (1 : Int32)) ⟨by decide, hm1⟩
      refine own_s (g' := (mkF m 364 (own_Lown_tail_0 sl0 sl1 sl2 sl3 sl4 sl5 sl6 aT sl8 sl9 aS rr (.val (.int 1)) (.val (.int 1))) [(.long (sx.getD 1 0))])) (X0.laload hx (j := (1 : Int32)) (v := (.long (sx.getD 1 0))) (by rw [e0]; exact Ar126.1) (State.isArrayOf_alike hZ.alike Ar126.2.1) Ar126.2.2 in126 (Has.at H126 in126 (own_mapDJ sx _)) (g := (mkF m 363 (own_Lown_tail_0 sl0 sl1 sl2 sl3 sl4 sl5 sl6 aT sl8 sl9 aS rr (.val (.int 1)) (.val (.int 1))) [(.int 1), (.ref aS)])) rfl rfl (hb hby at_363)) ?_
      refine own_s (g' := (mkF m 366 (own_Lown_tail_0 sl0 sl1 sl2 sl3 sl4 sl5 sl6 aT sl8 sl9 aS rr (.val (.int 1)) (.val (.int 1))) [(.ref aT), (.long (sx.getD 1 0))])) (fun _ kz => XS.aload X0.here hx rfl (hb hby at_364) rfl rfl kz) ?_
      refine own_s (g' := (mkF m 367 (own_Lown_tail_0 sl0 sl1 sl2 sl3 sl4 sl5 sl6 aT sl8 sl9 aS rr (.val (.int 1)) (.val (.int 1))) [(.int 1), (.ref aT), (.long (sx.getD 1 0))])) (fun _ kz => XS.iconst X0.here hx rfl (hb hby at_366) kz) ?_
      obtain ⟨_, _, ⟨T127, L127, k127, n127⟩, -, X127, ⟨Lc127, hQ127, l127, y127, z127⟩, st127⟩ := Jvm.LawKit.callS X0 hx (y := (⟨"gallai/service/GraphicalitySlacksPinLaw", "ref", "([II)J"⟩ : MethodName)) hown (mvT hZ ww18) (mvT hZ ww19) (mvT hZ ww4) (mvT hZ ww20) (by decide) (backOf (W := 2) (rm5 l Z a0 hw [] aT (1 : Int32) kt y0 y1 y2 y3 y4 h0 n0 Z0 V_aT) hZ ww20 ww4 (by decide) (by decide)) (g := (mkF m 367 (own_Lown_tail_0 sl0 sl1 sl2 sl3 sl4 sl5 sl6 aT sl8 sl9 aS rr (.val (.int 1)) (.val (.int 1))) [(.int 1), (.ref aT), (.long (sx.getD 1 0))])) rfl (by rw [hml]; rfl) (argsL := [(.ref aT), (.int 1)]) (rest := [(.long (sx.getD 1 0))]) (lenOf pd___II_J rfl) rfl (by show 2 * 0 + _ ≤ _; exact Nat.le_of_eq rfl) (hb hby at_367) (fun _ _ => ⟨rfl, e0, (by decide : 8 + 0 ≤ _), (by decide : 40 + 0 ≤ _)⟩)
      dsimp only [Pt.U, Pt.locs, Pt.cells, Pt.slots] at X127 l127 y127 z127 st127 hQ127
      subst l127 y127 z127
      obtain ⟨rfl, N127q, eh127⟩ := hQ127
      have N127 := Fr.app N0 N127q
      refine own_s (g' := (mkF m 370 (own_Lown_tail_0 sl0 sl1 sl2 sl3 sl4 sl5 sl6 aT sl8 sl9 aS rr (.val (.int 1)) (.val (.int 1))) [(.long (r5 (1 : Int32) y0 y1 y2 y3 y4)), (.long (sx.getD 1 0))])) st127 ?_
      refine own_s (g' := (mkF m 371 (own_Lown_tail_0 sl0 sl1 sl2 sl3 sl4 sl5 sl6 aT sl8 sl9 aS rr (.val (.int 1)) (.val (.int 1))) [(.int (lcmpW (sx.getD 1 0) (r5 (1 : Int32) y0 y1 y2 y3 y4)))])) (fun _ kz => XS.lcmp X127.here hx rfl (hb hby at_370) rfl kz) ?_
      refine own_s (g' := (mkF m 374 (own_Lown_tail_0 sl0 sl1 sl2 sl3 sl4 sl5 sl6 aT sl8 sl9 aS rr (.val (.int 1)) (.val (.int 1))) [])) (fun _ kz => XS.ifNo X127.here hx rfl (hb hby at_371) rfl ((if0 _ _).trans (teq ((lw_eq (sx.getD 1 0) (r5 (1 : Int32) y0 y1 y2 y3 y4)).mpr he1)).2) kz) ?_
      refine own_s (g' := (mkF m 375 (own_Lown_tail_0 sl0 sl1 sl2 sl3 sl4 sl5 sl6 aT sl8 sl9 aS rr (.val (.int 1)) (.val (.int 1))) [(.int 1)])) (fun _ kz => XS.iconst X127.here hx rfl (hb hby at_374) kz) ?_
      refine own_s (g' := (mkF m 379 (own_Lown_tail_0 sl0 sl1 sl2 sl3 sl4 sl5 sl6 aT sl8 sl9 aS rr (.val (.int 1)) (.val (.int 1))) [(.int 1)])) (fun _ kz => XS.goto X127.here hx rfl (pc0 := 375) (pc' := 379) rfl (hb hby at_375) (by decide) (by decide) kz) ?_
      refine own_s (g' := (mkF m 381 (own_Lown_tail_0 sl0 sl1 sl2 sl3 sl4 sl5 sl6 aT sl8 sl9 aS rr (.val (.int 1)) (.val (.int 1))) [])) (fun _ kz => XS.istore X127.here hx rfl (hb hby at_379) rfl (l' := (own_Lown_tail_0 sl0 sl1 sl2 sl3 sl4 sl5 sl6 aT sl8 sl9 aS rr (.val (.int 1)) (.val (.int 1)))) rfl kz) ?_
      refine own_s (g' := (mkF m 383 (own_Lown_tail_0 sl0 sl1 sl2 sl3 sl4 sl5 sl6 aT sl8 sl9 aS rr (.val (.int 1)) (.val (.int 1))) [(.int 1)])) (fun _ kz => XS.iload X127.here hx rfl (hb hby at_381) rfl kz) ?_
      refine own_s (g' := (mkF m 386 (own_Lown_tail_0 sl0 sl1 sl2 sl3 sl4 sl5 sl6 aT sl8 sl9 aS rr (.val (.int 1)) (.val (.int 1))) [])) (fun _ kz => XS.ifNo X127.here hx rfl (hb hby at_383) rfl ((if0 _ _).trans (feq ((by decide) : ¬ (1 : Int32) = (0 : Int32))).1) kz) ?_
      refine own_s (g' := (mkF m 388 (own_Lown_tail_0 sl0 sl1 sl2 sl3 sl4 sl5 sl6 aT sl8 sl9 aS rr (.val (.int 1)) (.val (.int 1))) [(.int 1)])) (fun _ kz => XS.iload X127.here hx rfl (hb hby at_386) rfl kz) ?_
      refine own_s (g' := (mkF m 389 (own_Lown_tail_0 sl0 sl1 sl2 sl3 sl4 sl5 sl6 aT sl8 sl9 aS rr (.val (.int 1)) (.val (.int 1))) [(.int 2), (.int 1)])) (fun _ kz => XS.iconst X127.here hx rfl (hb hby at_388) kz) ?_
      refine own_s (g' := (mkF m 406 (own_Lown_tail_0 sl0 sl1 sl2 sl3 sl4 sl5 sl6 aT sl8 sl9 aS rr (.val (.int 1)) (.val (.int 1))) [])) (fun _ kz => XS.icmpYes X127.here hx rfl (pc0 := 389) (pc' := 406) rfl (hb hby at_389) rfl (tlt ((by decide) : (1 : Int32) < (2 : Int32))).1 (by decide) (by decide) kz) ?_
      refine own_s (g' := (mkF m 407 (own_Lown_tail_0 sl0 sl1 sl2 sl3 sl4 sl5 sl6 aT sl8 sl9 aS rr (.val (.int 1)) (.val (.int 1))) [(.int 1)])) (fun _ kz => XS.iconst X127.here hx rfl (hb hby at_406) kz) ?_
      refine own_s (g' := (mkF m 411 (own_Lown_tail_0 sl0 sl1 sl2 sl3 sl4 sl5 sl6 aT sl8 sl9 aS rr (.val (.int 1)) (.val (.int 1))) [(.int 1)])) (fun _ kz => XS.goto X127.here hx rfl (pc0 := 407) (pc' := 411) rfl (hb hby at_407) (by decide) (by decide) kz) ?_
      refine own_s (g' := (mkF m 413 (own_Lown_tail_0 sl0 sl1 sl2 sl3 sl4 sl5 sl6 aT sl8 sl9 aS rr (.val (.int 1)) (.val (.int 1))) [])) (fun _ kz => XS.istore X127.here hx rfl (hb hby at_411) rfl (l' := (own_Lown_tail_0 sl0 sl1 sl2 sl3 sl4 sl5 sl6 aT sl8 sl9 aS rr (.val (.int 1)) (.val (.int 1)))) rfl kz) ?_
      refine own_s (g' := (mkF m 415 (own_Lown_tail_0 sl0 sl1 sl2 sl3 sl4 sl5 sl6 aT sl8 sl9 aS rr (.val (.int 1)) (.val (.int 1))) [(.int 1)])) (fun _ kz => XS.iload X127.here hx rfl (hb hby at_413) rfl kz) ?_
      refine own_s (g' := (mkF m 418 (own_Lown_tail_0 sl0 sl1 sl2 sl3 sl4 sl5 sl6 aT sl8 sl9 aS rr (.val (.int 1)) (.val (.int 1))) [])) (fun _ kz => XS.ifNo X127.here hx rfl (hb hby at_415) rfl ((if0 _ _).trans (feq ((by decide) : ¬ (1 : Int32) = (0 : Int32))).1) kz) ?_
      refine own_s (g' := (mkF m 420 (own_Lown_tail_0 sl0 sl1 sl2 sl3 sl4 sl5 sl6 aT sl8 sl9 aS rr (.val (.int 1)) (.val (.int 1))) [(.int 1)])) (fun _ kz => XS.iload X127.here hx rfl (hb hby at_418) rfl kz) ?_
      refine own_s (g' := (mkF m 421 (own_Lown_tail_0 sl0 sl1 sl2 sl3 sl4 sl5 sl6 aT sl8 sl9 aS rr (.val (.int 1)) (.val (.int 1))) [(.int 3), (.int 1)])) (fun _ kz => XS.iconst X127.here hx rfl (hb hby at_420) kz) ?_
      refine own_s (g' := (mkF m 438 (own_Lown_tail_0 sl0 sl1 sl2 sl3 sl4 sl5 sl6 aT sl8 sl9 aS rr (.val (.int 1)) (.val (.int 1))) [])) (fun _ kz => XS.icmpYes X127.here hx rfl (pc0 := 421) (pc' := 438) rfl (hb hby at_421) rfl (tlt ((by decide) : (1 : Int32) < (3 : Int32))).1 (by decide) (by decide) kz) ?_
      refine own_s (g' := (mkF m 439 (own_Lown_tail_0 sl0 sl1 sl2 sl3 sl4 sl5 sl6 aT sl8 sl9 aS rr (.val (.int 1)) (.val (.int 1))) [(.int 1)])) (fun _ kz => XS.iconst X127.here hx rfl (hb hby at_438) kz) ?_
      refine own_s (g' := (mkF m 443 (own_Lown_tail_0 sl0 sl1 sl2 sl3 sl4 sl5 sl6 aT sl8 sl9 aS rr (.val (.int 1)) (.val (.int 1))) [(.int 1)])) (fun _ kz => XS.goto X127.here hx rfl (pc0 := 439) (pc' := 443) rfl (hb hby at_439) (by decide) (by decide) kz) ?_
      refine own_s (g' := (mkF m 445 (own_Lown_tail_0 sl0 sl1 sl2 sl3 sl4 sl5 sl6 aT sl8 sl9 aS rr (.val (.int 1)) (.val (.int 1))) [])) (fun _ kz => XS.istore X127.here hx rfl (hb hby at_443) rfl (l' := (own_Lown_tail_0 sl0 sl1 sl2 sl3 sl4 sl5 sl6 aT sl8 sl9 aS rr (.val (.int 1)) (.val (.int 1)))) rfl kz) ?_
      refine own_s (g' := (mkF m 447 (own_Lown_tail_0 sl0 sl1 sl2 sl3 sl4 sl5 sl6 aT sl8 sl9 aS rr (.val (.int 1)) (.val (.int 1))) [(.int 1)])) (fun _ kz => XS.iload X127.here hx rfl (hb hby at_445) rfl kz) ?_
      refine own_s (g' := (mkF m 450 (own_Lown_tail_0 sl0 sl1 sl2 sl3 sl4 sl5 sl6 aT sl8 sl9 aS rr (.val (.int 1)) (.val (.int 1))) [])) (fun _ kz => XS.ifNo X127.here hx rfl (hb hby at_447) rfl ((if0 _ _).trans (feq ((by decide) : ¬ (1 : Int32) = (0 : Int32))).1) kz) ?_
      refine own_s (g' := (mkF m 452 (own_Lown_tail_0 sl0 sl1 sl2 sl3 sl4 sl5 sl6 aT sl8 sl9 aS rr (.val (.int 1)) (.val (.int 1))) [(.int 1)])) (fun _ kz => XS.iload X127.here hx rfl (hb hby at_450) rfl kz) ?_
      refine own_s (g' := (mkF m 453 (own_Lown_tail_0 sl0 sl1 sl2 sl3 sl4 sl5 sl6 aT sl8 sl9 aS rr (.val (.int 1)) (.val (.int 1))) [(.int 4), (.int 1)])) (fun _ kz => XS.iconst X127.here hx rfl (hb hby at_452) kz) ?_
      refine own_s (g' := (mkF m 470 (own_Lown_tail_0 sl0 sl1 sl2 sl3 sl4 sl5 sl6 aT sl8 sl9 aS rr (.val (.int 1)) (.val (.int 1))) [])) (fun _ kz => XS.icmpYes X127.here hx rfl (pc0 := 453) (pc' := 470) rfl (hb hby at_453) rfl (tlt ((by decide) : (1 : Int32) < (4 : Int32))).1 (by decide) (by decide) kz) ?_
      refine own_s (g' := (mkF m 471 (own_Lown_tail_0 sl0 sl1 sl2 sl3 sl4 sl5 sl6 aT sl8 sl9 aS rr (.val (.int 1)) (.val (.int 1))) [(.int 1)])) (fun _ kz => XS.iconst X127.here hx rfl (hb hby at_470) kz) ?_
      refine own_s (g' := (mkF m 475 (own_Lown_tail_0 sl0 sl1 sl2 sl3 sl4 sl5 sl6 aT sl8 sl9 aS rr (.val (.int 1)) (.val (.int 1))) [(.int 1)])) (fun _ kz => XS.goto X127.here hx rfl (pc0 := 471) (pc' := 475) rfl (hb hby at_471) (by decide) (by decide) kz) ?_
      refine own_s (g' := (mkF m 477 (own_Lown_tail_0 sl0 sl1 sl2 sl3 sl4 sl5 sl6 aT sl8 sl9 aS rr (.val (.int 1)) (.val (.int 1))) [])) (fun _ kz => XS.istore X127.here hx rfl (hb hby at_475) rfl (l' := (own_Lown_tail_0 sl0 sl1 sl2 sl3 sl4 sl5 sl6 aT sl8 sl9 aS rr (.val (.int 1)) (.val (.int 1)))) rfl kz) ?_
      refine own_s (g' := (mkF m 479 (own_Lown_tail_0 sl0 sl1 sl2 sl3 sl4 sl5 sl6 aT sl8 sl9 aS rr (.val (.int 1)) (.val (.int 1))) [(.int 1)])) (fun _ kz => XS.iload X127.here hx rfl (hb hby at_477) rfl kz) ?_
      refine own_s (g' := (mkF m 482 (own_Lown_tail_0 sl0 sl1 sl2 sl3 sl4 sl5 sl6 aT sl8 sl9 aS rr (.val (.int 1)) (.val (.int 1))) [])) (fun _ kz => XS.ifNo X127.here hx rfl (hb hby at_479) rfl ((if0 _ _).trans (feq ((by decide) : ¬ (1 : Int32) = (0 : Int32))).1) kz) ?_
      refine own_s (g' := (mkF m 484 (own_Lown_tail_0 sl0 sl1 sl2 sl3 sl4 sl5 sl6 aT sl8 sl9 aS rr (.val (.int 1)) (.val (.int 1))) [(.int 1)])) (fun _ kz => XS.iload X127.here hx rfl (hb hby at_482) rfl kz) ?_
      refine own_s (g' := (mkF m 485 (own_Lown_tail_0 sl0 sl1 sl2 sl3 sl4 sl5 sl6 aT sl8 sl9 aS rr (.val (.int 1)) (.val (.int 1))) [(.int 5), (.int 1)])) (fun _ kz => XS.iconst X127.here hx rfl (hb hby at_484) kz) ?_
      refine own_s (g' := (mkF m 502 (own_Lown_tail_0 sl0 sl1 sl2 sl3 sl4 sl5 sl6 aT sl8 sl9 aS rr (.val (.int 1)) (.val (.int 1))) [])) (fun _ kz => XS.icmpYes X127.here hx rfl (pc0 := 485) (pc' := 502) rfl (hb hby at_485) rfl (tlt ((by decide) : (1 : Int32) < (5 : Int32))).1 (by decide) (by decide) kz) ?_
      refine own_s (g' := (mkF m 503 (own_Lown_tail_0 sl0 sl1 sl2 sl3 sl4 sl5 sl6 aT sl8 sl9 aS rr (.val (.int 1)) (.val (.int 1))) [(.int 1)])) (fun _ kz => XS.iconst X127.here hx rfl (hb hby at_502) kz) ?_
      refine own_s (g' := (mkF m 507 (own_Lown_tail_0 sl0 sl1 sl2 sl3 sl4 sl5 sl6 aT sl8 sl9 aS rr (.val (.int 1)) (.val (.int 1))) [(.int 1)])) (fun _ kz => XS.goto X127.here hx rfl (pc0 := 503) (pc' := 507) rfl (hb hby at_503) (by decide) (by decide) kz) ?_
      refine own_s (g' := (mkF m 509 (own_Lown_tail_0 sl0 sl1 sl2 sl3 sl4 sl5 sl6 aT sl8 sl9 aS rr (.val (.int 1)) (.val (.int 1))) [])) (fun _ kz => XS.istore X127.here hx rfl (hb hby at_507) rfl (l' := (own_Lown_tail_0 sl0 sl1 sl2 sl3 sl4 sl5 sl6 aT sl8 sl9 aS rr (.val (.int 1)) (.val (.int 1)))) rfl kz) ?_
      refine own_s (g' := (mkF m 511 (own_Lown_tail_0 sl0 sl1 sl2 sl3 sl4 sl5 sl6 aT sl8 sl9 aS rr (.val (.int 1)) (.val (.int 1))) [(.int 1)])) (fun _ kz => XS.iload X127.here hx rfl (hb hby at_509) rfl kz) ?_
      refine own_retN X127 hx hlk (t := .boolean) hret (by simp) (hb hby at_511) (z' := (1 : Int32)) (by decide) (by decide) (by decide) ?_
      exact ⟨rfl, N127⟩
    ·skip
     refine own_s (g' := (mkF m 324 (own_Lown_tail_0 sl0 sl1 sl2 sl3 sl4 sl5 sl6 aT sl8 sl9 aS rr (.val (.int 2)) .unset) [])) (fun _ kz => XS.icmpYes X0.here hx rfl (pc0 := 318) (pc' := 324) rfl (hb hby at_318) rfl (flt c123).2.1 (by decide) (by decide) kz) ?_
     refine own_s (g' := (mkF m 326 (own_Lown_tail_0 sl0 sl1 sl2 sl3 sl4 sl5 sl6 aT sl8 sl9 aS rr (.val (.int 2)) .unset) [(.ref aT)])) (fun _ kz => XS.aload X0.here hx rfl (hb hby at_324) rfl rfl kz) ?_
     refine own_s (g' := (mkF m 327 (own_Lown_tail_0 sl0 sl1 sl2 sl3 sl4 sl5 sl6 aT sl8 sl9 aS rr (.val (.int 2)) .unset) [(.int 0), (.ref aT)])) (fun _ kz => XS.iconst X0.here hx rfl (hb hby at_326) kz) ?_
     obtain ⟨cl128, Ar128, -, S128, -, H128, -⟩ := id V_aT
     have in128 := inb_of S128 (j := (0 : Int32)) ⟨by decide, by decide⟩
     refine own_s (g' := (mkF m 328 (own_Lown_tail_0 sl0 sl1 sl2 sl3 sl4 sl5 sl6 aT sl8 sl9 aS rr (.val (.int 2)) .unset) [(.int y0)])) (X0.iaload hx (j := (0 : Int32)) (v := (.int y0)) (by rw [e0]; exact Ar128.1) (State.isArrayOf_alike hZ.alike Ar128.2.1) Ar128.2.2 in128 (Has.at H128 in128 rfl) (g := (mkF m 327 (own_Lown_tail_0 sl0 sl1 sl2 sl3 sl4 sl5 sl6 aT sl8 sl9 aS rr (.val (.int 2)) .unset) [(.int 0), (.ref aT)])) rfl rfl (hb hby at_327)) ?_
     refine own_s (g' := (mkF m 329 (own_Lown_tail_0 sl0 sl1 sl2 sl3 sl4 sl5 sl6 aT sl8 sl9 aS rr (.val (.int 2)) .unset) [(.int 1), (.int y0)])) (fun _ kz => XS.iconst X0.here hx rfl (hb hby at_328) kz) ?_
     refine own_s (g' := (mkF m 335 (own_Lown_tail_0 sl0 sl1 sl2 sl3 sl4 sl5 sl6 aT sl8 sl9 aS rr (.val (.int 2)) .unset) [])) (fun _ kz => XS.icmpYes X0.here hx rfl (pc0 := 329) (pc' := 335) rfl (hb hby at_329) rfl (flt ((h10 c123) : ¬ y0 < (1 : Int32))).2.1 (by decide) (by decide) kz) ?_
     rw [if_neg (h10 c123), if_neg c123, if_pos c121] at hr
     simp only [Bool.and_eq_true, decide_eq_true_eq] at hr
     obtain ⟨⟨hrr, hm1, he1⟩, hm2, he2⟩ := hr
     refine own_s (g' := (mkF m 337 (own_Lown_tail_0 sl0 sl1 sl2 sl3 sl4 sl5 sl6 aT sl8 sl9 aS rr (.val (.int 2)) .unset) [(.int rr)])) (fun _ kz => XS.iload X0.here hx rfl (hb hby at_335) rfl kz) ?_
     refine own_s (g' := (mkF m 339 (own_Lown_tail_0 sl0 sl1 sl2 sl3 sl4 sl5 sl6 aT sl8 sl9 aS rr (.val (.int 2)) .unset) [(.int 2), (.int rr)])) (fun _ kz => XS.iload X0.here hx rfl (hb hby at_337) rfl kz) ?_
     refine own_s (g' := (mkF m 342 (own_Lown_tail_0 sl0 sl1 sl2 sl3 sl4 sl5 sl6 aT sl8 sl9 aS rr (.val (.int 2)) .unset) [])) (fun _ kz => XS.icmpNo X0.here hx rfl (hb hby at_339) rfl (teq hrr).2 kz) ?_
     refine own_s (g' := (mkF m 343 (own_Lown_tail_0 sl0 sl1 sl2 sl3 sl4 sl5 sl6 aT sl8 sl9 aS rr (.val (.int 2)) .unset) [(.int 1)])) (fun _ kz => XS.iconst X0.here hx rfl (hb hby at_342) kz) ?_
     refine own_s (g' := (mkF m 347 (own_Lown_tail_0 sl0 sl1 sl2 sl3 sl4 sl5 sl6 aT sl8 sl9 aS rr (.val (.int 2)) .unset) [(.int 1)])) (fun _ kz => XS.goto X0.here hx rfl (pc0 := 343) (pc' := 347) rfl (hb hby at_343) (by decide) (by decide) kz) ?_
     refine own_s (g' := (mkF m 349 (own_Lown_tail_0 sl0 sl1 sl2 sl3 sl4 sl5 sl6 aT sl8 sl9 aS rr (.val (.int 2)) (.val (.int 1))) [])) (fun _ kz => XS.istore X0.here hx rfl (hb hby at_347) rfl (l' := (own_Lown_tail_0 sl0 sl1 sl2 sl3 sl4 sl5 sl6 aT sl8 sl9 aS rr (.val (.int 2)) (.val (.int 1)))) rfl kz) ?_
     refine own_s (g' := (mkF m 351 (own_Lown_tail_0 sl0 sl1 sl2 sl3 sl4 sl5 sl6 aT sl8 sl9 aS rr (.val (.int 2)) (.val (.int 1))) [(.int 1)])) (fun _ kz => XS.iload X0.here hx rfl (hb hby at_349) rfl kz) ?_
     refine own_s (g' := (mkF m 354 (own_Lown_tail_0 sl0 sl1 sl2 sl3 sl4 sl5 sl6 aT sl8 sl9 aS rr (.val (.int 2)) (.val (.int 1))) [])) (fun _ kz => XS.ifNo X0.here hx rfl (hb hby at_351) rfl ((if0 _ _).trans (feq ((by decide) : ¬ (1 : Int32) = (0 : Int32))).1) kz) ?_
     refine own_s (g' := (mkF m 356 (own_Lown_tail_0 sl0 sl1 sl2 sl3 sl4 sl5 sl6 aT sl8 sl9 aS rr (.val (.int 2)) (.val (.int 1))) [(.int 2)])) (fun _ kz => XS.iload X0.here hx rfl (hb hby at_354) rfl kz) ?_
     refine own_s (g' := (mkF m 357 (own_Lown_tail_0 sl0 sl1 sl2 sl3 sl4 sl5 sl6 aT sl8 sl9 aS rr (.val (.int 2)) (.val (.int 1))) [(.int 1), (.int 2)])) (fun _ kz => XS.iconst X0.here hx rfl (hb hby at_356) kz) ?_
     refine own_s (g' := (mkF m 360 (own_Lown_tail_0 sl0 sl1 sl2 sl3 sl4 sl5 sl6 aT sl8 sl9 aS rr (.val (.int 2)) (.val (.int 1))) [])) (fun _ kz => XS.icmpNo X0.here hx rfl (hb hby at_357) rfl (flt ((by decide) : ¬ (2 : Int32) < (1 : Int32))).1 kz) ?_
     refine own_s (g' := (mkF m 362 (own_Lown_tail_0 sl0 sl1 sl2 sl3 sl4 sl5 sl6 aT sl8 sl9 aS rr (.val (.int 2)) (.val (.int 1))) [(.ref aS)])) (fun _ kz => XS.aload X0.here hx rfl (hb hby at_360) rfl rfl kz) ?_
     refine own_s (g' := (mkF m 363 (own_Lown_tail_0 sl0 sl1 sl2 sl3 sl4 sl5 sl6 aT sl8 sl9 aS rr (.val (.int 2)) (.val (.int 1))) [(.int 1), (.ref aS)])) (fun _ kz => XS.iconst X0.here hx rfl (hb hby at_362) kz) ?_
     obtain ⟨cl129, Ar129, -, S129, -, H129, -⟩ := id V_aS
     have in129 := inb_of S129 (j := (1 : Int32)) ⟨by decide, hm1⟩
     refine own_s (g' := (mkF m 364 (own_Lown_tail_0 sl0 sl1 sl2 sl3 sl4 sl5 sl6 aT sl8 sl9 aS rr (.val (.int 2)) (.val (.int 1))) [(.long (sx.getD 1 0))])) (X0.laload hx (j := (1 : Int32)) (v := (.long (sx.getD 1 0))) (by rw [e0]; exact Ar129.1) (State.isArrayOf_alike hZ.alike Ar129.2.1) Ar129.2.2 in129 (Has.at H129 in129 (own_mapDJ sx _)) (g := (mkF m 363 (own_Lown_tail_0 sl0 sl1 sl2 sl3 sl4 sl5 sl6 aT sl8 sl9 aS rr (.val (.int 2)) (.val (.int 1))) [(.int 1), (.ref aS)])) rfl rfl (hb hby at_363)) ?_
     refine own_s (g' := (mkF m 366 (own_Lown_tail_0 sl0 sl1 sl2 sl3 sl4 sl5 sl6 aT sl8 sl9 aS rr (.val (.int 2)) (.val (.int 1))) [(.ref aT), (.long (sx.getD 1 0))])) (fun _ kz => XS.aload X0.here hx rfl (hb hby at_364) rfl rfl kz) ?_
     refine own_s (g' := (mkF m 367 (own_Lown_tail_0 sl0 sl1 sl2 sl3 sl4 sl5 sl6 aT sl8 sl9 aS rr (.val (.int 2)) (.val (.int 1))) [(.int 1), (.ref aT), (.long (sx.getD 1 0))])) (fun _ kz => XS.iconst X0.here hx rfl (hb hby at_366) kz) ?_
     obtain ⟨_, _, ⟨T130, L130, k130, n130⟩, -, X130, ⟨Lc130, hQ130, l130, y130, z130⟩, st130⟩ := Jvm.LawKit.callS X0 hx (y := (⟨"gallai/service/GraphicalitySlacksPinLaw", "ref", "([II)J"⟩ : MethodName)) hown (mvT hZ ww18) (mvT hZ ww19) (mvT hZ ww4) (mvT hZ ww20) (by decide) (backOf (W := 2) (rm5 l Z a0 hw [] aT (1 : Int32) kt y0 y1 y2 y3 y4 h0 n0 Z0 V_aT) hZ ww20 ww4 (by decide) (by decide)) (g := (mkF m 367 (own_Lown_tail_0 sl0 sl1 sl2 sl3 sl4 sl5 sl6 aT sl8 sl9 aS rr (.val (.int 2)) (.val (.int 1))) [(.int 1), (.ref aT), (.long (sx.getD 1 0))])) rfl (by rw [hml]; rfl) (argsL := [(.ref aT), (.int 1)]) (rest := [(.long (sx.getD 1 0))]) (lenOf pd___II_J rfl) rfl (by show 2 * 0 + _ ≤ _; exact Nat.le_of_eq rfl) (hb hby at_367) (fun _ _ => ⟨rfl, e0, (by decide : 8 + 0 ≤ _), (by decide : 40 + 0 ≤ _)⟩)
     dsimp only [Pt.U, Pt.locs, Pt.cells, Pt.slots] at X130 l130 y130 z130 st130 hQ130
     subst l130 y130 z130
     obtain ⟨rfl, N130q, eh130⟩ := hQ130
     have N130 := Fr.app N0 N130q
     refine own_s (g' := (mkF m 370 (own_Lown_tail_0 sl0 sl1 sl2 sl3 sl4 sl5 sl6 aT sl8 sl9 aS rr (.val (.int 2)) (.val (.int 1))) [(.long (r5 (1 : Int32) y0 y1 y2 y3 y4)), (.long (sx.getD 1 0))])) st130 ?_
     refine own_s (g' := (mkF m 371 (own_Lown_tail_0 sl0 sl1 sl2 sl3 sl4 sl5 sl6 aT sl8 sl9 aS rr (.val (.int 2)) (.val (.int 1))) [(.int (lcmpW (sx.getD 1 0) (r5 (1 : Int32) y0 y1 y2 y3 y4)))])) (fun _ kz => XS.lcmp X130.here hx rfl (hb hby at_370) rfl kz) ?_
     refine own_s (g' := (mkF m 374 (own_Lown_tail_0 sl0 sl1 sl2 sl3 sl4 sl5 sl6 aT sl8 sl9 aS rr (.val (.int 2)) (.val (.int 1))) [])) (fun _ kz => XS.ifNo X130.here hx rfl (hb hby at_371) rfl ((if0 _ _).trans (teq ((lw_eq (sx.getD 1 0) (r5 (1 : Int32) y0 y1 y2 y3 y4)).mpr he1)).2) kz) ?_
     refine own_s (g' := (mkF m 375 (own_Lown_tail_0 sl0 sl1 sl2 sl3 sl4 sl5 sl6 aT sl8 sl9 aS rr (.val (.int 2)) (.val (.int 1))) [(.int 1)])) (fun _ kz => XS.iconst X130.here hx rfl (hb hby at_374) kz) ?_
     refine own_s (g' := (mkF m 379 (own_Lown_tail_0 sl0 sl1 sl2 sl3 sl4 sl5 sl6 aT sl8 sl9 aS rr (.val (.int 2)) (.val (.int 1))) [(.int 1)])) (fun _ kz => XS.goto X130.here hx rfl (pc0 := 375) (pc' := 379) rfl (hb hby at_375) (by decide) (by decide) kz) ?_
     refine own_s (g' := (mkF m 381 (own_Lown_tail_0 sl0 sl1 sl2 sl3 sl4 sl5 sl6 aT sl8 sl9 aS rr (.val (.int 2)) (.val (.int 1))) [])) (fun _ kz => XS.istore X130.here hx rfl (hb hby at_379) rfl (l' := (own_Lown_tail_0 sl0 sl1 sl2 sl3 sl4 sl5 sl6 aT sl8 sl9 aS rr (.val (.int 2)) (.val (.int 1)))) rfl kz) ?_
     refine own_s (g' := (mkF m 383 (own_Lown_tail_0 sl0 sl1 sl2 sl3 sl4 sl5 sl6 aT sl8 sl9 aS rr (.val (.int 2)) (.val (.int 1))) [(.int 1)])) (fun _ kz => XS.iload X130.here hx rfl (hb hby at_381) rfl kz) ?_
     refine own_s (g' := (mkF m 386 (own_Lown_tail_0 sl0 sl1 sl2 sl3 sl4 sl5 sl6 aT sl8 sl9 aS rr (.val (.int 2)) (.val (.int 1))) [])) (fun _ kz => XS.ifNo X130.here hx rfl (hb hby at_383) rfl ((if0 _ _).trans (feq ((by decide) : ¬ (1 : Int32) = (0 : Int32))).1) kz) ?_
     refine own_s (g' := (mkF m 388 (own_Lown_tail_0 sl0 sl1 sl2 sl3 sl4 sl5 sl6 aT sl8 sl9 aS rr (.val (.int 2)) (.val (.int 1))) [(.int 2)])) (fun _ kz => XS.iload X130.here hx rfl (hb hby at_386) rfl kz) ?_
     refine own_s (g' := (mkF m 389 (own_Lown_tail_0 sl0 sl1 sl2 sl3 sl4 sl5 sl6 aT sl8 sl9 aS rr (.val (.int 2)) (.val (.int 1))) [(.int 2), (.int 2)])) (fun _ kz => XS.iconst X130.here hx rfl (hb hby at_388) kz) ?_
     refine own_s (g' := (mkF m 392 (own_Lown_tail_0 sl0 sl1 sl2 sl3 sl4 sl5 sl6 aT sl8 sl9 aS rr (.val (.int 2)) (.val (.int 1))) [])) (fun _ kz => XS.icmpNo X130.here hx rfl (hb hby at_389) rfl (flt ((by decide) : ¬ (2 : Int32) < (2 : Int32))).1 kz) ?_
     refine own_s (g' := (mkF m 394 (own_Lown_tail_0 sl0 sl1 sl2 sl3 sl4 sl5 sl6 aT sl8 sl9 aS rr (.val (.int 2)) (.val (.int 1))) [(.ref aS)])) (fun _ kz => XS.aload X130.here hx rfl (hb hby at_392) rfl rfl kz) ?_
     refine own_s (g' := (mkF m 395 (own_Lown_tail_0 sl0 sl1 sl2 sl3 sl4 sl5 sl6 aT sl8 sl9 aS rr (.val (.int 2)) (.val (.int 1))) [(.int 2), (.ref aS)])) (fun _ kz => XS.iconst X130.here hx rfl (hb hby at_394) kz) ?_
     obtain ⟨cl131, Ar131, -, S131, -, H131, -⟩ := id V_aS
     have in131 := inb_of S131 (j := (2 : Int32)) ⟨by decide, hm2⟩
     refine own_s (g' := (mkF m 396 (own_Lown_tail_0 sl0 sl1 sl2 sl3 sl4 sl5 sl6 aT sl8 sl9 aS rr (.val (.int 2)) (.val (.int 1))) [(.long (sx.getD 2 0))])) (X130.laload hx (j := (2 : Int32)) (v := (.long (sx.getD 2 0))) (by rw [eh130]; exact Ar131.1) (State.isArrayOf_alike hZ.alike Ar131.2.1) Ar131.2.2 in131 (Has.at H131 in131 (own_mapDJ sx _)) (g := (mkF m 395 (own_Lown_tail_0 sl0 sl1 sl2 sl3 sl4 sl5 sl6 aT sl8 sl9 aS rr (.val (.int 2)) (.val (.int 1))) [(.int 2), (.ref aS)])) rfl rfl (hb hby at_395)) ?_
     refine own_s (g' := (mkF m 398 (own_Lown_tail_0 sl0 sl1 sl2 sl3 sl4 sl5 sl6 aT sl8 sl9 aS rr (.val (.int 2)) (.val (.int 1))) [(.ref aT), (.long (sx.getD 2 0))])) (fun _ kz => XS.aload X130.here hx rfl (hb hby at_396) rfl rfl kz) ?_
     refine own_s (g' := (mkF m 399 (own_Lown_tail_0 sl0 sl1 sl2 sl3 sl4 sl5 sl6 aT sl8 sl9 aS rr (.val (.int 2)) (.val (.int 1))) [(.int 2), (.ref aT), (.long (sx.getD 2 0))])) (fun _ kz => XS.iconst X130.here hx rfl (hb hby at_398) kz) ?_
     obtain ⟨_, _, ⟨T132, L132, k132, n132⟩, -, X132, ⟨Lc132, hQ132, l132, y132, z132⟩, st132⟩ := Jvm.LawKit.callS X130 hx (y := (⟨"gallai/service/GraphicalitySlacksPinLaw", "ref", "([II)J"⟩ : MethodName)) hown (mvT hZ ww18) (mvT hZ ww19) (mvT hZ ww4) (mvT hZ ww20) (by decide) (backOf (W := 2) (rm5 l Z a0 hw [] aT (2 : Int32) kt y0 y1 y2 y3 y4 h0 n0 Z0 V_aT) hZ ww20 ww4 (by decide) (by decide)) (g := (mkF m 399 (own_Lown_tail_0 sl0 sl1 sl2 sl3 sl4 sl5 sl6 aT sl8 sl9 aS rr (.val (.int 2)) (.val (.int 1))) [(.int 2), (.ref aT), (.long (sx.getD 2 0))])) rfl (by rw [hml]; rfl) (argsL := [(.ref aT), (.int 2)]) (rest := [(.long (sx.getD 2 0))]) (lenOf pd___II_J rfl) rfl (by show 2 * 0 + _ ≤ _; exact Nat.le_of_eq rfl) (hb hby at_399) (fun _ _ => ⟨rfl, eh130, (by decide : 8 + 0 ≤ _), (by decide : 40 + 0 ≤ _)⟩)
     dsimp only [Pt.U, Pt.locs, Pt.cells, Pt.slots] at X132 l132 y132 z132 st132 hQ132
     subst l132 y132 z132
     obtain ⟨rfl, N132q, eh132⟩ := hQ132
     have N132 := Fr.app N130 N132q
     refine own_s (g' := (mkF m 402 (own_Lown_tail_0 sl0 sl1 sl2 sl3 sl4 sl5 sl6 aT sl8 sl9 aS rr (.val (.int 2)) (.val (.int 1))) [(.long (r5 (2 : Int32) y0 y1 y2 y3 y4)), (.long (sx.getD 2 0))])) st132 ?_
     refine own_s (g' := (mkF m 403 (own_Lown_tail_0 sl0 sl1 sl2 sl3 sl4 sl5 sl6 aT sl8 sl9 aS rr (.val (.int 2)) (.val (.int 1))) [(.int (lcmpW (sx.getD 2 0) (r5 (2 : Int32) y0 y1 y2 y3 y4)))])) (fun _ kz => XS.lcmp X132.here hx rfl (hb hby at_402) rfl kz) ?_
     refine own_s (g' := (mkF m 406 (own_Lown_tail_0 sl0 sl1 sl2 sl3 sl4 sl5 sl6 aT sl8 sl9 aS rr (.val (.int 2)) (.val (.int 1))) [])) (fun _ kz => XS.ifNo X132.here hx rfl (hb hby at_403) rfl ((if0 _ _).trans (teq ((lw_eq (sx.getD 2 0) (r5 (2 : Int32) y0 y1 y2 y3 y4)).mpr he2)).2) kz) ?_
     refine own_s (g' := (mkF m 407 (own_Lown_tail_0 sl0 sl1 sl2 sl3 sl4 sl5 sl6 aT sl8 sl9 aS rr (.val (.int 2)) (.val (.int 1))) [(.int 1)])) (fun _ kz => XS.iconst X132.here hx rfl (hb hby at_406) kz) ?_
     refine own_s (g' := (mkF m 411 (own_Lown_tail_0 sl0 sl1 sl2 sl3 sl4 sl5 sl6 aT sl8 sl9 aS rr (.val (.int 2)) (.val (.int 1))) [(.int 1)])) (fun _ kz => XS.goto X132.here hx rfl (pc0 := 407) (pc' := 411) rfl (hb hby at_407) (by decide) (by decide) kz) ?_
     refine own_s (g' := (mkF m 413 (own_Lown_tail_0 sl0 sl1 sl2 sl3 sl4 sl5 sl6 aT sl8 sl9 aS rr (.val (.int 2)) (.val (.int 1))) [])) (fun _ kz => XS.istore X132.here hx rfl (hb hby at_411) rfl (l' := (own_Lown_tail_0 sl0 sl1 sl2 sl3 sl4 sl5 sl6 aT sl8 sl9 aS rr (.val (.int 2)) (.val (.int 1)))) rfl kz) ?_
     refine own_s (g' := (mkF m 415 (own_Lown_tail_0 sl0 sl1 sl2 sl3 sl4 sl5 sl6 aT sl8 sl9 aS rr (.val (.int 2)) (.val (.int 1))) [(.int 1)])) (fun _ kz => XS.iload X132.here hx rfl (hb hby at_413) rfl kz) ?_
     refine own_s (g' := (mkF m 418 (own_Lown_tail_0 sl0 sl1 sl2 sl3 sl4 sl5 sl6 aT sl8 sl9 aS rr (.val (.int 2)) (.val (.int 1))) [])) (fun _ kz => XS.ifNo X132.here hx rfl (hb hby at_415) rfl ((if0 _ _).trans (feq ((by decide) : ¬ (1 : Int32) = (0 : Int32))).1) kz) ?_
     refine own_s (g' := (mkF m 420 (own_Lown_tail_0 sl0 sl1 sl2 sl3 sl4 sl5 sl6 aT sl8 sl9 aS rr (.val (.int 2)) (.val (.int 1))) [(.int 2)])) (fun _ kz => XS.iload X132.here hx rfl (hb hby at_418) rfl kz) ?_
     refine own_s (g' := (mkF m 421 (own_Lown_tail_0 sl0 sl1 sl2 sl3 sl4 sl5 sl6 aT sl8 sl9 aS rr (.val (.int 2)) (.val (.int 1))) [(.int 3), (.int 2)])) (fun _ kz => XS.iconst X132.here hx rfl (hb hby at_420) kz) ?_
     refine own_s (g' := (mkF m 438 (own_Lown_tail_0 sl0 sl1 sl2 sl3 sl4 sl5 sl6 aT sl8 sl9 aS rr (.val (.int 2)) (.val (.int 1))) [])) (fun _ kz => XS.icmpYes X132.here hx rfl (pc0 := 421) (pc' := 438) rfl (hb hby at_421) rfl (tlt ((by decide) : (2 : Int32) < (3 : Int32))).1 (by decide) (by decide) kz) ?_
     refine own_s (g' := (mkF m 439 (own_Lown_tail_0 sl0 sl1 sl2 sl3 sl4 sl5 sl6 aT sl8 sl9 aS rr (.val (.int 2)) (.val (.int 1))) [(.int 1)])) (fun _ kz => XS.iconst X132.here hx rfl (hb hby at_438) kz) ?_
     refine own_s (g' := (mkF m 443 (own_Lown_tail_0 sl0 sl1 sl2 sl3 sl4 sl5 sl6 aT sl8 sl9 aS rr (.val (.int 2)) (.val (.int 1))) [(.int 1)])) (fun _ kz => XS.goto X132.here hx rfl (pc0 := 439) (pc' := 443) rfl (hb hby at_439) (by decide) (by decide) kz) ?_
     refine own_s (g' := (mkF m 445 (own_Lown_tail_0 sl0 sl1 sl2 sl3 sl4 sl5 sl6 aT sl8 sl9 aS rr (.val (.int 2)) (.val (.int 1))) [])) (fun _ kz => XS.istore X132.here hx rfl (hb hby at_443) rfl (l' := (own_Lown_tail_0 sl0 sl1 sl2 sl3 sl4 sl5 sl6 aT sl8 sl9 aS rr (.val (.int 2)) (.val (.int 1)))) rfl kz) ?_
     refine own_s (g' := (mkF m 447 (own_Lown_tail_0 sl0 sl1 sl2 sl3 sl4 sl5 sl6 aT sl8 sl9 aS rr (.val (.int 2)) (.val (.int 1))) [(.int 1)])) (fun _ kz => XS.iload X132.here hx rfl (hb hby at_445) rfl kz) ?_
     refine own_s (g' := (mkF m 450 (own_Lown_tail_0 sl0 sl1 sl2 sl3 sl4 sl5 sl6 aT sl8 sl9 aS rr (.val (.int 2)) (.val (.int 1))) [])) (fun _ kz => XS.ifNo X132.here hx rfl (hb hby at_447) rfl ((if0 _ _).trans (feq ((by decide) : ¬ (1 : Int32) = (0 : Int32))).1) kz) ?_
     refine own_s (g' := (mkF m 452 (own_Lown_tail_0 sl0 sl1 sl2 sl3 sl4 sl5 sl6 aT sl8 sl9 aS rr (.val (.int 2)) (.val (.int 1))) [(.int 2)])) (fun _ kz => XS.iload X132.here hx rfl (hb hby at_450) rfl kz) ?_
     refine own_s (g' := (mkF m 453 (own_Lown_tail_0 sl0 sl1 sl2 sl3 sl4 sl5 sl6 aT sl8 sl9 aS rr (.val (.int 2)) (.val (.int 1))) [(.int 4), (.int 2)])) (fun _ kz => XS.iconst X132.here hx rfl (hb hby at_452) kz) ?_
     refine own_s (g' := (mkF m 470 (own_Lown_tail_0 sl0 sl1 sl2 sl3 sl4 sl5 sl6 aT sl8 sl9 aS rr (.val (.int 2)) (.val (.int 1))) [])) (fun _ kz => XS.icmpYes X132.here hx rfl (pc0 := 453) (pc' := 470) rfl (hb hby at_453) rfl (tlt ((by decide) : (2 : Int32) < (4 : Int32))).1 (by decide) (by decide) kz) ?_
     refine own_s (g' := (mkF m 471 (own_Lown_tail_0 sl0 sl1 sl2 sl3 sl4 sl5 sl6 aT sl8 sl9 aS rr (.val (.int 2)) (.val (.int 1))) [(.int 1)])) (fun _ kz => XS.iconst X132.here hx rfl (hb hby at_470) kz) ?_
     refine own_s (g' := (mkF m 475 (own_Lown_tail_0 sl0 sl1 sl2 sl3 sl4 sl5 sl6 aT sl8 sl9 aS rr (.val (.int 2)) (.val (.int 1))) [(.int 1)])) (fun _ kz => XS.goto X132.here hx rfl (pc0 := 471) (pc' := 475) rfl (hb hby at_471) (by decide) (by decide) kz) ?_
     refine own_s (g' := (mkF m 477 (own_Lown_tail_0 sl0 sl1 sl2 sl3 sl4 sl5 sl6 aT sl8 sl9 aS rr (.val (.int 2)) (.val (.int 1))) [])) (fun _ kz => XS.istore X132.here hx rfl (hb hby at_475) rfl (l' := (own_Lown_tail_0 sl0 sl1 sl2 sl3 sl4 sl5 sl6 aT sl8 sl9 aS rr (.val (.int 2)) (.val (.int 1)))) rfl kz) ?_
     refine own_s (g' := (mkF m 479 (own_Lown_tail_0 sl0 sl1 sl2 sl3 sl4 sl5 sl6 aT sl8 sl9 aS rr (.val (.int 2)) (.val (.int 1))) [(.int 1)])) (fun _ kz => XS.iload X132.here hx rfl (hb hby at_477) rfl kz) ?_
     refine own_s (g' := (mkF m 482 (own_Lown_tail_0 sl0 sl1 sl2 sl3 sl4 sl5 sl6 aT sl8 sl9 aS rr (.val (.int 2)) (.val (.int 1))) [])) (fun _ kz => XS.ifNo X132.here hx rfl (hb hby at_479) rfl ((if0 _ _).trans (feq ((by decide) : ¬ (1 : Int32) = (0 : Int32))).1) kz) ?_
     refine own_s (g' := (mkF m 484 (own_Lown_tail_0 sl0 sl1 sl2 sl3 sl4 sl5 sl6 aT sl8 sl9 aS rr (.val (.int 2)) (.val (.int 1))) [(.int 2)])) (fun _ kz => XS.iload X132.here hx rfl (hb hby at_482) rfl kz) ?_
     refine own_s (g' := (mkF m 485 (own_Lown_tail_0 sl0 sl1 sl2 sl3 sl4 sl5 sl6 aT sl8 sl9 aS rr (.val (.int 2)) (.val (.int 1))) [(.int 5), (.int 2)])) (fun _ kz => XS.iconst X132.here hx rfl (hb hby at_484) kz) ?_
     refine own_s (g' := (mkF m 502 (own_Lown_tail_0 sl0 sl1 sl2 sl3 sl4 sl5 sl6 aT sl8 sl9 aS rr (.val (.int 2)) (.val (.int 1))) [])) (fun _ kz => XS.icmpYes X132.here hx rfl (pc0 := 485) (pc' := 502) rfl (hb hby at_485) rfl (tlt ((by decide) : (2 : Int32) < (5 : Int32))).1 (by decide) (by decide) kz) ?_
     refine own_s (g' := (mkF m 503 (own_Lown_tail_0 sl0 sl1 sl2 sl3 sl4 sl5 sl6 aT sl8 sl9 aS rr (.val (.int 2)) (.val (.int 1))) [(.int 1)])) (fun _ kz => XS.iconst X132.here hx rfl (hb hby at_502) kz) ?_
     refine own_s (g' := (mkF m 507 (own_Lown_tail_0 sl0 sl1 sl2 sl3 sl4 sl5 sl6 aT sl8 sl9 aS rr (.val (.int 2)) (.val (.int 1))) [(.int 1)])) (fun _ kz => XS.goto X132.here hx rfl (pc0 := 503) (pc' := 507) rfl (hb hby at_503) (by decide) (by decide) kz) ?_
     refine own_s (g' := (mkF m 509 (own_Lown_tail_0 sl0 sl1 sl2 sl3 sl4 sl5 sl6 aT sl8 sl9 aS rr (.val (.int 2)) (.val (.int 1))) [])) (fun _ kz => XS.istore X132.here hx rfl (hb hby at_507) rfl (l' := (own_Lown_tail_0 sl0 sl1 sl2 sl3 sl4 sl5 sl6 aT sl8 sl9 aS rr (.val (.int 2)) (.val (.int 1)))) rfl kz) ?_
     refine own_s (g' := (mkF m 511 (own_Lown_tail_0 sl0 sl1 sl2 sl3 sl4 sl5 sl6 aT sl8 sl9 aS rr (.val (.int 2)) (.val (.int 1))) [(.int 1)])) (fun _ kz => XS.iload X132.here hx rfl (hb hby at_509) rfl kz) ?_
     refine own_retN X132 hx hlk (t := .boolean) hret (by simp) (hb hby at_511) (z' := (1 : Int32)) (by decide) (by decide) (by decide) ?_
     exact ⟨rfl, N132⟩
   ·skip
    refine own_s (g' := (mkF m 313 (own_Lown_tail_0 sl0 sl1 sl2 sl3 sl4 sl5 sl6 aT sl8 sl9 aS rr (.val (.int 3)) .unset) [])) (fun _ kz => XS.icmpYes X0.here hx rfl (pc0 := 307) (pc' := 313) rfl (hb hby at_307) rfl (flt c121).2.1 (by decide) (by decide) kz) ?_
    refine own_s (g' := (mkF m 315 (own_Lown_tail_0 sl0 sl1 sl2 sl3 sl4 sl5 sl6 aT sl8 sl9 aS rr (.val (.int 3)) .unset) [(.ref aT)])) (fun _ kz => XS.aload X0.here hx rfl (hb hby at_313) rfl rfl kz) ?_
    refine own_s (g' := (mkF m 316 (own_Lown_tail_0 sl0 sl1 sl2 sl3 sl4 sl5 sl6 aT sl8 sl9 aS rr (.val (.int 3)) .unset) [(.int 1), (.ref aT)])) (fun _ kz => XS.iconst X0.here hx rfl (hb hby at_315) kz) ?_
    obtain ⟨cl133, Ar133, -, S133, -, H133, -⟩ := id V_aT
    have in133 := inb_of S133 (j := (1 : Int32)) ⟨by decide, by decide⟩
    refine own_s (g' := (mkF m 317 (own_Lown_tail_0 sl0 sl1 sl2 sl3 sl4 sl5 sl6 aT sl8 sl9 aS rr (.val (.int 3)) .unset) [(.int y1)])) (X0.iaload hx (j := (1 : Int32)) (v := (.int y1)) (by rw [e0]; exact Ar133.1) (State.isArrayOf_alike hZ.alike Ar133.2.1) Ar133.2.2 in133 (Has.at H133 in133 rfl) (g := (mkF m 316 (own_Lown_tail_0 sl0 sl1 sl2 sl3 sl4 sl5 sl6 aT sl8 sl9 aS rr (.val (.int 3)) .unset) [(.int 1), (.ref aT)])) rfl rfl (hb hby at_316)) ?_
    refine own_s (g' := (mkF m 318 (own_Lown_tail_0 sl0 sl1 sl2 sl3 sl4 sl5 sl6 aT sl8 sl9 aS rr (.val (.int 3)) .unset) [(.int 2), (.int y1)])) (fun _ kz => XS.iconst X0.here hx rfl (hb hby at_317) kz) ?_
    refine own_s (g' := (mkF m 324 (own_Lown_tail_0 sl0 sl1 sl2 sl3 sl4 sl5 sl6 aT sl8 sl9 aS rr (.val (.int 3)) .unset) [])) (fun _ kz => XS.icmpYes X0.here hx rfl (pc0 := 318) (pc' := 324) rfl (hb hby at_318) rfl (flt ((h21 c121) : ¬ y1 < (2 : Int32))).2.1 (by decide) (by decide) kz) ?_
    refine own_s (g' := (mkF m 326 (own_Lown_tail_0 sl0 sl1 sl2 sl3 sl4 sl5 sl6 aT sl8 sl9 aS rr (.val (.int 3)) .unset) [(.ref aT)])) (fun _ kz => XS.aload X0.here hx rfl (hb hby at_324) rfl rfl kz) ?_
    refine own_s (g' := (mkF m 327 (own_Lown_tail_0 sl0 sl1 sl2 sl3 sl4 sl5 sl6 aT sl8 sl9 aS rr (.val (.int 3)) .unset) [(.int 0), (.ref aT)])) (fun _ kz => XS.iconst X0.here hx rfl (hb hby at_326) kz) ?_
    obtain ⟨cl134, Ar134, -, S134, -, H134, -⟩ := id V_aT
    have in134 := inb_of S134 (j := (0 : Int32)) ⟨by decide, by decide⟩
    refine own_s (g' := (mkF m 328 (own_Lown_tail_0 sl0 sl1 sl2 sl3 sl4 sl5 sl6 aT sl8 sl9 aS rr (.val (.int 3)) .unset) [(.int y0)])) (X0.iaload hx (j := (0 : Int32)) (v := (.int y0)) (by rw [e0]; exact Ar134.1) (State.isArrayOf_alike hZ.alike Ar134.2.1) Ar134.2.2 in134 (Has.at H134 in134 rfl) (g := (mkF m 327 (own_Lown_tail_0 sl0 sl1 sl2 sl3 sl4 sl5 sl6 aT sl8 sl9 aS rr (.val (.int 3)) .unset) [(.int 0), (.ref aT)])) rfl rfl (hb hby at_327)) ?_
    refine own_s (g' := (mkF m 329 (own_Lown_tail_0 sl0 sl1 sl2 sl3 sl4 sl5 sl6 aT sl8 sl9 aS rr (.val (.int 3)) .unset) [(.int 1), (.int y0)])) (fun _ kz => XS.iconst X0.here hx rfl (hb hby at_328) kz) ?_
    refine own_s (g' := (mkF m 335 (own_Lown_tail_0 sl0 sl1 sl2 sl3 sl4 sl5 sl6 aT sl8 sl9 aS rr (.val (.int 3)) .unset) [])) (fun _ kz => XS.icmpYes X0.here hx rfl (pc0 := 329) (pc' := 335) rfl (hb hby at_329) rfl (flt ((h10 (h21 c121)) : ¬ y0 < (1 : Int32))).2.1 (by decide) (by decide) kz) ?_
    rw [if_neg (h10 (h21 c121)), if_neg (h21 c121), if_neg c121, if_pos c119] at hr
    simp only [Bool.and_eq_true, decide_eq_true_eq] at hr
    obtain ⟨⟨⟨hrr, hm1, he1⟩, hm2, he2⟩, hm3, he3⟩ := hr
    refine own_s (g' := (mkF m 337 (own_Lown_tail_0 sl0 sl1 sl2 sl3 sl4 sl5 sl6 aT sl8 sl9 aS rr (.val (.int 3)) .unset) [(.int rr)])) (fun _ kz => XS.iload X0.here hx rfl (hb hby at_335) rfl kz) ?_
    refine own_s (g' := (mkF m 339 (own_Lown_tail_0 sl0 sl1 sl2 sl3 sl4 sl5 sl6 aT sl8 sl9 aS rr (.val (.int 3)) .unset) [(.int 3), (.int rr)])) (fun _ kz => XS.iload X0.here hx rfl (hb hby at_337) rfl kz) ?_
    refine own_s (g' := (mkF m 342 (own_Lown_tail_0 sl0 sl1 sl2 sl3 sl4 sl5 sl6 aT sl8 sl9 aS rr (.val (.int 3)) .unset) [])) (fun _ kz => XS.icmpNo X0.here hx rfl (hb hby at_339) rfl (teq hrr).2 kz) ?_
    refine own_s (g' := (mkF m 343 (own_Lown_tail_0 sl0 sl1 sl2 sl3 sl4 sl5 sl6 aT sl8 sl9 aS rr (.val (.int 3)) .unset) [(.int 1)])) (fun _ kz => XS.iconst X0.here hx rfl (hb hby at_342) kz) ?_
    refine own_s (g' := (mkF m 347 (own_Lown_tail_0 sl0 sl1 sl2 sl3 sl4 sl5 sl6 aT sl8 sl9 aS rr (.val (.int 3)) .unset) [(.int 1)])) (fun _ kz => XS.goto X0.here hx rfl (pc0 := 343) (pc' := 347) rfl (hb hby at_343) (by decide) (by decide) kz) ?_
    refine own_s (g' := (mkF m 349 (own_Lown_tail_0 sl0 sl1 sl2 sl3 sl4 sl5 sl6 aT sl8 sl9 aS rr (.val (.int 3)) (.val (.int 1))) [])) (fun _ kz => XS.istore X0.here hx rfl (hb hby at_347) rfl (l' := (own_Lown_tail_0 sl0 sl1 sl2 sl3 sl4 sl5 sl6 aT sl8 sl9 aS rr (.val (.int 3)) (.val (.int 1)))) rfl kz) ?_
    refine own_s (g' := (mkF m 351 (own_Lown_tail_0 sl0 sl1 sl2 sl3 sl4 sl5 sl6 aT sl8 sl9 aS rr (.val (.int 3)) (.val (.int 1))) [(.int 1)])) (fun _ kz => XS.iload X0.here hx rfl (hb hby at_349) rfl kz) ?_
    refine own_s (g' := (mkF m 354 (own_Lown_tail_0 sl0 sl1 sl2 sl3 sl4 sl5 sl6 aT sl8 sl9 aS rr (.val (.int 3)) (.val (.int 1))) [])) (fun _ kz => XS.ifNo X0.here hx rfl (hb hby at_351) rfl ((if0 _ _).trans (feq ((by decide) : ¬ (1 : Int32) = (0 : Int32))).1) kz) ?_
    refine own_s (g' := (mkF m 356 (own_Lown_tail_0 sl0 sl1 sl2 sl3 sl4 sl5 sl6 aT sl8 sl9 aS rr (.val (.int 3)) (.val (.int 1))) [(.int 3)])) (fun _ kz => XS.iload X0.here hx rfl (hb hby at_354) rfl kz) ?_
    refine own_s (g' := (mkF m 357 (own_Lown_tail_0 sl0 sl1 sl2 sl3 sl4 sl5 sl6 aT sl8 sl9 aS rr (.val (.int 3)) (.val (.int 1))) [(.int 1), (.int 3)])) (fun _ kz => XS.iconst X0.here hx rfl (hb hby at_356) kz) ?_
    refine own_s (g' := (mkF m 360 (own_Lown_tail_0 sl0 sl1 sl2 sl3 sl4 sl5 sl6 aT sl8 sl9 aS rr (.val (.int 3)) (.val (.int 1))) [])) (fun _ kz => XS.icmpNo X0.here hx rfl (hb hby at_357) rfl (flt ((by decide) : ¬ (3 : Int32) < (1 : Int32))).1 kz) ?_
    refine own_s (g' := (mkF m 362 (own_Lown_tail_0 sl0 sl1 sl2 sl3 sl4 sl5 sl6 aT sl8 sl9 aS rr (.val (.int 3)) (.val (.int 1))) [(.ref aS)])) (fun _ kz => XS.aload X0.here hx rfl (hb hby at_360) rfl rfl kz) ?_
    refine own_s (g' := (mkF m 363 (own_Lown_tail_0 sl0 sl1 sl2 sl3 sl4 sl5 sl6 aT sl8 sl9 aS rr (.val (.int 3)) (.val (.int 1))) [(.int 1), (.ref aS)])) (fun _ kz => XS.iconst X0.here hx rfl (hb hby at_362) kz) ?_
    obtain ⟨cl135, Ar135, -, S135, -, H135, -⟩ := id V_aS
    have in135 := inb_of S135 (j := (1 : Int32)) ⟨by decide, hm1⟩
    refine own_s (g' := (mkF m 364 (own_Lown_tail_0 sl0 sl1 sl2 sl3 sl4 sl5 sl6 aT sl8 sl9 aS rr (.val (.int 3)) (.val (.int 1))) [(.long (sx.getD 1 0))])) (X0.laload hx (j := (1 : Int32)) (v := (.long (sx.getD 1 0))) (by rw [e0]; exact Ar135.1) (State.isArrayOf_alike hZ.alike Ar135.2.1) Ar135.2.2 in135 (Has.at H135 in135 (own_mapDJ sx _)) (g := (mkF m 363 (own_Lown_tail_0 sl0 sl1 sl2 sl3 sl4 sl5 sl6 aT sl8 sl9 aS rr (.val (.int 3)) (.val (.int 1))) [(.int 1), (.ref aS)])) rfl rfl (hb hby at_363)) ?_
    refine own_s (g' := (mkF m 366 (own_Lown_tail_0 sl0 sl1 sl2 sl3 sl4 sl5 sl6 aT sl8 sl9 aS rr (.val (.int 3)) (.val (.int 1))) [(.ref aT), (.long (sx.getD 1 0))])) (fun _ kz => XS.aload X0.here hx rfl (hb hby at_364) rfl rfl kz) ?_
    refine own_s (g' := (mkF m 367 (own_Lown_tail_0 sl0 sl1 sl2 sl3 sl4 sl5 sl6 aT sl8 sl9 aS rr (.val (.int 3)) (.val (.int 1))) [(.int 1), (.ref aT), (.long (sx.getD 1 0))])) (fun _ kz => XS.iconst X0.here hx rfl (hb hby at_366) kz) ?_
    obtain ⟨_, _, ⟨T136, L136, k136, n136⟩, -, X136, ⟨Lc136, hQ136, l136, y136, z136⟩, st136⟩ := Jvm.LawKit.callS X0 hx (y := (⟨"gallai/service/GraphicalitySlacksPinLaw", "ref", "([II)J"⟩ : MethodName)) hown (mvT hZ ww18) (mvT hZ ww19) (mvT hZ ww4) (mvT hZ ww20) (by decide) (backOf (W := 2) (rm5 l Z a0 hw [] aT (1 : Int32) kt y0 y1 y2 y3 y4 h0 n0 Z0 V_aT) hZ ww20 ww4 (by decide) (by decide)) (g := (mkF m 367 (own_Lown_tail_0 sl0 sl1 sl2 sl3 sl4 sl5 sl6 aT sl8 sl9 aS rr (.val (.int 3)) (.val (.int 1))) [(.int 1), (.ref aT), (.long (sx.getD 1 0))])) rfl (by rw [hml]; rfl) (argsL := [(.ref aT), (.int 1)]) (rest := [(.long (sx.getD 1 0))]) (lenOf pd___II_J rfl) rfl (by show 2 * 0 + _ ≤ _; exact Nat.le_of_eq rfl) (hb hby at_367) (fun _ _ => ⟨rfl, e0, (by decide : 8 + 0 ≤ _), (by decide : 40 + 0 ≤ _)⟩)
    dsimp only [Pt.U, Pt.locs, Pt.cells, Pt.slots] at X136 l136 y136 z136 st136 hQ136
    subst l136 y136 z136
    obtain ⟨rfl, N136q, eh136⟩ := hQ136
    have N136 := Fr.app N0 N136q
    refine own_s (g' := (mkF m 370 (own_Lown_tail_0 sl0 sl1 sl2 sl3 sl4 sl5 sl6 aT sl8 sl9 aS rr (.val (.int 3)) (.val (.int 1))) [(.long (r5 (1 : Int32) y0 y1 y2 y3 y4)), (.long (sx.getD 1 0))])) st136 ?_
    refine own_s (g' := (mkF m 371 (own_Lown_tail_0 sl0 sl1 sl2 sl3 sl4 sl5 sl6 aT sl8 sl9 aS rr (.val (.int 3)) (.val (.int 1))) [(.int (lcmpW (sx.getD 1 0) (r5 (1 : Int32) y0 y1 y2 y3 y4)))])) (fun _ kz => XS.lcmp X136.here hx rfl (hb hby at_370) rfl kz) ?_
    refine own_s (g' := (mkF m 374 (own_Lown_tail_0 sl0 sl1 sl2 sl3 sl4 sl5 sl6 aT sl8 sl9 aS rr (.val (.int 3)) (.val (.int 1))) [])) (fun _ kz => XS.ifNo X136.here hx rfl (hb hby at_371) rfl ((if0 _ _).trans (teq ((lw_eq (sx.getD 1 0) (r5 (1 : Int32) y0 y1 y2 y3 y4)).mpr he1)).2) kz) ?_
    refine own_s (g' := (mkF m 375 (own_Lown_tail_0 sl0 sl1 sl2 sl3 sl4 sl5 sl6 aT sl8 sl9 aS rr (.val (.int 3)) (.val (.int 1))) [(.int 1)])) (fun _ kz => XS.iconst X136.here hx rfl (hb hby at_374) kz) ?_
    refine own_s (g' := (mkF m 379 (own_Lown_tail_0 sl0 sl1 sl2 sl3 sl4 sl5 sl6 aT sl8 sl9 aS rr (.val (.int 3)) (.val (.int 1))) [(.int 1)])) (fun _ kz => XS.goto X136.here hx rfl (pc0 := 375) (pc' := 379) rfl (hb hby at_375) (by decide) (by decide) kz) ?_
    refine own_s (g' := (mkF m 381 (own_Lown_tail_0 sl0 sl1 sl2 sl3 sl4 sl5 sl6 aT sl8 sl9 aS rr (.val (.int 3)) (.val (.int 1))) [])) (fun _ kz => XS.istore X136.here hx rfl (hb hby at_379) rfl (l' := (own_Lown_tail_0 sl0 sl1 sl2 sl3 sl4 sl5 sl6 aT sl8 sl9 aS rr (.val (.int 3)) (.val (.int 1)))) rfl kz) ?_
    refine own_s (g' := (mkF m 383 (own_Lown_tail_0 sl0 sl1 sl2 sl3 sl4 sl5 sl6 aT sl8 sl9 aS rr (.val (.int 3)) (.val (.int 1))) [(.int 1)])) (fun _ kz => XS.iload X136.here hx rfl (hb hby at_381) rfl kz) ?_
    refine own_s (g' := (mkF m 386 (own_Lown_tail_0 sl0 sl1 sl2 sl3 sl4 sl5 sl6 aT sl8 sl9 aS rr (.val (.int 3)) (.val (.int 1))) [])) (fun _ kz => XS.ifNo X136.here hx rfl (hb hby at_383) rfl ((if0 _ _).trans (feq ((by decide) : ¬ (1 : Int32) = (0 : Int32))).1) kz) ?_
    refine own_s (g' := (mkF m 388 (own_Lown_tail_0 sl0 sl1 sl2 sl3 sl4 sl5 sl6 aT sl8 sl9 aS rr (.val (.int 3)) (.val (.int 1))) [(.int 3)])) (fun _ kz => XS.iload X136.here hx rfl (hb hby at_386) rfl kz) ?_
    refine own_s (g' := (mkF m 389 (own_Lown_tail_0 sl0 sl1 sl2 sl3 sl4 sl5 sl6 aT sl8 sl9 aS rr (.val (.int 3)) (.val (.int 1))) [(.int 2), (.int 3)])) (fun _ kz => XS.iconst X136.here hx rfl (hb hby at_388) kz) ?_
    refine own_s (g' := (mkF m 392 (own_Lown_tail_0 sl0 sl1 sl2 sl3 sl4 sl5 sl6 aT sl8 sl9 aS rr (.val (.int 3)) (.val (.int 1))) [])) (fun _ kz => XS.icmpNo X136.here hx rfl (hb hby at_389) rfl (flt ((by decide) : ¬ (3 : Int32) < (2 : Int32))).1 kz) ?_
    refine own_s (g' := (mkF m 394 (own_Lown_tail_0 sl0 sl1 sl2 sl3 sl4 sl5 sl6 aT sl8 sl9 aS rr (.val (.int 3)) (.val (.int 1))) [(.ref aS)])) (fun _ kz => XS.aload X136.here hx rfl (hb hby at_392) rfl rfl kz) ?_
    refine own_s (g' := (mkF m 395 (own_Lown_tail_0 sl0 sl1 sl2 sl3 sl4 sl5 sl6 aT sl8 sl9 aS rr (.val (.int 3)) (.val (.int 1))) [(.int 2), (.ref aS)])) (fun _ kz => XS.iconst X136.here hx rfl (hb hby at_394) kz) ?_
    obtain ⟨cl137, Ar137, -, S137, -, H137, -⟩ := id V_aS
    have in137 := inb_of S137 (j := (2 : Int32)) ⟨by decide, hm2⟩
    refine own_s (g' := (mkF m 396 (own_Lown_tail_0 sl0 sl1 sl2 sl3 sl4 sl5 sl6 aT sl8 sl9 aS rr (.val (.int 3)) (.val (.int 1))) [(.long (sx.getD 2 0))])) (X136.laload hx (j := (2 : Int32)) (v := (.long (sx.getD 2 0))) (by rw [eh136]; exact Ar137.1) (State.isArrayOf_alike hZ.alike Ar137.2.1) Ar137.2.2 in137 (Has.at H137 in137 (own_mapDJ sx _)) (g := (mkF m 395 (own_Lown_tail_0 sl0 sl1 sl2 sl3 sl4 sl5 sl6 aT sl8 sl9 aS rr (.val (.int 3)) (.val (.int 1))) [(.int 2), (.ref aS)])) rfl rfl (hb hby at_395)) ?_
    refine own_s (g' := (mkF m 398 (own_Lown_tail_0 sl0 sl1 sl2 sl3 sl4 sl5 sl6 aT sl8 sl9 aS rr (.val (.int 3)) (.val (.int 1))) [(.ref aT), (.long (sx.getD 2 0))])) (fun _ kz => XS.aload X136.here hx rfl (hb hby at_396) rfl rfl kz) ?_
    refine own_s (g' := (mkF m 399 (own_Lown_tail_0 sl0 sl1 sl2 sl3 sl4 sl5 sl6 aT sl8 sl9 aS rr (.val (.int 3)) (.val (.int 1))) [(.int 2), (.ref aT), (.long (sx.getD 2 0))])) (fun _ kz => XS.iconst X136.here hx rfl (hb hby at_398) kz) ?_
    obtain ⟨_, _, ⟨T138, L138, k138, n138⟩, -, X138, ⟨Lc138, hQ138, l138, y138, z138⟩, st138⟩ := Jvm.LawKit.callS X136 hx (y := (⟨"gallai/service/GraphicalitySlacksPinLaw", "ref", "([II)J"⟩ : MethodName)) hown (mvT hZ ww18) (mvT hZ ww19) (mvT hZ ww4) (mvT hZ ww20) (by decide) (backOf (W := 2) (rm5 l Z a0 hw [] aT (2 : Int32) kt y0 y1 y2 y3 y4 h0 n0 Z0 V_aT) hZ ww20 ww4 (by decide) (by decide)) (g := (mkF m 399 (own_Lown_tail_0 sl0 sl1 sl2 sl3 sl4 sl5 sl6 aT sl8 sl9 aS rr (.val (.int 3)) (.val (.int 1))) [(.int 2), (.ref aT), (.long (sx.getD 2 0))])) rfl (by rw [hml]; rfl) (argsL := [(.ref aT), (.int 2)]) (rest := [(.long (sx.getD 2 0))]) (lenOf pd___II_J rfl) rfl (by show 2 * 0 + _ ≤ _; exact Nat.le_of_eq rfl) (hb hby at_399) (fun _ _ => ⟨rfl, eh136, (by decide : 8 + 0 ≤ _), (by decide : 40 + 0 ≤ _)⟩)
    dsimp only [Pt.U, Pt.locs, Pt.cells, Pt.slots] at X138 l138 y138 z138 st138 hQ138
    subst l138 y138 z138
    obtain ⟨rfl, N138q, eh138⟩ := hQ138
    have N138 := Fr.app N136 N138q
    refine own_s (g' := (mkF m 402 (own_Lown_tail_0 sl0 sl1 sl2 sl3 sl4 sl5 sl6 aT sl8 sl9 aS rr (.val (.int 3)) (.val (.int 1))) [(.long (r5 (2 : Int32) y0 y1 y2 y3 y4)), (.long (sx.getD 2 0))])) st138 ?_
    refine own_s (g' := (mkF m 403 (own_Lown_tail_0 sl0 sl1 sl2 sl3 sl4 sl5 sl6 aT sl8 sl9 aS rr (.val (.int 3)) (.val (.int 1))) [(.int (lcmpW (sx.getD 2 0) (r5 (2 : Int32) y0 y1 y2 y3 y4)))])) (fun _ kz => XS.lcmp X138.here hx rfl (hb hby at_402) rfl kz) ?_
    refine own_s (g' := (mkF m 406 (own_Lown_tail_0 sl0 sl1 sl2 sl3 sl4 sl5 sl6 aT sl8 sl9 aS rr (.val (.int 3)) (.val (.int 1))) [])) (fun _ kz => XS.ifNo X138.here hx rfl (hb hby at_403) rfl ((if0 _ _).trans (teq ((lw_eq (sx.getD 2 0) (r5 (2 : Int32) y0 y1 y2 y3 y4)).mpr he2)).2) kz) ?_
    refine own_s (g' := (mkF m 407 (own_Lown_tail_0 sl0 sl1 sl2 sl3 sl4 sl5 sl6 aT sl8 sl9 aS rr (.val (.int 3)) (.val (.int 1))) [(.int 1)])) (fun _ kz => XS.iconst X138.here hx rfl (hb hby at_406) kz) ?_
    refine own_s (g' := (mkF m 411 (own_Lown_tail_0 sl0 sl1 sl2 sl3 sl4 sl5 sl6 aT sl8 sl9 aS rr (.val (.int 3)) (.val (.int 1))) [(.int 1)])) (fun _ kz => XS.goto X138.here hx rfl (pc0 := 407) (pc' := 411) rfl (hb hby at_407) (by decide) (by decide) kz) ?_
    refine own_s (g' := (mkF m 413 (own_Lown_tail_0 sl0 sl1 sl2 sl3 sl4 sl5 sl6 aT sl8 sl9 aS rr (.val (.int 3)) (.val (.int 1))) [])) (fun _ kz => XS.istore X138.here hx rfl (hb hby at_411) rfl (l' := (own_Lown_tail_0 sl0 sl1 sl2 sl3 sl4 sl5 sl6 aT sl8 sl9 aS rr (.val (.int 3)) (.val (.int 1)))) rfl kz) ?_
    refine own_s (g' := (mkF m 415 (own_Lown_tail_0 sl0 sl1 sl2 sl3 sl4 sl5 sl6 aT sl8 sl9 aS rr (.val (.int 3)) (.val (.int 1))) [(.int 1)])) (fun _ kz => XS.iload X138.here hx rfl (hb hby at_413) rfl kz) ?_
    refine own_s (g' := (mkF m 418 (own_Lown_tail_0 sl0 sl1 sl2 sl3 sl4 sl5 sl6 aT sl8 sl9 aS rr (.val (.int 3)) (.val (.int 1))) [])) (fun _ kz => XS.ifNo X138.here hx rfl (hb hby at_415) rfl ((if0 _ _).trans (feq ((by decide) : ¬ (1 : Int32) = (0 : Int32))).1) kz) ?_
    refine own_s (g' := (mkF m 420 (own_Lown_tail_0 sl0 sl1 sl2 sl3 sl4 sl5 sl6 aT sl8 sl9 aS rr (.val (.int 3)) (.val (.int 1))) [(.int 3)])) (fun _ kz => XS.iload X138.here hx rfl (hb hby at_418) rfl kz) ?_
    refine own_s (g' := (mkF m 421 (own_Lown_tail_0 sl0 sl1 sl2 sl3 sl4 sl5 sl6 aT sl8 sl9 aS rr (.val (.int 3)) (.val (.int 1))) [(.int 3), (.int 3)])) (fun _ kz => XS.iconst X138.here hx rfl (hb hby at_420) kz) ?_
    refine own_s (g' := (mkF m 424 (own_Lown_tail_0 sl0 sl1 sl2 sl3 sl4 sl5 sl6 aT sl8 sl9 aS rr (.val (.int 3)) (.val (.int 1))) [])) (fun _ kz => XS.icmpNo X138.here hx rfl (hb hby at_421) rfl (flt ((by decide) : ¬ (3 : Int32) < (3 : Int32))).1 kz) ?_
    refine own_s (g' := (mkF m 426 (own_Lown_tail_0 sl0 sl1 sl2 sl3 sl4 sl5 sl6 aT sl8 sl9 aS rr (.val (.int 3)) (.val (.int 1))) [(.ref aS)])) (fun _ kz => XS.aload X138.here hx rfl (hb hby at_424) rfl rfl kz) ?_
    refine own_s (g' := (mkF m 427 (own_Lown_tail_0 sl0 sl1 sl2 sl3 sl4 sl5 sl6 aT sl8 sl9 aS rr (.val (.int 3)) (.val (.int 1))) [(.int 3), (.ref aS)])) (fun _ kz => XS.iconst X138.here hx rfl (hb hby at_426) kz) ?_
    obtain ⟨cl139, Ar139, -, S139, -, H139, -⟩ := id V_aS
    have in139 := inb_of S139 (j := (3 : Int32)) ⟨by decide, hm3⟩
    refine own_s (g' := (mkF m 428 (own_Lown_tail_0 sl0 sl1 sl2 sl3 sl4 sl5 sl6 aT sl8 sl9 aS rr (.val (.int 3)) (.val (.int 1))) [(.long (sx.getD 3 0))])) (X138.laload hx (j := (3 : Int32)) (v := (.long (sx.getD 3 0))) (by rw [eh138]; exact Ar139.1) (State.isArrayOf_alike hZ.alike Ar139.2.1) Ar139.2.2 in139 (Has.at H139 in139 (own_mapDJ sx _)) (g := (mkF m 427 (own_Lown_tail_0 sl0 sl1 sl2 sl3 sl4 sl5 sl6 aT sl8 sl9 aS rr (.val (.int 3)) (.val (.int 1))) [(.int 3), (.ref aS)])) rfl rfl (hb hby at_427)) ?_
    refine own_s (g' := (mkF m 430 (own_Lown_tail_0 sl0 sl1 sl2 sl3 sl4 sl5 sl6 aT sl8 sl9 aS rr (.val (.int 3)) (.val (.int 1))) [(.ref aT), (.long (sx.getD 3 0))])) (fun _ kz => XS.aload X138.here hx rfl (hb hby at_428) rfl rfl kz) ?_
    refine own_s (g' := (mkF m 431 (own_Lown_tail_0 sl0 sl1 sl2 sl3 sl4 sl5 sl6 aT sl8 sl9 aS rr (.val (.int 3)) (.val (.int 1))) [(.int 3), (.ref aT), (.long (sx.getD 3 0))])) (fun _ kz => XS.iconst X138.here hx rfl (hb hby at_430) kz) ?_
    obtain ⟨_, _, ⟨T140, L140, k140, n140⟩, -, X140, ⟨Lc140, hQ140, l140, y140, z140⟩, st140⟩ := Jvm.LawKit.callS X138 hx (y := (⟨"gallai/service/GraphicalitySlacksPinLaw", "ref", "([II)J"⟩ : MethodName)) hown (mvT hZ ww18) (mvT hZ ww19) (mvT hZ ww4) (mvT hZ ww20) (by decide) (backOf (W := 2) (rm5 l Z a0 hw [] aT (3 : Int32) kt y0 y1 y2 y3 y4 h0 n0 Z0 V_aT) hZ ww20 ww4 (by decide) (by decide)) (g := (mkF m 431 (own_Lown_tail_0 sl0 sl1 sl2 sl3 sl4 sl5 sl6 aT sl8 sl9 aS rr (.val (.int 3)) (.val (.int 1))) [(.int 3), (.ref aT), (.long (sx.getD 3 0))])) rfl (by rw [hml]; rfl) (argsL := [(.ref aT), (.int 3)]) (rest := [(.long (sx.getD 3 0))]) (lenOf pd___II_J rfl) rfl (by show 2 * 0 + _ ≤ _; exact Nat.le_of_eq rfl) (hb hby at_431) (fun _ _ => ⟨rfl, eh138, (by decide : 8 + 0 ≤ _), (by decide : 40 + 0 ≤ _)⟩)
    dsimp only [Pt.U, Pt.locs, Pt.cells, Pt.slots] at X140 l140 y140 z140 st140 hQ140
    subst l140 y140 z140
    obtain ⟨rfl, N140q, eh140⟩ := hQ140
    have N140 := Fr.app N138 N140q
    refine own_s (g' := (mkF m 434 (own_Lown_tail_0 sl0 sl1 sl2 sl3 sl4 sl5 sl6 aT sl8 sl9 aS rr (.val (.int 3)) (.val (.int 1))) [(.long (r5 (3 : Int32) y0 y1 y2 y3 y4)), (.long (sx.getD 3 0))])) st140 ?_
    refine own_s (g' := (mkF m 435 (own_Lown_tail_0 sl0 sl1 sl2 sl3 sl4 sl5 sl6 aT sl8 sl9 aS rr (.val (.int 3)) (.val (.int 1))) [(.int (lcmpW (sx.getD 3 0) (r5 (3 : Int32) y0 y1 y2 y3 y4)))])) (fun _ kz => XS.lcmp X140.here hx rfl (hb hby at_434) rfl kz) ?_
    refine own_s (g' := (mkF m 438 (own_Lown_tail_0 sl0 sl1 sl2 sl3 sl4 sl5 sl6 aT sl8 sl9 aS rr (.val (.int 3)) (.val (.int 1))) [])) (fun _ kz => XS.ifNo X140.here hx rfl (hb hby at_435) rfl ((if0 _ _).trans (teq ((lw_eq (sx.getD 3 0) (r5 (3 : Int32) y0 y1 y2 y3 y4)).mpr he3)).2) kz) ?_
    refine own_s (g' := (mkF m 439 (own_Lown_tail_0 sl0 sl1 sl2 sl3 sl4 sl5 sl6 aT sl8 sl9 aS rr (.val (.int 3)) (.val (.int 1))) [(.int 1)])) (fun _ kz => XS.iconst X140.here hx rfl (hb hby at_438) kz) ?_
    refine own_s (g' := (mkF m 443 (own_Lown_tail_0 sl0 sl1 sl2 sl3 sl4 sl5 sl6 aT sl8 sl9 aS rr (.val (.int 3)) (.val (.int 1))) [(.int 1)])) (fun _ kz => XS.goto X140.here hx rfl (pc0 := 439) (pc' := 443) rfl (hb hby at_439) (by decide) (by decide) kz) ?_
    refine own_s (g' := (mkF m 445 (own_Lown_tail_0 sl0 sl1 sl2 sl3 sl4 sl5 sl6 aT sl8 sl9 aS rr (.val (.int 3)) (.val (.int 1))) [])) (fun _ kz => XS.istore X140.here hx rfl (hb hby at_443) rfl (l' := (own_Lown_tail_0 sl0 sl1 sl2 sl3 sl4 sl5 sl6 aT sl8 sl9 aS rr (.val (.int 3)) (.val (.int 1)))) rfl kz) ?_
    refine own_s (g' := (mkF m 447 (own_Lown_tail_0 sl0 sl1 sl2 sl3 sl4 sl5 sl6 aT sl8 sl9 aS rr (.val (.int 3)) (.val (.int 1))) [(.int 1)])) (fun _ kz => XS.iload X140.here hx rfl (hb hby at_445) rfl kz) ?_
    refine own_s (g' := (mkF m 450 (own_Lown_tail_0 sl0 sl1 sl2 sl3 sl4 sl5 sl6 aT sl8 sl9 aS rr (.val (.int 3)) (.val (.int 1))) [])) (fun _ kz => XS.ifNo X140.here hx rfl (hb hby at_447) rfl ((if0 _ _).trans (feq ((by decide) : ¬ (1 : Int32) = (0 : Int32))).1) kz) ?_
    refine own_s (g' := (mkF m 452 (own_Lown_tail_0 sl0 sl1 sl2 sl3 sl4 sl5 sl6 aT sl8 sl9 aS rr (.val (.int 3)) (.val (.int 1))) [(.int 3)])) (fun _ kz => XS.iload X140.here hx rfl (hb hby at_450) rfl kz) ?_
    refine own_s (g' := (mkF m 453 (own_Lown_tail_0 sl0 sl1 sl2 sl3 sl4 sl5 sl6 aT sl8 sl9 aS rr (.val (.int 3)) (.val (.int 1))) [(.int 4), (.int 3)])) (fun _ kz => XS.iconst X140.here hx rfl (hb hby at_452) kz) ?_
    refine own_s (g' := (mkF m 470 (own_Lown_tail_0 sl0 sl1 sl2 sl3 sl4 sl5 sl6 aT sl8 sl9 aS rr (.val (.int 3)) (.val (.int 1))) [])) (fun _ kz => XS.icmpYes X140.here hx rfl (pc0 := 453) (pc' := 470) rfl (hb hby at_453) rfl (tlt ((by decide) : (3 : Int32) < (4 : Int32))).1 (by decide) (by decide) kz) ?_
    refine own_s (g' := (mkF m 471 (own_Lown_tail_0 sl0 sl1 sl2 sl3 sl4 sl5 sl6 aT sl8 sl9 aS rr (.val (.int 3)) (.val (.int 1))) [(.int 1)])) (fun _ kz => XS.iconst X140.here hx rfl (hb hby at_470) kz) ?_
    refine own_s (g' := (mkF m 475 (own_Lown_tail_0 sl0 sl1 sl2 sl3 sl4 sl5 sl6 aT sl8 sl9 aS rr (.val (.int 3)) (.val (.int 1))) [(.int 1)])) (fun _ kz => XS.goto X140.here hx rfl (pc0 := 471) (pc' := 475) rfl (hb hby at_471) (by decide) (by decide) kz) ?_
    refine own_s (g' := (mkF m 477 (own_Lown_tail_0 sl0 sl1 sl2 sl3 sl4 sl5 sl6 aT sl8 sl9 aS rr (.val (.int 3)) (.val (.int 1))) [])) (fun _ kz => XS.istore X140.here hx rfl (hb hby at_475) rfl (l' := (own_Lown_tail_0 sl0 sl1 sl2 sl3 sl4 sl5 sl6 aT sl8 sl9 aS rr (.val (.int 3)) (.val (.int 1)))) rfl kz) ?_
    refine own_s (g' := (mkF m 479 (own_Lown_tail_0 sl0 sl1 sl2 sl3 sl4 sl5 sl6 aT sl8 sl9 aS rr (.val (.int 3)) (.val (.int 1))) [(.int 1)])) (fun _ kz => XS.iload X140.here hx rfl (hb hby at_477) rfl kz) ?_
    refine own_s (g' := (mkF m 482 (own_Lown_tail_0 sl0 sl1 sl2 sl3 sl4 sl5 sl6 aT sl8 sl9 aS rr (.val (.int 3)) (.val (.int 1))) [])) (fun _ kz => XS.ifNo X140.here hx rfl (hb hby at_479) rfl ((if0 _ _).trans (feq ((by decide) : ¬ (1 : Int32) = (0 : Int32))).1) kz) ?_
    refine own_s (g' := (mkF m 484 (own_Lown_tail_0 sl0 sl1 sl2 sl3 sl4 sl5 sl6 aT sl8 sl9 aS rr (.val (.int 3)) (.val (.int 1))) [(.int 3)])) (fun _ kz => XS.iload X140.here hx rfl (hb hby at_482) rfl kz) ?_
    refine own_s (g' := (mkF m 485 (own_Lown_tail_0 sl0 sl1 sl2 sl3 sl4 sl5 sl6 aT sl8 sl9 aS rr (.val (.int 3)) (.val (.int 1))) [(.int 5), (.int 3)])) (fun _ kz => XS.iconst X140.here hx rfl (hb hby at_484) kz) ?_
    refine own_s (g' := (mkF m 502 (own_Lown_tail_0 sl0 sl1 sl2 sl3 sl4 sl5 sl6 aT sl8 sl9 aS rr (.val (.int 3)) (.val (.int 1))) [])) (fun _ kz => XS.icmpYes X140.here hx rfl (pc0 := 485) (pc' := 502) rfl (hb hby at_485) rfl (tlt ((by decide) : (3 : Int32) < (5 : Int32))).1 (by decide) (by decide) kz) ?_
    refine own_s (g' := (mkF m 503 (own_Lown_tail_0 sl0 sl1 sl2 sl3 sl4 sl5 sl6 aT sl8 sl9 aS rr (.val (.int 3)) (.val (.int 1))) [(.int 1)])) (fun _ kz => XS.iconst X140.here hx rfl (hb hby at_502) kz) ?_
    refine own_s (g' := (mkF m 507 (own_Lown_tail_0 sl0 sl1 sl2 sl3 sl4 sl5 sl6 aT sl8 sl9 aS rr (.val (.int 3)) (.val (.int 1))) [(.int 1)])) (fun _ kz => XS.goto X140.here hx rfl (pc0 := 503) (pc' := 507) rfl (hb hby at_503) (by decide) (by decide) kz) ?_
    refine own_s (g' := (mkF m 509 (own_Lown_tail_0 sl0 sl1 sl2 sl3 sl4 sl5 sl6 aT sl8 sl9 aS rr (.val (.int 3)) (.val (.int 1))) [])) (fun _ kz => XS.istore X140.here hx rfl (hb hby at_507) rfl (l' := (own_Lown_tail_0 sl0 sl1 sl2 sl3 sl4 sl5 sl6 aT sl8 sl9 aS rr (.val (.int 3)) (.val (.int 1)))) rfl kz) ?_
    refine own_s (g' := (mkF m 511 (own_Lown_tail_0 sl0 sl1 sl2 sl3 sl4 sl5 sl6 aT sl8 sl9 aS rr (.val (.int 3)) (.val (.int 1))) [(.int 1)])) (fun _ kz => XS.iload X140.here hx rfl (hb hby at_509) rfl kz) ?_
    refine own_retN X140 hx hlk (t := .boolean) hret (by simp) (hb hby at_511) (z' := (1 : Int32)) (by decide) (by decide) (by decide) ?_
    exact ⟨rfl, N140⟩
  ·skip
   refine own_s (g' := (mkF m 302 (own_Lown_tail_0 sl0 sl1 sl2 sl3 sl4 sl5 sl6 aT sl8 sl9 aS rr (.val (.int 4)) .unset) [])) (fun _ kz => XS.icmpYes X0.here hx rfl (pc0 := 296) (pc' := 302) rfl (hb hby at_296) rfl (flt c119).2.1 (by decide) (by decide) kz) ?_
   refine own_s (g' := (mkF m 304 (own_Lown_tail_0 sl0 sl1 sl2 sl3 sl4 sl5 sl6 aT sl8 sl9 aS rr (.val (.int 4)) .unset) [(.ref aT)])) (fun _ kz => XS.aload X0.here hx rfl (hb hby at_302) rfl rfl kz) ?_
   refine own_s (g' := (mkF m 305 (own_Lown_tail_0 sl0 sl1 sl2 sl3 sl4 sl5 sl6 aT sl8 sl9 aS rr (.val (.int 4)) .unset) [(.int 2), (.ref aT)])) (fun _ kz => XS.iconst X0.here hx rfl (hb hby at_304) kz) ?_
   obtain ⟨cl141, Ar141, -, S141, -, H141, -⟩ := id V_aT
   have in141 := inb_of S141 (j := (2 : Int32)) ⟨by decide, by decide⟩
   refine own_s (g' := (mkF m 306 (own_Lown_tail_0 sl0 sl1 sl2 sl3 sl4 sl5 sl6 aT sl8 sl9 aS rr (.val (.int 4)) .unset) [(.int y2)])) (X0.iaload hx (j := (2 : Int32)) (v := (.int y2)) (by rw [e0]; exact Ar141.1) (State.isArrayOf_alike hZ.alike Ar141.2.1) Ar141.2.2 in141 (Has.at H141 in141 rfl) (g := (mkF m 305 (own_Lown_tail_0 sl0 sl1 sl2 sl3 sl4 sl5 sl6 aT sl8 sl9 aS rr (.val (.int 4)) .unset) [(.int 2), (.ref aT)])) rfl rfl (hb hby at_305)) ?_
   refine own_s (g' := (mkF m 307 (own_Lown_tail_0 sl0 sl1 sl2 sl3 sl4 sl5 sl6 aT sl8 sl9 aS rr (.val (.int 4)) .unset) [(.int 3), (.int y2)])) (fun _ kz => XS.iconst X0.here hx rfl (hb hby at_306) kz) ?_
   refine own_s (g' := (mkF m 313 (own_Lown_tail_0 sl0 sl1 sl2 sl3 sl4 sl5 sl6 aT sl8 sl9 aS rr (.val (.int 4)) .unset) [])) (fun _ kz => XS.icmpYes X0.here hx rfl (pc0 := 307) (pc' := 313) rfl (hb hby at_307) rfl (flt ((h32 c119) : ¬ y2 < (3 : Int32))).2.1 (by decide) (by decide) kz) ?_
   refine own_s (g' := (mkF m 315 (own_Lown_tail_0 sl0 sl1 sl2 sl3 sl4 sl5 sl6 aT sl8 sl9 aS rr (.val (.int 4)) .unset) [(.ref aT)])) (fun _ kz => XS.aload X0.here hx rfl (hb hby at_313) rfl rfl kz) ?_
   refine own_s (g' := (mkF m 316 (own_Lown_tail_0 sl0 sl1 sl2 sl3 sl4 sl5 sl6 aT sl8 sl9 aS rr (.val (.int 4)) .unset) [(.int 1), (.ref aT)])) (fun _ kz => XS.iconst X0.here hx rfl (hb hby at_315) kz) ?_
   obtain ⟨cl142, Ar142, -, S142, -, H142, -⟩ := id V_aT
   have in142 := inb_of S142 (j := (1 : Int32)) ⟨by decide, by decide⟩
   refine own_s (g' := (mkF m 317 (own_Lown_tail_0 sl0 sl1 sl2 sl3 sl4 sl5 sl6 aT sl8 sl9 aS rr (.val (.int 4)) .unset) [(.int y1)])) (X0.iaload hx (j := (1 : Int32)) (v := (.int y1)) (by rw [e0]; exact Ar142.1) (State.isArrayOf_alike hZ.alike Ar142.2.1) Ar142.2.2 in142 (Has.at H142 in142 rfl) (g := (mkF m 316 (own_Lown_tail_0 sl0 sl1 sl2 sl3 sl4 sl5 sl6 aT sl8 sl9 aS rr (.val (.int 4)) .unset) [(.int 1), (.ref aT)])) rfl rfl (hb hby at_316)) ?_
   refine own_s (g' := (mkF m 318 (own_Lown_tail_0 sl0 sl1 sl2 sl3 sl4 sl5 sl6 aT sl8 sl9 aS rr (.val (.int 4)) .unset) [(.int 2), (.int y1)])) (fun _ kz => XS.iconst X0.here hx rfl (hb hby at_317) kz) ?_
   refine own_s (g' := (mkF m 324 (own_Lown_tail_0 sl0 sl1 sl2 sl3 sl4 sl5 sl6 aT sl8 sl9 aS rr (.val (.int 4)) .unset) [])) (fun _ kz => XS.icmpYes X0.here hx rfl (pc0 := 318) (pc' := 324) rfl (hb hby at_318) rfl (flt ((h21 (h32 c119)) : ¬ y1 < (2 : Int32))).2.1 (by decide) (by decide) kz) ?_
   refine own_s (g' := (mkF m 326 (own_Lown_tail_0 sl0 sl1 sl2 sl3 sl4 sl5 sl6 aT sl8 sl9 aS rr (.val (.int 4)) .unset) [(.ref aT)])) (fun _ kz => XS.aload X0.here hx rfl (hb hby at_324) rfl rfl kz) ?_
   refine own_s (g' := (mkF m 327 (own_Lown_tail_0 sl0 sl1 sl2 sl3 sl4 sl5 sl6 aT sl8 sl9 aS rr (.val (.int 4)) .unset) [(.int 0), (.ref aT)])) (fun _ kz => XS.iconst X0.here hx rfl (hb hby at_326) kz) ?_
   obtain ⟨cl143, Ar143, -, S143, -, H143, -⟩ := id V_aT
   have in143 := inb_of S143 (j := (0 : Int32)) ⟨by decide, by decide⟩
   refine own_s (g' := (mkF m 328 (own_Lown_tail_0 sl0 sl1 sl2 sl3 sl4 sl5 sl6 aT sl8 sl9 aS rr (.val (.int 4)) .unset) [(.int y0)])) (X0.iaload hx (j := (0 : Int32)) (v := (.int y0)) (by rw [e0]; exact Ar143.1) (State.isArrayOf_alike hZ.alike Ar143.2.1) Ar143.2.2 in143 (Has.at H143 in143 rfl) (g := (mkF m 327 (own_Lown_tail_0 sl0 sl1 sl2 sl3 sl4 sl5 sl6 aT sl8 sl9 aS rr (.val (.int 4)) .unset) [(.int 0), (.ref aT)])) rfl rfl (hb hby at_327)) ?_
   refine own_s (g' := (mkF m 329 (own_Lown_tail_0 sl0 sl1 sl2 sl3 sl4 sl5 sl6 aT sl8 sl9 aS rr (.val (.int 4)) .unset) [(.int 1), (.int y0)])) (fun _ kz => XS.iconst X0.here hx rfl (hb hby at_328) kz) ?_
   refine own_s (g' := (mkF m 335 (own_Lown_tail_0 sl0 sl1 sl2 sl3 sl4 sl5 sl6 aT sl8 sl9 aS rr (.val (.int 4)) .unset) [])) (fun _ kz => XS.icmpYes X0.here hx rfl (pc0 := 329) (pc' := 335) rfl (hb hby at_329) rfl (flt ((h10 (h21 (h32 c119))) : ¬ y0 < (1 : Int32))).2.1 (by decide) (by decide) kz) ?_
   rw [if_neg (h10 (h21 (h32 c119))), if_neg (h21 (h32 c119)), if_neg (h32 c119), if_neg c119] at hr
   simp only [Bool.and_eq_true, decide_eq_true_eq] at hr
   obtain ⟨⟨⟨⟨hrr, hm1, he1⟩, hm2, he2⟩, hm3, he3⟩, hm4, he4⟩ := hr
   refine own_s (g' := (mkF m 337 (own_Lown_tail_0 sl0 sl1 sl2 sl3 sl4 sl5 sl6 aT sl8 sl9 aS rr (.val (.int 4)) .unset) [(.int rr)])) (fun _ kz => XS.iload X0.here hx rfl (hb hby at_335) rfl kz) ?_
   refine own_s (g' := (mkF m 339 (own_Lown_tail_0 sl0 sl1 sl2 sl3 sl4 sl5 sl6 aT sl8 sl9 aS rr (.val (.int 4)) .unset) [(.int 4), (.int rr)])) (fun _ kz => XS.iload X0.here hx rfl (hb hby at_337) rfl kz) ?_
   refine own_s (g' := (mkF m 342 (own_Lown_tail_0 sl0 sl1 sl2 sl3 sl4 sl5 sl6 aT sl8 sl9 aS rr (.val (.int 4)) .unset) [])) (fun _ kz => XS.icmpNo X0.here hx rfl (hb hby at_339) rfl (teq hrr).2 kz) ?_
   refine own_s (g' := (mkF m 343 (own_Lown_tail_0 sl0 sl1 sl2 sl3 sl4 sl5 sl6 aT sl8 sl9 aS rr (.val (.int 4)) .unset) [(.int 1)])) (fun _ kz => XS.iconst X0.here hx rfl (hb hby at_342) kz) ?_
   refine own_s (g' := (mkF m 347 (own_Lown_tail_0 sl0 sl1 sl2 sl3 sl4 sl5 sl6 aT sl8 sl9 aS rr (.val (.int 4)) .unset) [(.int 1)])) (fun _ kz => XS.goto X0.here hx rfl (pc0 := 343) (pc' := 347) rfl (hb hby at_343) (by decide) (by decide) kz) ?_
   refine own_s (g' := (mkF m 349 (own_Lown_tail_0 sl0 sl1 sl2 sl3 sl4 sl5 sl6 aT sl8 sl9 aS rr (.val (.int 4)) (.val (.int 1))) [])) (fun _ kz => XS.istore X0.here hx rfl (hb hby at_347) rfl (l' := (own_Lown_tail_0 sl0 sl1 sl2 sl3 sl4 sl5 sl6 aT sl8 sl9 aS rr (.val (.int 4)) (.val (.int 1)))) rfl kz) ?_
   refine own_s (g' := (mkF m 351 (own_Lown_tail_0 sl0 sl1 sl2 sl3 sl4 sl5 sl6 aT sl8 sl9 aS rr (.val (.int 4)) (.val (.int 1))) [(.int 1)])) (fun _ kz => XS.iload X0.here hx rfl (hb hby at_349) rfl kz) ?_
   refine own_s (g' := (mkF m 354 (own_Lown_tail_0 sl0 sl1 sl2 sl3 sl4 sl5 sl6 aT sl8 sl9 aS rr (.val (.int 4)) (.val (.int 1))) [])) (fun _ kz => XS.ifNo X0.here hx rfl (hb hby at_351) rfl ((if0 _ _).trans (feq ((by decide) : ¬ (1 : Int32) = (0 : Int32))).1) kz) ?_
   refine own_s (g' := (mkF m 356 (own_Lown_tail_0 sl0 sl1 sl2 sl3 sl4 sl5 sl6 aT sl8 sl9 aS rr (.val (.int 4)) (.val (.int 1))) [(.int 4)])) (fun _ kz => XS.iload X0.here hx rfl (hb hby at_354) rfl kz) ?_
   refine own_s (g' := (mkF m 357 (own_Lown_tail_0 sl0 sl1 sl2 sl3 sl4 sl5 sl6 aT sl8 sl9 aS rr (.val (.int 4)) (.val (.int 1))) [(.int 1), (.int 4)])) (fun _ kz => XS.iconst X0.here hx rfl (hb hby at_356) kz) ?_
   refine own_s (g' := (mkF m 360 (own_Lown_tail_0 sl0 sl1 sl2 sl3 sl4 sl5 sl6 aT sl8 sl9 aS rr (.val (.int 4)) (.val (.int 1))) [])) (fun _ kz => XS.icmpNo X0.here hx rfl (hb hby at_357) rfl (flt ((by decide) : ¬ (4 : Int32) < (1 : Int32))).1 kz) ?_
   refine own_s (g' := (mkF m 362 (own_Lown_tail_0 sl0 sl1 sl2 sl3 sl4 sl5 sl6 aT sl8 sl9 aS rr (.val (.int 4)) (.val (.int 1))) [(.ref aS)])) (fun _ kz => XS.aload X0.here hx rfl (hb hby at_360) rfl rfl kz) ?_
   refine own_s (g' := (mkF m 363 (own_Lown_tail_0 sl0 sl1 sl2 sl3 sl4 sl5 sl6 aT sl8 sl9 aS rr (.val (.int 4)) (.val (.int 1))) [(.int 1), (.ref aS)])) (fun _ kz => XS.iconst X0.here hx rfl (hb hby at_362) kz) ?_
   obtain ⟨cl144, Ar144, -, S144, -, H144, -⟩ := id V_aS
   have in144 := inb_of S144 (j := (1 : Int32)) ⟨by decide, hm1⟩
   refine own_s (g' := (mkF m 364 (own_Lown_tail_0 sl0 sl1 sl2 sl3 sl4 sl5 sl6 aT sl8 sl9 aS rr (.val (.int 4)) (.val (.int 1))) [(.long (sx.getD 1 0))])) (X0.laload hx (j := (1 : Int32)) (v := (.long (sx.getD 1 0))) (by rw [e0]; exact Ar144.1) (State.isArrayOf_alike hZ.alike Ar144.2.1) Ar144.2.2 in144 (Has.at H144 in144 (own_mapDJ sx _)) (g := (mkF m 363 (own_Lown_tail_0 sl0 sl1 sl2 sl3 sl4 sl5 sl6 aT sl8 sl9 aS rr (.val (.int 4)) (.val (.int 1))) [(.int 1), (.ref aS)])) rfl rfl (hb hby at_363)) ?_
   refine own_s (g' := (mkF m 366 (own_Lown_tail_0 sl0 sl1 sl2 sl3 sl4 sl5 sl6 aT sl8 sl9 aS rr (.val (.int 4)) (.val (.int 1))) [(.ref aT), (.long (sx.getD 1 0))])) (fun _ kz => XS.aload X0.here hx rfl (hb hby at_364) rfl rfl kz) ?_
   refine own_s (g' := (mkF m 367 (own_Lown_tail_0 sl0 sl1 sl2 sl3 sl4 sl5 sl6 aT sl8 sl9 aS rr (.val (.int 4)) (.val (.int 1))) [(.int 1), (.ref aT), (.long (sx.getD 1 0))])) (fun _ kz => XS.iconst X0.here hx rfl (hb hby at_366) kz) ?_
   obtain ⟨_, _, ⟨T145, L145, k145, n145⟩, -, X145, ⟨Lc145, hQ145, l145, y145, z145⟩, st145⟩ := Jvm.LawKit.callS X0 hx (y := (⟨"gallai/service/GraphicalitySlacksPinLaw", "ref", "([II)J"⟩ : MethodName)) hown (mvT hZ ww18) (mvT hZ ww19) (mvT hZ ww4) (mvT hZ ww20) (by decide) (backOf (W := 2) (rm5 l Z a0 hw [] aT (1 : Int32) kt y0 y1 y2 y3 y4 h0 n0 Z0 V_aT) hZ ww20 ww4 (by decide) (by decide)) (g := (mkF m 367 (own_Lown_tail_0 sl0 sl1 sl2 sl3 sl4 sl5 sl6 aT sl8 sl9 aS rr (.val (.int 4)) (.val (.int 1))) [(.int 1), (.ref aT), (.long (sx.getD 1 0))])) rfl (by rw [hml]; rfl) (argsL := [(.ref aT), (.int 1)]) (rest := [(.long (sx.getD 1 0))]) (lenOf pd___II_J rfl) rfl (by show 2 * 0 + _ ≤ _; exact Nat.le_of_eq rfl) (hb hby at_367) (fun _ _ => ⟨rfl, e0, (by decide : 8 + 0 ≤ _), (by decide : 40 + 0 ≤ _)⟩)
   dsimp only [Pt.U, Pt.locs, Pt.cells, Pt.slots] at X145 l145 y145 z145 st145 hQ145
   subst l145 y145 z145
   obtain ⟨rfl, N145q, eh145⟩ := hQ145
   have N145 := Fr.app N0 N145q
   refine own_s (g' := (mkF m 370 (own_Lown_tail_0 sl0 sl1 sl2 sl3 sl4 sl5 sl6 aT sl8 sl9 aS rr (.val (.int 4)) (.val (.int 1))) [(.long (r5 (1 : Int32) y0 y1 y2 y3 y4)), (.long (sx.getD 1 0))])) st145 ?_
   refine own_s (g' := (mkF m 371 (own_Lown_tail_0 sl0 sl1 sl2 sl3 sl4 sl5 sl6 aT sl8 sl9 aS rr (.val (.int 4)) (.val (.int 1))) [(.int (lcmpW (sx.getD 1 0) (r5 (1 : Int32) y0 y1 y2 y3 y4)))])) (fun _ kz => XS.lcmp X145.here hx rfl (hb hby at_370) rfl kz) ?_
   refine own_s (g' := (mkF m 374 (own_Lown_tail_0 sl0 sl1 sl2 sl3 sl4 sl5 sl6 aT sl8 sl9 aS rr (.val (.int 4)) (.val (.int 1))) [])) (fun _ kz => XS.ifNo X145.here hx rfl (hb hby at_371) rfl ((if0 _ _).trans (teq ((lw_eq (sx.getD 1 0) (r5 (1 : Int32) y0 y1 y2 y3 y4)).mpr he1)).2) kz) ?_
   refine own_s (g' := (mkF m 375 (own_Lown_tail_0 sl0 sl1 sl2 sl3 sl4 sl5 sl6 aT sl8 sl9 aS rr (.val (.int 4)) (.val (.int 1))) [(.int 1)])) (fun _ kz => XS.iconst X145.here hx rfl (hb hby at_374) kz) ?_
   refine own_s (g' := (mkF m 379 (own_Lown_tail_0 sl0 sl1 sl2 sl3 sl4 sl5 sl6 aT sl8 sl9 aS rr (.val (.int 4)) (.val (.int 1))) [(.int 1)])) (fun _ kz => XS.goto X145.here hx rfl (pc0 := 375) (pc' := 379) rfl (hb hby at_375) (by decide) (by decide) kz) ?_
   refine own_s (g' := (mkF m 381 (own_Lown_tail_0 sl0 sl1 sl2 sl3 sl4 sl5 sl6 aT sl8 sl9 aS rr (.val (.int 4)) (.val (.int 1))) [])) (fun _ kz => XS.istore X145.here hx rfl (hb hby at_379) rfl (l' := (own_Lown_tail_0 sl0 sl1 sl2 sl3 sl4 sl5 sl6 aT sl8 sl9 aS rr (.val (.int 4)) (.val (.int 1)))) rfl kz) ?_
   refine own_s (g' := (mkF m 383 (own_Lown_tail_0 sl0 sl1 sl2 sl3 sl4 sl5 sl6 aT sl8 sl9 aS rr (.val (.int 4)) (.val (.int 1))) [(.int 1)])) (fun _ kz => XS.iload X145.here hx rfl (hb hby at_381) rfl kz) ?_
   refine own_s (g' := (mkF m 386 (own_Lown_tail_0 sl0 sl1 sl2 sl3 sl4 sl5 sl6 aT sl8 sl9 aS rr (.val (.int 4)) (.val (.int 1))) [])) (fun _ kz => XS.ifNo X145.here hx rfl (hb hby at_383) rfl ((if0 _ _).trans (feq ((by decide) : ¬ (1 : Int32) = (0 : Int32))).1) kz) ?_
   refine own_s (g' := (mkF m 388 (own_Lown_tail_0 sl0 sl1 sl2 sl3 sl4 sl5 sl6 aT sl8 sl9 aS rr (.val (.int 4)) (.val (.int 1))) [(.int 4)])) (fun _ kz => XS.iload X145.here hx rfl (hb hby at_386) rfl kz) ?_
   refine own_s (g' := (mkF m 389 (own_Lown_tail_0 sl0 sl1 sl2 sl3 sl4 sl5 sl6 aT sl8 sl9 aS rr (.val (.int 4)) (.val (.int 1))) [(.int 2), (.int 4)])) (fun _ kz => XS.iconst X145.here hx rfl (hb hby at_388) kz) ?_
   refine own_s (g' := (mkF m 392 (own_Lown_tail_0 sl0 sl1 sl2 sl3 sl4 sl5 sl6 aT sl8 sl9 aS rr (.val (.int 4)) (.val (.int 1))) [])) (fun _ kz => XS.icmpNo X145.here hx rfl (hb hby at_389) rfl (flt ((by decide) : ¬ (4 : Int32) < (2 : Int32))).1 kz) ?_
   refine own_s (g' := (mkF m 394 (own_Lown_tail_0 sl0 sl1 sl2 sl3 sl4 sl5 sl6 aT sl8 sl9 aS rr (.val (.int 4)) (.val (.int 1))) [(.ref aS)])) (fun _ kz => XS.aload X145.here hx rfl (hb hby at_392) rfl rfl kz) ?_
   refine own_s (g' := (mkF m 395 (own_Lown_tail_0 sl0 sl1 sl2 sl3 sl4 sl5 sl6 aT sl8 sl9 aS rr (.val (.int 4)) (.val (.int 1))) [(.int 2), (.ref aS)])) (fun _ kz => XS.iconst X145.here hx rfl (hb hby at_394) kz) ?_
   obtain ⟨cl146, Ar146, -, S146, -, H146, -⟩ := id V_aS
   have in146 := inb_of S146 (j := (2 : Int32)) ⟨by decide, hm2⟩
   refine own_s (g' := (mkF m 396 (own_Lown_tail_0 sl0 sl1 sl2 sl3 sl4 sl5 sl6 aT sl8 sl9 aS rr (.val (.int 4)) (.val (.int 1))) [(.long (sx.getD 2 0))])) (X145.laload hx (j := (2 : Int32)) (v := (.long (sx.getD 2 0))) (by rw [eh145]; exact Ar146.1) (State.isArrayOf_alike hZ.alike Ar146.2.1) Ar146.2.2 in146 (Has.at H146 in146 (own_mapDJ sx _)) (g := (mkF m 395 (own_Lown_tail_0 sl0 sl1 sl2 sl3 sl4 sl5 sl6 aT sl8 sl9 aS rr (.val (.int 4)) (.val (.int 1))) [(.int 2), (.ref aS)])) rfl rfl (hb hby at_395)) ?_
   refine own_s (g' := (mkF m 398 (own_Lown_tail_0 sl0 sl1 sl2 sl3 sl4 sl5 sl6 aT sl8 sl9 aS rr (.val (.int 4)) (.val (.int 1))) [(.ref aT), (.long (sx.getD 2 0))])) (fun _ kz => XS.aload X145.here hx rfl (hb hby at_396) rfl rfl kz) ?_
   refine own_s (g' := (mkF m 399 (own_Lown_tail_0 sl0 sl1 sl2 sl3 sl4 sl5 sl6 aT sl8 sl9 aS rr (.val (.int 4)) (.val (.int 1))) [(.int 2), (.ref aT), (.long (sx.getD 2 0))])) (fun _ kz => XS.iconst X145.here hx rfl (hb hby at_398) kz) ?_
   obtain ⟨_, _, ⟨T147, L147, k147, n147⟩, -, X147, ⟨Lc147, hQ147, l147, y147, z147⟩, st147⟩ := Jvm.LawKit.callS X145 hx (y := (⟨"gallai/service/GraphicalitySlacksPinLaw", "ref", "([II)J"⟩ : MethodName)) hown (mvT hZ ww18) (mvT hZ ww19) (mvT hZ ww4) (mvT hZ ww20) (by decide) (backOf (W := 2) (rm5 l Z a0 hw [] aT (2 : Int32) kt y0 y1 y2 y3 y4 h0 n0 Z0 V_aT) hZ ww20 ww4 (by decide) (by decide)) (g := (mkF m 399 (own_Lown_tail_0 sl0 sl1 sl2 sl3 sl4 sl5 sl6 aT sl8 sl9 aS rr (.val (.int 4)) (.val (.int 1))) [(.int 2), (.ref aT), (.long (sx.getD 2 0))])) rfl (by rw [hml]; rfl) (argsL := [(.ref aT), (.int 2)]) (rest := [(.long (sx.getD 2 0))]) (lenOf pd___II_J rfl) rfl (by show 2 * 0 + _ ≤ _; exact Nat.le_of_eq rfl) (hb hby at_399) (fun _ _ => ⟨rfl, eh145, (by decide : 8 + 0 ≤ _), (by decide : 40 + 0 ≤ _)⟩)
   dsimp only [Pt.U, Pt.locs, Pt.cells, Pt.slots] at X147 l147 y147 z147 st147 hQ147
   subst l147 y147 z147
   obtain ⟨rfl, N147q, eh147⟩ := hQ147
   have N147 := Fr.app N145 N147q
   refine own_s (g' := (mkF m 402 (own_Lown_tail_0 sl0 sl1 sl2 sl3 sl4 sl5 sl6 aT sl8 sl9 aS rr (.val (.int 4)) (.val (.int 1))) [(.long (r5 (2 : Int32) y0 y1 y2 y3 y4)), (.long (sx.getD 2 0))])) st147 ?_
   refine own_s (g' := (mkF m 403 (own_Lown_tail_0 sl0 sl1 sl2 sl3 sl4 sl5 sl6 aT sl8 sl9 aS rr (.val (.int 4)) (.val (.int 1))) [(.int (lcmpW (sx.getD 2 0) (r5 (2 : Int32) y0 y1 y2 y3 y4)))])) (fun _ kz => XS.lcmp X147.here hx rfl (hb hby at_402) rfl kz) ?_
   refine own_s (g' := (mkF m 406 (own_Lown_tail_0 sl0 sl1 sl2 sl3 sl4 sl5 sl6 aT sl8 sl9 aS rr (.val (.int 4)) (.val (.int 1))) [])) (fun _ kz => XS.ifNo X147.here hx rfl (hb hby at_403) rfl ((if0 _ _).trans (teq ((lw_eq (sx.getD 2 0) (r5 (2 : Int32) y0 y1 y2 y3 y4)).mpr he2)).2) kz) ?_
   refine own_s (g' := (mkF m 407 (own_Lown_tail_0 sl0 sl1 sl2 sl3 sl4 sl5 sl6 aT sl8 sl9 aS rr (.val (.int 4)) (.val (.int 1))) [(.int 1)])) (fun _ kz => XS.iconst X147.here hx rfl (hb hby at_406) kz) ?_
   refine own_s (g' := (mkF m 411 (own_Lown_tail_0 sl0 sl1 sl2 sl3 sl4 sl5 sl6 aT sl8 sl9 aS rr (.val (.int 4)) (.val (.int 1))) [(.int 1)])) (fun _ kz => XS.goto X147.here hx rfl (pc0 := 407) (pc' := 411) rfl (hb hby at_407) (by decide) (by decide) kz) ?_
   refine own_s (g' := (mkF m 413 (own_Lown_tail_0 sl0 sl1 sl2 sl3 sl4 sl5 sl6 aT sl8 sl9 aS rr (.val (.int 4)) (.val (.int 1))) [])) (fun _ kz => XS.istore X147.here hx rfl (hb hby at_411) rfl (l' := (own_Lown_tail_0 sl0 sl1 sl2 sl3 sl4 sl5 sl6 aT sl8 sl9 aS rr (.val (.int 4)) (.val (.int 1)))) rfl kz) ?_
   refine own_s (g' := (mkF m 415 (own_Lown_tail_0 sl0 sl1 sl2 sl3 sl4 sl5 sl6 aT sl8 sl9 aS rr (.val (.int 4)) (.val (.int 1))) [(.int 1)])) (fun _ kz => XS.iload X147.here hx rfl (hb hby at_413) rfl kz) ?_
   refine own_s (g' := (mkF m 418 (own_Lown_tail_0 sl0 sl1 sl2 sl3 sl4 sl5 sl6 aT sl8 sl9 aS rr (.val (.int 4)) (.val (.int 1))) [])) (fun _ kz => XS.ifNo X147.here hx rfl (hb hby at_415) rfl ((if0 _ _).trans (feq ((by decide) : ¬ (1 : Int32) = (0 : Int32))).1) kz) ?_
   refine own_s (g' := (mkF m 420 (own_Lown_tail_0 sl0 sl1 sl2 sl3 sl4 sl5 sl6 aT sl8 sl9 aS rr (.val (.int 4)) (.val (.int 1))) [(.int 4)])) (fun _ kz => XS.iload X147.here hx rfl (hb hby at_418) rfl kz) ?_
   refine own_s (g' := (mkF m 421 (own_Lown_tail_0 sl0 sl1 sl2 sl3 sl4 sl5 sl6 aT sl8 sl9 aS rr (.val (.int 4)) (.val (.int 1))) [(.int 3), (.int 4)])) (fun _ kz => XS.iconst X147.here hx rfl (hb hby at_420) kz) ?_
   refine own_s (g' := (mkF m 424 (own_Lown_tail_0 sl0 sl1 sl2 sl3 sl4 sl5 sl6 aT sl8 sl9 aS rr (.val (.int 4)) (.val (.int 1))) [])) (fun _ kz => XS.icmpNo X147.here hx rfl (hb hby at_421) rfl (flt ((by decide) : ¬ (4 : Int32) < (3 : Int32))).1 kz) ?_
   refine own_s (g' := (mkF m 426 (own_Lown_tail_0 sl0 sl1 sl2 sl3 sl4 sl5 sl6 aT sl8 sl9 aS rr (.val (.int 4)) (.val (.int 1))) [(.ref aS)])) (fun _ kz => XS.aload X147.here hx rfl (hb hby at_424) rfl rfl kz) ?_
   refine own_s (g' := (mkF m 427 (own_Lown_tail_0 sl0 sl1 sl2 sl3 sl4 sl5 sl6 aT sl8 sl9 aS rr (.val (.int 4)) (.val (.int 1))) [(.int 3), (.ref aS)])) (fun _ kz => XS.iconst X147.here hx rfl (hb hby at_426) kz) ?_
   obtain ⟨cl148, Ar148, -, S148, -, H148, -⟩ := id V_aS
   have in148 := inb_of S148 (j := (3 : Int32)) ⟨by decide, hm3⟩
   refine own_s (g' := (mkF m 428 (own_Lown_tail_0 sl0 sl1 sl2 sl3 sl4 sl5 sl6 aT sl8 sl9 aS rr (.val (.int 4)) (.val (.int 1))) [(.long (sx.getD 3 0))])) (X147.laload hx (j := (3 : Int32)) (v := (.long (sx.getD 3 0))) (by rw [eh147]; exact Ar148.1) (State.isArrayOf_alike hZ.alike Ar148.2.1) Ar148.2.2 in148 (Has.at H148 in148 (own_mapDJ sx _)) (g := (mkF m 427 (own_Lown_tail_0 sl0 sl1 sl2 sl3 sl4 sl5 sl6 aT sl8 sl9 aS rr (.val (.int 4)) (.val (.int 1))) [(.int 3), (.ref aS)])) rfl rfl (hb hby at_427)) ?_
   refine own_s (g' := (mkF m 430 (own_Lown_tail_0 sl0 sl1 sl2 sl3 sl4 sl5 sl6 aT sl8 sl9 aS rr (.val (.int 4)) (.val (.int 1))) [(.ref aT), (.long (sx.getD 3 0))])) (fun _ kz => XS.aload X147.here hx rfl (hb hby at_428) rfl rfl kz) ?_
   refine own_s (g' := (mkF m 431 (own_Lown_tail_0 sl0 sl1 sl2 sl3 sl4 sl5 sl6 aT sl8 sl9 aS rr (.val (.int 4)) (.val (.int 1))) [(.int 3), (.ref aT), (.long (sx.getD 3 0))])) (fun _ kz => XS.iconst X147.here hx rfl (hb hby at_430) kz) ?_
   obtain ⟨_, _, ⟨T149, L149, k149, n149⟩, -, X149, ⟨Lc149, hQ149, l149, y149, z149⟩, st149⟩ := Jvm.LawKit.callS X147 hx (y := (⟨"gallai/service/GraphicalitySlacksPinLaw", "ref", "([II)J"⟩ : MethodName)) hown (mvT hZ ww18) (mvT hZ ww19) (mvT hZ ww4) (mvT hZ ww20) (by decide) (backOf (W := 2) (rm5 l Z a0 hw [] aT (3 : Int32) kt y0 y1 y2 y3 y4 h0 n0 Z0 V_aT) hZ ww20 ww4 (by decide) (by decide)) (g := (mkF m 431 (own_Lown_tail_0 sl0 sl1 sl2 sl3 sl4 sl5 sl6 aT sl8 sl9 aS rr (.val (.int 4)) (.val (.int 1))) [(.int 3), (.ref aT), (.long (sx.getD 3 0))])) rfl (by rw [hml]; rfl) (argsL := [(.ref aT), (.int 3)]) (rest := [(.long (sx.getD 3 0))]) (lenOf pd___II_J rfl) rfl (by show 2 * 0 + _ ≤ _; exact Nat.le_of_eq rfl) (hb hby at_431) (fun _ _ => ⟨rfl, eh147, (by decide : 8 + 0 ≤ _), (by decide : 40 + 0 ≤ _)⟩)
   dsimp only [Pt.U, Pt.locs, Pt.cells, Pt.slots] at X149 l149 y149 z149 st149 hQ149
   subst l149 y149 z149
   obtain ⟨rfl, N149q, eh149⟩ := hQ149
   have N149 := Fr.app N147 N149q
   refine own_s (g' := (mkF m 434 (own_Lown_tail_0 sl0 sl1 sl2 sl3 sl4 sl5 sl6 aT sl8 sl9 aS rr (.val (.int 4)) (.val (.int 1))) [(.long (r5 (3 : Int32) y0 y1 y2 y3 y4)), (.long (sx.getD 3 0))])) st149 ?_
   refine own_s (g' := (mkF m 435 (own_Lown_tail_0 sl0 sl1 sl2 sl3 sl4 sl5 sl6 aT sl8 sl9 aS rr (.val (.int 4)) (.val (.int 1))) [(.int (lcmpW (sx.getD 3 0) (r5 (3 : Int32) y0 y1 y2 y3 y4)))])) (fun _ kz => XS.lcmp X149.here hx rfl (hb hby at_434) rfl kz) ?_
   refine own_s (g' := (mkF m 438 (own_Lown_tail_0 sl0 sl1 sl2 sl3 sl4 sl5 sl6 aT sl8 sl9 aS rr (.val (.int 4)) (.val (.int 1))) [])) (fun _ kz => XS.ifNo X149.here hx rfl (hb hby at_435) rfl ((if0 _ _).trans (teq ((lw_eq (sx.getD 3 0) (r5 (3 : Int32) y0 y1 y2 y3 y4)).mpr he3)).2) kz) ?_
   refine own_s (g' := (mkF m 439 (own_Lown_tail_0 sl0 sl1 sl2 sl3 sl4 sl5 sl6 aT sl8 sl9 aS rr (.val (.int 4)) (.val (.int 1))) [(.int 1)])) (fun _ kz => XS.iconst X149.here hx rfl (hb hby at_438) kz) ?_
   refine own_s (g' := (mkF m 443 (own_Lown_tail_0 sl0 sl1 sl2 sl3 sl4 sl5 sl6 aT sl8 sl9 aS rr (.val (.int 4)) (.val (.int 1))) [(.int 1)])) (fun _ kz => XS.goto X149.here hx rfl (pc0 := 439) (pc' := 443) rfl (hb hby at_439) (by decide) (by decide) kz) ?_
   refine own_s (g' := (mkF m 445 (own_Lown_tail_0 sl0 sl1 sl2 sl3 sl4 sl5 sl6 aT sl8 sl9 aS rr (.val (.int 4)) (.val (.int 1))) [])) (fun _ kz => XS.istore X149.here hx rfl (hb hby at_443) rfl (l' := (own_Lown_tail_0 sl0 sl1 sl2 sl3 sl4 sl5 sl6 aT sl8 sl9 aS rr (.val (.int 4)) (.val (.int 1)))) rfl kz) ?_
   refine own_s (g' := (mkF m 447 (own_Lown_tail_0 sl0 sl1 sl2 sl3 sl4 sl5 sl6 aT sl8 sl9 aS rr (.val (.int 4)) (.val (.int 1))) [(.int 1)])) (fun _ kz => XS.iload X149.here hx rfl (hb hby at_445) rfl kz) ?_
   refine own_s (g' := (mkF m 450 (own_Lown_tail_0 sl0 sl1 sl2 sl3 sl4 sl5 sl6 aT sl8 sl9 aS rr (.val (.int 4)) (.val (.int 1))) [])) (fun _ kz => XS.ifNo X149.here hx rfl (hb hby at_447) rfl ((if0 _ _).trans (feq ((by decide) : ¬ (1 : Int32) = (0 : Int32))).1) kz) ?_
   refine own_s (g' := (mkF m 452 (own_Lown_tail_0 sl0 sl1 sl2 sl3 sl4 sl5 sl6 aT sl8 sl9 aS rr (.val (.int 4)) (.val (.int 1))) [(.int 4)])) (fun _ kz => XS.iload X149.here hx rfl (hb hby at_450) rfl kz) ?_
   refine own_s (g' := (mkF m 453 (own_Lown_tail_0 sl0 sl1 sl2 sl3 sl4 sl5 sl6 aT sl8 sl9 aS rr (.val (.int 4)) (.val (.int 1))) [(.int 4), (.int 4)])) (fun _ kz => XS.iconst X149.here hx rfl (hb hby at_452) kz) ?_
   refine own_s (g' := (mkF m 456 (own_Lown_tail_0 sl0 sl1 sl2 sl3 sl4 sl5 sl6 aT sl8 sl9 aS rr (.val (.int 4)) (.val (.int 1))) [])) (fun _ kz => XS.icmpNo X149.here hx rfl (hb hby at_453) rfl (flt ((by decide) : ¬ (4 : Int32) < (4 : Int32))).1 kz) ?_
   refine own_s (g' := (mkF m 458 (own_Lown_tail_0 sl0 sl1 sl2 sl3 sl4 sl5 sl6 aT sl8 sl9 aS rr (.val (.int 4)) (.val (.int 1))) [(.ref aS)])) (fun _ kz => XS.aload X149.here hx rfl (hb hby at_456) rfl rfl kz) ?_
   refine own_s (g' := (mkF m 459 (own_Lown_tail_0 sl0 sl1 sl2 sl3 sl4 sl5 sl6 aT sl8 sl9 aS rr (.val (.int 4)) (.val (.int 1))) [(.int 4), (.ref aS)])) (fun _ kz => XS.iconst X149.here hx rfl (hb hby at_458) kz) ?_
   obtain ⟨cl150, Ar150, -, S150, -, H150, -⟩ := id V_aS
   have in150 := inb_of S150 (j := (4 : Int32)) ⟨by decide, hm4⟩
   refine own_s (g' := (mkF m 460 (own_Lown_tail_0 sl0 sl1 sl2 sl3 sl4 sl5 sl6 aT sl8 sl9 aS rr (.val (.int 4)) (.val (.int 1))) [(.long (sx.getD 4 0))])) (X149.laload hx (j := (4 : Int32)) (v := (.long (sx.getD 4 0))) (by rw [eh149]; exact Ar150.1) (State.isArrayOf_alike hZ.alike Ar150.2.1) Ar150.2.2 in150 (Has.at H150 in150 (own_mapDJ sx _)) (g := (mkF m 459 (own_Lown_tail_0 sl0 sl1 sl2 sl3 sl4 sl5 sl6 aT sl8 sl9 aS rr (.val (.int 4)) (.val (.int 1))) [(.int 4), (.ref aS)])) rfl rfl (hb hby at_459)) ?_
   refine own_s (g' := (mkF m 462 (own_Lown_tail_0 sl0 sl1 sl2 sl3 sl4 sl5 sl6 aT sl8 sl9 aS rr (.val (.int 4)) (.val (.int 1))) [(.ref aT), (.long (sx.getD 4 0))])) (fun _ kz => XS.aload X149.here hx rfl (hb hby at_460) rfl rfl kz) ?_
   refine own_s (g' := (mkF m 463 (own_Lown_tail_0 sl0 sl1 sl2 sl3 sl4 sl5 sl6 aT sl8 sl9 aS rr (.val (.int 4)) (.val (.int 1))) [(.int 4), (.ref aT), (.long (sx.getD 4 0))])) (fun _ kz => XS.iconst X149.here hx rfl (hb hby at_462) kz) ?_
   obtain ⟨_, _, ⟨T151, L151, k151, n151⟩, -, X151, ⟨Lc151, hQ151, l151, y151, z151⟩, st151⟩ := Jvm.LawKit.callS X149 hx (y := (⟨"gallai/service/GraphicalitySlacksPinLaw", "ref", "([II)J"⟩ : MethodName)) hown (mvT hZ ww18) (mvT hZ ww19) (mvT hZ ww4) (mvT hZ ww20) (by decide) (backOf (W := 2) (rm5 l Z a0 hw [] aT (4 : Int32) kt y0 y1 y2 y3 y4 h0 n0 Z0 V_aT) hZ ww20 ww4 (by decide) (by decide)) (g := (mkF m 463 (own_Lown_tail_0 sl0 sl1 sl2 sl3 sl4 sl5 sl6 aT sl8 sl9 aS rr (.val (.int 4)) (.val (.int 1))) [(.int 4), (.ref aT), (.long (sx.getD 4 0))])) rfl (by rw [hml]; rfl) (argsL := [(.ref aT), (.int 4)]) (rest := [(.long (sx.getD 4 0))]) (lenOf pd___II_J rfl) rfl (by show 2 * 0 + _ ≤ _; exact Nat.le_of_eq rfl) (hb hby at_463) (fun _ _ => ⟨rfl, eh149, (by decide : 8 + 0 ≤ _), (by decide : 40 + 0 ≤ _)⟩)
   dsimp only [Pt.U, Pt.locs, Pt.cells, Pt.slots] at X151 l151 y151 z151 st151 hQ151
   subst l151 y151 z151
   obtain ⟨rfl, N151q, eh151⟩ := hQ151
   have N151 := Fr.app N149 N151q
   refine own_s (g' := (mkF m 466 (own_Lown_tail_0 sl0 sl1 sl2 sl3 sl4 sl5 sl6 aT sl8 sl9 aS rr (.val (.int 4)) (.val (.int 1))) [(.long (r5 (4 : Int32) y0 y1 y2 y3 y4)), (.long (sx.getD 4 0))])) st151 ?_
   refine own_s (g' := (mkF m 467 (own_Lown_tail_0 sl0 sl1 sl2 sl3 sl4 sl5 sl6 aT sl8 sl9 aS rr (.val (.int 4)) (.val (.int 1))) [(.int (lcmpW (sx.getD 4 0) (r5 (4 : Int32) y0 y1 y2 y3 y4)))])) (fun _ kz => XS.lcmp X151.here hx rfl (hb hby at_466) rfl kz) ?_
   refine own_s (g' := (mkF m 470 (own_Lown_tail_0 sl0 sl1 sl2 sl3 sl4 sl5 sl6 aT sl8 sl9 aS rr (.val (.int 4)) (.val (.int 1))) [])) (fun _ kz => XS.ifNo X151.here hx rfl (hb hby at_467) rfl ((if0 _ _).trans (teq ((lw_eq (sx.getD 4 0) (r5 (4 : Int32) y0 y1 y2 y3 y4)).mpr he4)).2) kz) ?_
   refine own_s (g' := (mkF m 471 (own_Lown_tail_0 sl0 sl1 sl2 sl3 sl4 sl5 sl6 aT sl8 sl9 aS rr (.val (.int 4)) (.val (.int 1))) [(.int 1)])) (fun _ kz => XS.iconst X151.here hx rfl (hb hby at_470) kz) ?_
   refine own_s (g' := (mkF m 475 (own_Lown_tail_0 sl0 sl1 sl2 sl3 sl4 sl5 sl6 aT sl8 sl9 aS rr (.val (.int 4)) (.val (.int 1))) [(.int 1)])) (fun _ kz => XS.goto X151.here hx rfl (pc0 := 471) (pc' := 475) rfl (hb hby at_471) (by decide) (by decide) kz) ?_
   refine own_s (g' := (mkF m 477 (own_Lown_tail_0 sl0 sl1 sl2 sl3 sl4 sl5 sl6 aT sl8 sl9 aS rr (.val (.int 4)) (.val (.int 1))) [])) (fun _ kz => XS.istore X151.here hx rfl (hb hby at_475) rfl (l' := (own_Lown_tail_0 sl0 sl1 sl2 sl3 sl4 sl5 sl6 aT sl8 sl9 aS rr (.val (.int 4)) (.val (.int 1)))) rfl kz) ?_
   refine own_s (g' := (mkF m 479 (own_Lown_tail_0 sl0 sl1 sl2 sl3 sl4 sl5 sl6 aT sl8 sl9 aS rr (.val (.int 4)) (.val (.int 1))) [(.int 1)])) (fun _ kz => XS.iload X151.here hx rfl (hb hby at_477) rfl kz) ?_
   refine own_s (g' := (mkF m 482 (own_Lown_tail_0 sl0 sl1 sl2 sl3 sl4 sl5 sl6 aT sl8 sl9 aS rr (.val (.int 4)) (.val (.int 1))) [])) (fun _ kz => XS.ifNo X151.here hx rfl (hb hby at_479) rfl ((if0 _ _).trans (feq ((by decide) : ¬ (1 : Int32) = (0 : Int32))).1) kz) ?_
   refine own_s (g' := (mkF m 484 (own_Lown_tail_0 sl0 sl1 sl2 sl3 sl4 sl5 sl6 aT sl8 sl9 aS rr (.val (.int 4)) (.val (.int 1))) [(.int 4)])) (fun _ kz => XS.iload X151.here hx rfl (hb hby at_482) rfl kz) ?_
   refine own_s (g' := (mkF m 485 (own_Lown_tail_0 sl0 sl1 sl2 sl3 sl4 sl5 sl6 aT sl8 sl9 aS rr (.val (.int 4)) (.val (.int 1))) [(.int 5), (.int 4)])) (fun _ kz => XS.iconst X151.here hx rfl (hb hby at_484) kz) ?_
   refine own_s (g' := (mkF m 502 (own_Lown_tail_0 sl0 sl1 sl2 sl3 sl4 sl5 sl6 aT sl8 sl9 aS rr (.val (.int 4)) (.val (.int 1))) [])) (fun _ kz => XS.icmpYes X151.here hx rfl (pc0 := 485) (pc' := 502) rfl (hb hby at_485) rfl (tlt ((by decide) : (4 : Int32) < (5 : Int32))).1 (by decide) (by decide) kz) ?_
   refine own_s (g' := (mkF m 503 (own_Lown_tail_0 sl0 sl1 sl2 sl3 sl4 sl5 sl6 aT sl8 sl9 aS rr (.val (.int 4)) (.val (.int 1))) [(.int 1)])) (fun _ kz => XS.iconst X151.here hx rfl (hb hby at_502) kz) ?_
   refine own_s (g' := (mkF m 507 (own_Lown_tail_0 sl0 sl1 sl2 sl3 sl4 sl5 sl6 aT sl8 sl9 aS rr (.val (.int 4)) (.val (.int 1))) [(.int 1)])) (fun _ kz => XS.goto X151.here hx rfl (pc0 := 503) (pc' := 507) rfl (hb hby at_503) (by decide) (by decide) kz) ?_
   refine own_s (g' := (mkF m 509 (own_Lown_tail_0 sl0 sl1 sl2 sl3 sl4 sl5 sl6 aT sl8 sl9 aS rr (.val (.int 4)) (.val (.int 1))) [])) (fun _ kz => XS.istore X151.here hx rfl (hb hby at_507) rfl (l' := (own_Lown_tail_0 sl0 sl1 sl2 sl3 sl4 sl5 sl6 aT sl8 sl9 aS rr (.val (.int 4)) (.val (.int 1)))) rfl kz) ?_
   refine own_s (g' := (mkF m 511 (own_Lown_tail_0 sl0 sl1 sl2 sl3 sl4 sl5 sl6 aT sl8 sl9 aS rr (.val (.int 4)) (.val (.int 1))) [(.int 1)])) (fun _ kz => XS.iload X151.here hx rfl (hb hby at_509) rfl kz) ?_
   refine own_retN X151 hx hlk (t := .boolean) hret (by simp) (hb hby at_511) (z' := (1 : Int32)) (by decide) (by decide) (by decide) ?_
   exact ⟨rfl, N151⟩
def own_e (d a : Int32) : Nat := if a = d then 1 else 0
def own_c5 (d a b c e f : Int32) : Nat := own_e d a + own_e d b + own_e d c + own_e d e + own_e d f
def own_cnts (n : Nat) (t0 t1 t2 t3 t4 : Int32) : List Int32 := (List.range n).map fun d => Int32.ofNat (own_c5 (Int32.ofNat d) t0 t1 t2 t3 t4)
def own_chk (n : Nat) (t0 t1 t2 t3 t4 lg : Int32) : Bool :=
  match own_out (own_cnts n t0 t1 t2 t3 t4) (Int32.ofNat n) (lg + (1 : Int32)) 7 (1 : Int32) (lg + (1 : Int32)) (0 : Int32) (0 : Int64) (Int32.ofNat n) (0 : Int64) (List.replicate (lg + (1 : Int32)).toNatClampNeg (0 : Int64)) with
  | none => false
  | some (rr, sx) => own_okB t0 t1 t2 t3 t4 rr (lg + (1 : Int32)) sx
def own_fo (k : Nat) (P : Nat → Bool) : Bool := (List.range k).all P
theorem own_foE {k : Nat} {P : Nat → Bool} (h : own_fo k P = true) {a : Nat} (ha : a < k) : P a = true := List.all_eq_true.mp h a (List.mem_range.mpr ha)
theorem own_of (t : Int32) (n : Nat) (h0 : 0 ≤ t.toInt) (h1 : t.toInt < n) (hn : n < 100) : ∃ a : Nat, a < n ∧ t = Int32.ofNat a ∧ t.toInt = (a : Int) := by
  refine ⟨t.toInt.toNat, by omega, ?_, by omega⟩
  refine Int32.toInt_inj.mp ?_
  rw [Int32.toInt_ofNat_small (by omega)]
  omega
def own_le (a b : Int32) : Bool := decide (a.toInt ≤ b.toInt)
def own_pB (n : Nat) (t0 t1 t2 t3 t4 : Int32) (cs : List Int32) : Bool := decide (cs = own_cnts n t0 t1 t2 t3 t4) && own_le 0 t0 && decide (t0.toInt < n) && own_le t1 t0 && own_le t2 t1 && own_le t3 t2 && own_le t4 t3 && (decide (t4.toInt = -1) || decide (n = 5)) && (decide (t3.toInt = -1) || decide (4 ≤ n)) && (decide (t2.toInt = -1) || decide (3 ≤ n)) && (decide (t1.toInt = -1) || decide (2 ≤ n)) && (decide (4 < n → 0 ≤ t4.toInt)) && (decide (3 < n → 0 ≤ t3.toInt)) && (decide (2 < n → 0 ≤ t2.toInt)) && (decide (1 < n → 0 ≤ t1.toInt))
def own_run1 (u0 : Int32) : Bool := let cs0 : List Int32 := ([0] : List Int32); let cs1 : List Int32 := (cs0.set u0.toNatClampNeg ((cs0.getD u0.toNatClampNeg 0) + (1 : Int32))); let sa0 : Int32 := (w2p01_a2_0_0 u0 (-1 : Int32)); let sa1 : Int32 := (w2p01_a2_0_1 u0 (-1 : Int32)); let sb3 : Int32 := (w2p34_a2_0_3 (-1 : Int32) (-1 : Int32)); let sb4 : Int32 := (w2p34_a2_0_4 (-1 : Int32) (-1 : Int32)); let sc2 : Int32 := (w2p24_a2_0_2 (-1 : Int32) sb4); let sc4 : Int32 := (w2p24_a2_0_4 (-1 : Int32) sb4); let sd2 : Int32 := (w2p23_a2_0_2 sc2 sb3); let sd3 : Int32 := (w2p23_a2_0_3 sc2 sb3); let se1 : Int32 := (w2p14_a2_0_1 sa1 sc4); let se4 : Int32 := (w2p14_a2_0_4 sa1 sc4); let sf0 : Int32 := (w2p03_a2_0_0 sa0 sd3); let sf3 : Int32 := (w2p03_a2_0_3 sa0 sd3); let sg0 : Int32 := (w2p02_a2_0_0 sf0 sd2); let sg2 : Int32 := (w2p02_a2_0_2 sf0 sd2); let sh1 : Int32 := (w2p13_a2_0_1 se1 sf3); let sh3 : Int32 := (w2p13_a2_0_3 se1 sf3); let si1 : Int32 := (w2p12_a2_0_1 sh1 sg2); let si2 : Int32 := (w2p12_a2_0_2 sh1 sg2); own_pB 1 sg0 si1 si2 sh3 se4 cs1
set_option maxRecDepth 65536 in
theorem own_u1 : (own_fo 1 fun a0 => own_run1 (Int32.ofNat a0)) = true := by decide +kernel
theorem own_net1 (u0 : Int32) (cs0 : List Int32) (cs1 : List Int32) (sa0 : Int32) (sa1 : Int32) (sb3 : Int32) (sb4 : Int32) (sc2 : Int32) (sc4 : Int32) (sd2 : Int32) (sd3 : Int32) (se1 : Int32) (se4 : Int32) (sf0 : Int32) (sf3 : Int32) (sg0 : Int32) (sg2 : Int32) (sh1 : Int32) (sh3 : Int32) (si1 : Int32) (si2 : Int32) (hcs0 : cs0 = ([0] : List Int32)) (hcs1 : cs1 = (cs0.set u0.toNatClampNeg ((cs0.getD u0.toNatClampNeg 0) + (1 : Int32)))) (hsa0 : sa0 = (w2p01_a2_0_0 u0 (-1 : Int32))) (hsa1 : sa1 = (w2p01_a2_0_1 u0 (-1 : Int32))) (hsb3 : sb3 = (w2p34_a2_0_3 (-1 : Int32) (-1 : Int32))) (hsb4 : sb4 = (w2p34_a2_0_4 (-1 : Int32) (-1 : Int32))) (hsc2 : sc2 = (w2p24_a2_0_2 (-1 : Int32) sb4)) (hsc4 : sc4 = (w2p24_a2_0_4 (-1 : Int32) sb4)) (hsd2 : sd2 = (w2p23_a2_0_2 sc2 sb3)) (hsd3 : sd3 = (w2p23_a2_0_3 sc2 sb3)) (hse1 : se1 = (w2p14_a2_0_1 sa1 sc4)) (hse4 : se4 = (w2p14_a2_0_4 sa1 sc4)) (hsf0 : sf0 = (w2p03_a2_0_0 sa0 sd3)) (hsf3 : sf3 = (w2p03_a2_0_3 sa0 sd3)) (hsg0 : sg0 = (w2p02_a2_0_0 sf0 sd2)) (hsg2 : sg2 = (w2p02_a2_0_2 sf0 sd2)) (hsh1 : sh1 = (w2p13_a2_0_1 se1 sf3)) (hsh3 : sh3 = (w2p13_a2_0_3 se1 sf3)) (hsi1 : si1 = (w2p12_a2_0_1 sh1 sg2)) (hsi2 : si2 = (w2p12_a2_0_2 sh1 sg2)) (b0 : 0 ≤ u0.toInt ∧ u0.toInt < 1) : own_pB 1 sg0 si1 si2 sh3 se4 cs1 = true := by
  subst hsi2 hsi1 hsh3 hsh1 hsg2 hsg0 hsf3 hsf0 hse4 hse1 hsd3 hsd2 hsc4 hsc2 hsb4 hsb3 hsa1 hsa0 hcs1 hcs0
  obtain ⟨a0, ha0, hu0, -⟩ := own_of u0 1 b0.1 b0.2 (by decide)
  obtain rfl := hu0
  exact (own_foE own_u1 ha0)
set_option maxRecDepth 65536 in
theorem own_t1 : (own_fo 1 fun a => own_fo (1 - a) fun g => own_chk 1 (Int32.ofNat a) (-1) (-1) (-1) (-1) (Int32.ofNat (a + g))) = true := by decide +kernel
def own_run2 (u0 u1 : Int32) : Bool := let cs0 : List Int32 := ([0, 0] : List Int32); let cs1 : List Int32 := (cs0.set u0.toNatClampNeg ((cs0.getD u0.toNatClampNeg 0) + (1 : Int32))); let cs2 : List Int32 := (cs1.set u1.toNatClampNeg ((cs1.getD u1.toNatClampNeg 0) + (1 : Int32))); let sa0 : Int32 := (w2p01_a2_0_0 u0 u1); let sa1 : Int32 := (w2p01_a2_0_1 u0 u1); let sb3 : Int32 := (w2p34_a2_0_3 (-1 : Int32) (-1 : Int32)); let sb4 : Int32 := (w2p34_a2_0_4 (-1 : Int32) (-1 : Int32)); let sc2 : Int32 := (w2p24_a2_0_2 (-1 : Int32) sb4); let sc4 : Int32 := (w2p24_a2_0_4 (-1 : Int32) sb4); let sd2 : Int32 := (w2p23_a2_0_2 sc2 sb3); let sd3 : Int32 := (w2p23_a2_0_3 sc2 sb3); let se1 : Int32 := (w2p14_a2_0_1 sa1 sc4); let se4 : Int32 := (w2p14_a2_0_4 sa1 sc4); let sf0 : Int32 := (w2p03_a2_0_0 sa0 sd3); let sf3 : Int32 := (w2p03_a2_0_3 sa0 sd3); let sg0 : Int32 := (w2p02_a2_0_0 sf0 sd2); let sg2 : Int32 := (w2p02_a2_0_2 sf0 sd2); let sh1 : Int32 := (w2p13_a2_0_1 se1 sf3); let sh3 : Int32 := (w2p13_a2_0_3 se1 sf3); let si1 : Int32 := (w2p12_a2_0_1 sh1 sg2); let si2 : Int32 := (w2p12_a2_0_2 sh1 sg2); own_pB 2 sg0 si1 si2 sh3 se4 cs2
set_option maxRecDepth 65536 in
theorem own_u2 : (own_fo 2 fun a0 => own_fo 2 fun a1 => own_run2 (Int32.ofNat a0) (Int32.ofNat a1)) = true := by decide +kernel
theorem own_net2 (u0 u1 : Int32) (cs0 : List Int32) (cs1 : List Int32) (cs2 : List Int32) (sa0 : Int32) (sa1 : Int32) (sb3 : Int32) (sb4 : Int32) (sc2 : Int32) (sc4 : Int32) (sd2 : Int32) (sd3 : Int32) (se1 : Int32) (se4 : Int32) (sf0 : Int32) (sf3 : Int32) (sg0 : Int32) (sg2 : Int32) (sh1 : Int32) (sh3 : Int32) (si1 : Int32) (si2 : Int32) (hcs0 : cs0 = ([0, 0] : List Int32)) (hcs1 : cs1 = (cs0.set u0.toNatClampNeg ((cs0.getD u0.toNatClampNeg 0) + (1 : Int32)))) (hcs2 : cs2 = (cs1.set u1.toNatClampNeg ((cs1.getD u1.toNatClampNeg 0) + (1 : Int32)))) (hsa0 : sa0 = (w2p01_a2_0_0 u0 u1)) (hsa1 : sa1 = (w2p01_a2_0_1 u0 u1)) (hsb3 : sb3 = (w2p34_a2_0_3 (-1 : Int32) (-1 : Int32))) (hsb4 : sb4 = (w2p34_a2_0_4 (-1 : Int32) (-1 : Int32))) (hsc2 : sc2 = (w2p24_a2_0_2 (-1 : Int32) sb4)) (hsc4 : sc4 = (w2p24_a2_0_4 (-1 : Int32) sb4)) (hsd2 : sd2 = (w2p23_a2_0_2 sc2 sb3)) (hsd3 : sd3 = (w2p23_a2_0_3 sc2 sb3)) (hse1 : se1 = (w2p14_a2_0_1 sa1 sc4)) (hse4 : se4 = (w2p14_a2_0_4 sa1 sc4)) (hsf0 : sf0 = (w2p03_a2_0_0 sa0 sd3)) (hsf3 : sf3 = (w2p03_a2_0_3 sa0 sd3)) (hsg0 : sg0 = (w2p02_a2_0_0 sf0 sd2)) (hsg2 : sg2 = (w2p02_a2_0_2 sf0 sd2)) (hsh1 : sh1 = (w2p13_a2_0_1 se1 sf3)) (hsh3 : sh3 = (w2p13_a2_0_3 se1 sf3)) (hsi1 : si1 = (w2p12_a2_0_1 sh1 sg2)) (hsi2 : si2 = (w2p12_a2_0_2 sh1 sg2)) (b0 : 0 ≤ u0.toInt ∧ u0.toInt < 2) (b1 : 0 ≤ u1.toInt ∧ u1.toInt < 2) : own_pB 2 sg0 si1 si2 sh3 se4 cs2 = true := by
  subst hsi2 hsi1 hsh3 hsh1 hsg2 hsg0 hsf3 hsf0 hse4 hse1 hsd3 hsd2 hsc4 hsc2 hsb4 hsb3 hsa1 hsa0 hcs2 hcs1 hcs0
  obtain ⟨a0, ha0, hu0, -⟩ := own_of u0 2 b0.1 b0.2 (by decide)
  obtain ⟨a1, ha1, hu1, -⟩ := own_of u1 2 b1.1 b1.2 (by decide)
  obtain ⟨rfl, rfl⟩ := (⟨hu0, hu1⟩ : u0 = Int32.ofNat a0 ∧ u1 = Int32.ofNat a1)
  exact (own_foE (own_foE own_u2 ha0) ha1)
set_option maxRecDepth 65536 in
theorem own_t2 : (own_fo 2 fun a => own_fo (a + 1) fun b => own_fo (2 - a) fun g => own_chk 2 (Int32.ofNat a) (Int32.ofNat b) (-1) (-1) (-1) (Int32.ofNat (a + g))) = true := by decide +kernel
def own_run3 (u0 u1 u2 : Int32) : Bool := let cs0 : List Int32 := ([0, 0, 0] : List Int32); let cs1 : List Int32 := (cs0.set u0.toNatClampNeg ((cs0.getD u0.toNatClampNeg 0) + (1 : Int32))); let cs2 : List Int32 := (cs1.set u1.toNatClampNeg ((cs1.getD u1.toNatClampNeg 0) + (1 : Int32))); let cs3 : List Int32 := (cs2.set u2.toNatClampNeg ((cs2.getD u2.toNatClampNeg 0) + (1 : Int32))); let sa0 : Int32 := (w2p01_a2_0_0 u0 u1); let sa1 : Int32 := (w2p01_a2_0_1 u0 u1); let sb3 : Int32 := (w2p34_a2_0_3 (-1 : Int32) (-1 : Int32)); let sb4 : Int32 := (w2p34_a2_0_4 (-1 : Int32) (-1 : Int32)); let sc2 : Int32 := (w2p24_a2_0_2 u2 sb4); let sc4 : Int32 := (w2p24_a2_0_4 u2 sb4); let sd2 : Int32 := (w2p23_a2_0_2 sc2 sb3); let sd3 : Int32 := (w2p23_a2_0_3 sc2 sb3); let se1 : Int32 := (w2p14_a2_0_1 sa1 sc4); let se4 : Int32 := (w2p14_a2_0_4 sa1 sc4); let sf0 : Int32 := (w2p03_a2_0_0 sa0 sd3); let sf3 : Int32 := (w2p03_a2_0_3 sa0 sd3); let sg0 : Int32 := (w2p02_a2_0_0 sf0 sd2); let sg2 : Int32 := (w2p02_a2_0_2 sf0 sd2); let sh1 : Int32 := (w2p13_a2_0_1 se1 sf3); let sh3 : Int32 := (w2p13_a2_0_3 se1 sf3); let si1 : Int32 := (w2p12_a2_0_1 sh1 sg2); let si2 : Int32 := (w2p12_a2_0_2 sh1 sg2); own_pB 3 sg0 si1 si2 sh3 se4 cs3
set_option maxRecDepth 65536 in
theorem own_u3 : (own_fo 3 fun a0 => own_fo 3 fun a1 => own_fo 3 fun a2 => own_run3 (Int32.ofNat a0) (Int32.ofNat a1) (Int32.ofNat a2)) = true := by decide +kernel
theorem own_net3 (u0 u1 u2 : Int32) (cs0 : List Int32) (cs1 : List Int32) (cs2 : List Int32) (cs3 : List Int32) (sa0 : Int32) (sa1 : Int32) (sb3 : Int32) (sb4 : Int32) (sc2 : Int32) (sc4 : Int32) (sd2 : Int32) (sd3 : Int32) (se1 : Int32) (se4 : Int32) (sf0 : Int32) (sf3 : Int32) (sg0 : Int32) (sg2 : Int32) (sh1 : Int32) (sh3 : Int32) (si1 : Int32) (si2 : Int32) (hcs0 : cs0 = ([0, 0, 0] : List Int32)) (hcs1 : cs1 = (cs0.set u0.toNatClampNeg ((cs0.getD u0.toNatClampNeg 0) + (1 : Int32)))) (hcs2 : cs2 = (cs1.set u1.toNatClampNeg ((cs1.getD u1.toNatClampNeg 0) + (1 : Int32)))) (hcs3 : cs3 = (cs2.set u2.toNatClampNeg ((cs2.getD u2.toNatClampNeg 0) + (1 : Int32)))) (hsa0 : sa0 = (w2p01_a2_0_0 u0 u1)) (hsa1 : sa1 = (w2p01_a2_0_1 u0 u1)) (hsb3 : sb3 = (w2p34_a2_0_3 (-1 : Int32) (-1 : Int32))) (hsb4 : sb4 = (w2p34_a2_0_4 (-1 : Int32) (-1 : Int32))) (hsc2 : sc2 = (w2p24_a2_0_2 u2 sb4)) (hsc4 : sc4 = (w2p24_a2_0_4 u2 sb4)) (hsd2 : sd2 = (w2p23_a2_0_2 sc2 sb3)) (hsd3 : sd3 = (w2p23_a2_0_3 sc2 sb3)) (hse1 : se1 = (w2p14_a2_0_1 sa1 sc4)) (hse4 : se4 = (w2p14_a2_0_4 sa1 sc4)) (hsf0 : sf0 = (w2p03_a2_0_0 sa0 sd3)) (hsf3 : sf3 = (w2p03_a2_0_3 sa0 sd3)) (hsg0 : sg0 = (w2p02_a2_0_0 sf0 sd2)) (hsg2 : sg2 = (w2p02_a2_0_2 sf0 sd2)) (hsh1 : sh1 = (w2p13_a2_0_1 se1 sf3)) (hsh3 : sh3 = (w2p13_a2_0_3 se1 sf3)) (hsi1 : si1 = (w2p12_a2_0_1 sh1 sg2)) (hsi2 : si2 = (w2p12_a2_0_2 sh1 sg2)) (b0 : 0 ≤ u0.toInt ∧ u0.toInt < 3) (b1 : 0 ≤ u1.toInt ∧ u1.toInt < 3) (b2 : 0 ≤ u2.toInt ∧ u2.toInt < 3) : own_pB 3 sg0 si1 si2 sh3 se4 cs3 = true := by
  subst hsi2 hsi1 hsh3 hsh1 hsg2 hsg0 hsf3 hsf0 hse4 hse1 hsd3 hsd2 hsc4 hsc2 hsb4 hsb3 hsa1 hsa0 hcs3 hcs2 hcs1 hcs0
  obtain ⟨a0, ha0, hu0, -⟩ := own_of u0 3 b0.1 b0.2 (by decide)
  obtain ⟨a1, ha1, hu1, -⟩ := own_of u1 3 b1.1 b1.2 (by decide)
  obtain ⟨a2, ha2, hu2, -⟩ := own_of u2 3 b2.1 b2.2 (by decide)
  obtain ⟨rfl, rfl, rfl⟩ := (⟨hu0, hu1, hu2⟩ : u0 = Int32.ofNat a0 ∧ u1 = Int32.ofNat a1 ∧ u2 = Int32.ofNat a2)
  exact (own_foE (own_foE (own_foE own_u3 ha0) ha1) ha2)
set_option maxRecDepth 65536 in
theorem own_t3 : (own_fo 3 fun a => own_fo (a + 1) fun b => own_fo (b + 1) fun c => own_fo (3 - a) fun g => own_chk 3 (Int32.ofNat a) (Int32.ofNat b) (Int32.ofNat c) (-1) (-1) (Int32.ofNat (a + g))) = true := by decide +kernel
def own_run4 (u0 u1 u2 u3 : Int32) : Bool := let cs0 : List Int32 := ([0, 0, 0, 0] : List Int32); let cs1 : List Int32 := (cs0.set u0.toNatClampNeg ((cs0.getD u0.toNatClampNeg 0) + (1 : Int32))); let cs2 : List Int32 := (cs1.set u1.toNatClampNeg ((cs1.getD u1.toNatClampNeg 0) + (1 : Int32))); let cs3 : List Int32 := (cs2.set u2.toNatClampNeg ((cs2.getD u2.toNatClampNeg 0) + (1 : Int32))); let cs4 : List Int32 := (cs3.set u3.toNatClampNeg ((cs3.getD u3.toNatClampNeg 0) + (1 : Int32))); let sa0 : Int32 := (w2p01_a2_0_0 u0 u1); let sa1 : Int32 := (w2p01_a2_0_1 u0 u1); let sb3 : Int32 := (w2p34_a2_0_3 u3 (-1 : Int32)); let sb4 : Int32 := (w2p34_a2_0_4 u3 (-1 : Int32)); let sc2 : Int32 := (w2p24_a2_0_2 u2 sb4); let sc4 : Int32 := (w2p24_a2_0_4 u2 sb4); let sd2 : Int32 := (w2p23_a2_0_2 sc2 sb3); let sd3 : Int32 := (w2p23_a2_0_3 sc2 sb3); let se1 : Int32 := (w2p14_a2_0_1 sa1 sc4); let se4 : Int32 := (w2p14_a2_0_4 sa1 sc4); let sf0 : Int32 := (w2p03_a2_0_0 sa0 sd3); let sf3 : Int32 := (w2p03_a2_0_3 sa0 sd3); let sg0 : Int32 := (w2p02_a2_0_0 sf0 sd2); let sg2 : Int32 := (w2p02_a2_0_2 sf0 sd2); let sh1 : Int32 := (w2p13_a2_0_1 se1 sf3); let sh3 : Int32 := (w2p13_a2_0_3 se1 sf3); let si1 : Int32 := (w2p12_a2_0_1 sh1 sg2); let si2 : Int32 := (w2p12_a2_0_2 sh1 sg2); own_pB 4 sg0 si1 si2 sh3 se4 cs4
set_option maxRecDepth 65536 in
theorem own_u4 : (own_fo 4 fun a0 => own_fo 4 fun a1 => own_fo 4 fun a2 => own_fo 4 fun a3 => own_run4 (Int32.ofNat a0) (Int32.ofNat a1) (Int32.ofNat a2) (Int32.ofNat a3)) = true := by decide +kernel
theorem own_net4 (u0 u1 u2 u3 : Int32) (cs0 : List Int32) (cs1 : List Int32) (cs2 : List Int32) (cs3 : List Int32) (cs4 : List Int32) (sa0 : Int32) (sa1 : Int32) (sb3 : Int32) (sb4 : Int32) (sc2 : Int32) (sc4 : Int32) (sd2 : Int32) (sd3 : Int32) (se1 : Int32) (se4 : Int32) (sf0 : Int32) (sf3 : Int32) (sg0 : Int32) (sg2 : Int32) (sh1 : Int32) (sh3 : Int32) (si1 : Int32) (si2 : Int32) (hcs0 : cs0 = ([0, 0, 0, 0] : List Int32)) (hcs1 : cs1 = (cs0.set u0.toNatClampNeg ((cs0.getD u0.toNatClampNeg 0) + (1 : Int32)))) (hcs2 : cs2 = (cs1.set u1.toNatClampNeg ((cs1.getD u1.toNatClampNeg 0) + (1 : Int32)))) (hcs3 : cs3 = (cs2.set u2.toNatClampNeg ((cs2.getD u2.toNatClampNeg 0) + (1 : Int32)))) (hcs4 : cs4 = (cs3.set u3.toNatClampNeg ((cs3.getD u3.toNatClampNeg 0) + (1 : Int32)))) (hsa0 : sa0 = (w2p01_a2_0_0 u0 u1)) (hsa1 : sa1 = (w2p01_a2_0_1 u0 u1)) (hsb3 : sb3 = (w2p34_a2_0_3 u3 (-1 : Int32))) (hsb4 : sb4 = (w2p34_a2_0_4 u3 (-1 : Int32))) (hsc2 : sc2 = (w2p24_a2_0_2 u2 sb4)) (hsc4 : sc4 = (w2p24_a2_0_4 u2 sb4)) (hsd2 : sd2 = (w2p23_a2_0_2 sc2 sb3)) (hsd3 : sd3 = (w2p23_a2_0_3 sc2 sb3)) (hse1 : se1 = (w2p14_a2_0_1 sa1 sc4)) (hse4 : se4 = (w2p14_a2_0_4 sa1 sc4)) (hsf0 : sf0 = (w2p03_a2_0_0 sa0 sd3)) (hsf3 : sf3 = (w2p03_a2_0_3 sa0 sd3)) (hsg0 : sg0 = (w2p02_a2_0_0 sf0 sd2)) (hsg2 : sg2 = (w2p02_a2_0_2 sf0 sd2)) (hsh1 : sh1 = (w2p13_a2_0_1 se1 sf3)) (hsh3 : sh3 = (w2p13_a2_0_3 se1 sf3)) (hsi1 : si1 = (w2p12_a2_0_1 sh1 sg2)) (hsi2 : si2 = (w2p12_a2_0_2 sh1 sg2)) (b0 : 0 ≤ u0.toInt ∧ u0.toInt < 4) (b1 : 0 ≤ u1.toInt ∧ u1.toInt < 4) (b2 : 0 ≤ u2.toInt ∧ u2.toInt < 4) (b3 : 0 ≤ u3.toInt ∧ u3.toInt < 4) : own_pB 4 sg0 si1 si2 sh3 se4 cs4 = true := by
  subst hsi2 hsi1 hsh3 hsh1 hsg2 hsg0 hsf3 hsf0 hse4 hse1 hsd3 hsd2 hsc4 hsc2 hsb4 hsb3 hsa1 hsa0 hcs4 hcs3 hcs2 hcs1 hcs0
  obtain ⟨a0, ha0, hu0, -⟩ := own_of u0 4 b0.1 b0.2 (by decide)
  obtain ⟨a1, ha1, hu1, -⟩ := own_of u1 4 b1.1 b1.2 (by decide)
  obtain ⟨a2, ha2, hu2, -⟩ := own_of u2 4 b2.1 b2.2 (by decide)
  obtain ⟨a3, ha3, hu3, -⟩ := own_of u3 4 b3.1 b3.2 (by decide)
  obtain ⟨rfl, rfl, rfl, rfl⟩ := (⟨hu0, hu1, hu2, hu3⟩ : u0 = Int32.ofNat a0 ∧ u1 = Int32.ofNat a1 ∧ u2 = Int32.ofNat a2 ∧ u3 = Int32.ofNat a3)
  exact (own_foE (own_foE (own_foE (own_foE own_u4 ha0) ha1) ha2) ha3)
set_option maxRecDepth 65536 in
theorem own_t4 : (own_fo 4 fun a => own_fo (a + 1) fun b => own_fo (b + 1) fun c => own_fo (c + 1) fun d => own_fo (4 - a) fun g => own_chk 4 (Int32.ofNat a) (Int32.ofNat b) (Int32.ofNat c) (Int32.ofNat d) (-1) (Int32.ofNat (a + g))) = true := by decide +kernel
def own_run5 (u0 u1 u2 u3 u4 : Int32) : Bool := let cs0 : List Int32 := ([0, 0, 0, 0, 0] : List Int32); let cs1 : List Int32 := (cs0.set u0.toNatClampNeg ((cs0.getD u0.toNatClampNeg 0) + (1 : Int32))); let cs2 : List Int32 := (cs1.set u1.toNatClampNeg ((cs1.getD u1.toNatClampNeg 0) + (1 : Int32))); let cs3 : List Int32 := (cs2.set u2.toNatClampNeg ((cs2.getD u2.toNatClampNeg 0) + (1 : Int32))); let cs4 : List Int32 := (cs3.set u3.toNatClampNeg ((cs3.getD u3.toNatClampNeg 0) + (1 : Int32))); let cs5 : List Int32 := (cs4.set u4.toNatClampNeg ((cs4.getD u4.toNatClampNeg 0) + (1 : Int32))); let sa0 : Int32 := (w2p01_a2_0_0 u0 u1); let sa1 : Int32 := (w2p01_a2_0_1 u0 u1); let sb3 : Int32 := (w2p34_a2_0_3 u3 u4); let sb4 : Int32 := (w2p34_a2_0_4 u3 u4); let sc2 : Int32 := (w2p24_a2_0_2 u2 sb4); let sc4 : Int32 := (w2p24_a2_0_4 u2 sb4); let sd2 : Int32 := (w2p23_a2_0_2 sc2 sb3); let sd3 : Int32 := (w2p23_a2_0_3 sc2 sb3); let se1 : Int32 := (w2p14_a2_0_1 sa1 sc4); let se4 : Int32 := (w2p14_a2_0_4 sa1 sc4); let sf0 : Int32 := (w2p03_a2_0_0 sa0 sd3); let sf3 : Int32 := (w2p03_a2_0_3 sa0 sd3); let sg0 : Int32 := (w2p02_a2_0_0 sf0 sd2); let sg2 : Int32 := (w2p02_a2_0_2 sf0 sd2); let sh1 : Int32 := (w2p13_a2_0_1 se1 sf3); let sh3 : Int32 := (w2p13_a2_0_3 se1 sf3); let si1 : Int32 := (w2p12_a2_0_1 sh1 sg2); let si2 : Int32 := (w2p12_a2_0_2 sh1 sg2); own_pB 5 sg0 si1 si2 sh3 se4 cs5
set_option maxRecDepth 65536 in
theorem own_u5 : (own_fo 5 fun a0 => own_fo 5 fun a1 => own_fo 5 fun a2 => own_fo 5 fun a3 => own_fo 5 fun a4 => own_run5 (Int32.ofNat a0) (Int32.ofNat a1) (Int32.ofNat a2) (Int32.ofNat a3) (Int32.ofNat a4)) = true := by decide +kernel
theorem own_net5 (u0 u1 u2 u3 u4 : Int32) (cs0 : List Int32) (cs1 : List Int32) (cs2 : List Int32) (cs3 : List Int32) (cs4 : List Int32) (cs5 : List Int32) (sa0 : Int32) (sa1 : Int32) (sb3 : Int32) (sb4 : Int32) (sc2 : Int32) (sc4 : Int32) (sd2 : Int32) (sd3 : Int32) (se1 : Int32) (se4 : Int32) (sf0 : Int32) (sf3 : Int32) (sg0 : Int32) (sg2 : Int32) (sh1 : Int32) (sh3 : Int32) (si1 : Int32) (si2 : Int32) (hcs0 : cs0 = ([0, 0, 0, 0, 0] : List Int32)) (hcs1 : cs1 = (cs0.set u0.toNatClampNeg ((cs0.getD u0.toNatClampNeg 0) + (1 : Int32)))) (hcs2 : cs2 = (cs1.set u1.toNatClampNeg ((cs1.getD u1.toNatClampNeg 0) + (1 : Int32)))) (hcs3 : cs3 = (cs2.set u2.toNatClampNeg ((cs2.getD u2.toNatClampNeg 0) + (1 : Int32)))) (hcs4 : cs4 = (cs3.set u3.toNatClampNeg ((cs3.getD u3.toNatClampNeg 0) + (1 : Int32)))) (hcs5 : cs5 = (cs4.set u4.toNatClampNeg ((cs4.getD u4.toNatClampNeg 0) + (1 : Int32)))) (hsa0 : sa0 = (w2p01_a2_0_0 u0 u1)) (hsa1 : sa1 = (w2p01_a2_0_1 u0 u1)) (hsb3 : sb3 = (w2p34_a2_0_3 u3 u4)) (hsb4 : sb4 = (w2p34_a2_0_4 u3 u4)) (hsc2 : sc2 = (w2p24_a2_0_2 u2 sb4)) (hsc4 : sc4 = (w2p24_a2_0_4 u2 sb4)) (hsd2 : sd2 = (w2p23_a2_0_2 sc2 sb3)) (hsd3 : sd3 = (w2p23_a2_0_3 sc2 sb3)) (hse1 : se1 = (w2p14_a2_0_1 sa1 sc4)) (hse4 : se4 = (w2p14_a2_0_4 sa1 sc4)) (hsf0 : sf0 = (w2p03_a2_0_0 sa0 sd3)) (hsf3 : sf3 = (w2p03_a2_0_3 sa0 sd3)) (hsg0 : sg0 = (w2p02_a2_0_0 sf0 sd2)) (hsg2 : sg2 = (w2p02_a2_0_2 sf0 sd2)) (hsh1 : sh1 = (w2p13_a2_0_1 se1 sf3)) (hsh3 : sh3 = (w2p13_a2_0_3 se1 sf3)) (hsi1 : si1 = (w2p12_a2_0_1 sh1 sg2)) (hsi2 : si2 = (w2p12_a2_0_2 sh1 sg2)) (b0 : 0 ≤ u0.toInt ∧ u0.toInt < 5) (b1 : 0 ≤ u1.toInt ∧ u1.toInt < 5) (b2 : 0 ≤ u2.toInt ∧ u2.toInt < 5) (b3 : 0 ≤ u3.toInt ∧ u3.toInt < 5) (b4 : 0 ≤ u4.toInt ∧ u4.toInt < 5) : own_pB 5 sg0 si1 si2 sh3 se4 cs5 = true := by
  subst hsi2 hsi1 hsh3 hsh1 hsg2 hsg0 hsf3 hsf0 hse4 hse1 hsd3 hsd2 hsc4 hsc2 hsb4 hsb3 hsa1 hsa0 hcs5 hcs4 hcs3 hcs2 hcs1 hcs0
  obtain ⟨a0, ha0, hu0, -⟩ := own_of u0 5 b0.1 b0.2 (by decide)
  obtain ⟨a1, ha1, hu1, -⟩ := own_of u1 5 b1.1 b1.2 (by decide)
  obtain ⟨a2, ha2, hu2, -⟩ := own_of u2 5 b2.1 b2.2 (by decide)
  obtain ⟨a3, ha3, hu3, -⟩ := own_of u3 5 b3.1 b3.2 (by decide)
  obtain ⟨a4, ha4, hu4, -⟩ := own_of u4 5 b4.1 b4.2 (by decide)
  obtain ⟨rfl, rfl, rfl, rfl, rfl⟩ := (⟨hu0, hu1, hu2, hu3, hu4⟩ : u0 = Int32.ofNat a0 ∧ u1 = Int32.ofNat a1 ∧ u2 = Int32.ofNat a2 ∧ u3 = Int32.ofNat a3 ∧ u4 = Int32.ofNat a4)
  exact (own_foE (own_foE (own_foE (own_foE (own_foE own_u5 ha0) ha1) ha2) ha3) ha4)
set_option maxRecDepth 65536 in
theorem own_t5 : (own_fo 5 fun a => own_fo (a + 1) fun b => own_fo (b + 1) fun c => own_fo (c + 1) fun d => own_fo (d + 1) fun e => own_fo (5 - a) fun g => own_chk 5 (Int32.ofNat a) (Int32.ofNat b) (Int32.ofNat c) (Int32.ofNat d) (Int32.ofNat e) (Int32.ofNat (a + g))) = true := by decide +kernel
theorem own_t0 : own_chk 0 (-1) (-1) (-1) (-1) (-1) 0 = true := by decide +kernel
theorem own_pE {n : Nat} {t0 t1 t2 t3 t4 : Int32} {cs : List Int32} (h : own_pB n t0 t1 t2 t3 t4 cs = true) : cs = own_cnts n t0 t1 t2 t3 t4 ∧ 0 ≤ t0.toInt ∧ t0.toInt < n ∧ t1.toInt ≤ t0.toInt ∧ t2.toInt ≤ t1.toInt ∧ t3.toInt ≤ t2.toInt ∧ t4.toInt ≤ t3.toInt ∧ (t4.toInt = -1 ∨ n = 5) ∧ (t3.toInt = -1 ∨ 4 ≤ n) ∧ (t2.toInt = -1 ∨ 3 ≤ n) ∧ (t1.toInt = -1 ∨ 2 ≤ n) ∧ (4 < n → 0 ≤ t4.toInt) ∧ (3 < n → 0 ≤ t3.toInt) ∧ (2 < n → 0 ≤ t2.toInt) ∧ (1 < n → 0 ≤ t1.toInt) := by
  simp only [own_pB, own_le, Bool.and_eq_true, Bool.or_eq_true, decide_eq_true_eq] at h
  obtain ⟨⟨⟨⟨⟨⟨⟨⟨⟨⟨⟨⟨⟨⟨hc, p0⟩, q0⟩, l1⟩, l2⟩, l3⟩, l4⟩, e4⟩, e3⟩, e2⟩, e1⟩, z4⟩, z3⟩, z2⟩, z1⟩ := h
  exact ⟨hc, by have z : (0 : Int32).toInt = 0 := (by decide); omega, q0, l1, l2, l3, l4, e4, e3, e2, e1, z4, z3, z2, z1⟩
theorem own_chkE {n : Nat} {t0 t1 t2 t3 t4 lg : Int32} (h : own_chk n t0 t1 t2 t3 t4 lg = true) : ∃ rr sx, own_out (own_cnts n t0 t1 t2 t3 t4) (Int32.ofNat n) (lg + (1 : Int32)) 7 (1 : Int32) (lg + (1 : Int32)) (0 : Int32) (0 : Int64) (Int32.ofNat n) (0 : Int64) (List.replicate (lg + (1 : Int32)).toNatClampNeg (0 : Int64)) = some (rr, sx) ∧ own_okB t0 t1 t2 t3 t4 rr (lg + (1 : Int32)) sx = true := by
  unfold own_chk at h
  split at h
  · cases h
  · rename_i rr sx ho
    exact ⟨rr, sx, ho, h⟩
theorem own_m1 {t : Int32} (h : t.toInt = -1) : t = (-1 : Int32) := Int32.toInt_inj.mp (h.trans (by decide))
theorem own_fin1 {t0 t1 t2 t3 t4 lg : Int32} {cs : List Int32} (h : own_pB 1 t0 t1 t2 t3 t4 cs = true) (h0 : t0.toInt ≤ lg.toInt) (h1 : lg.toInt < 1) : ∃ rr sx, own_out cs (1 : Int32) (lg + (1 : Int32)) 7 (1 : Int32) (lg + (1 : Int32)) (0 : Int32) (0 : Int64) (1 : Int32) (0 : Int64) (List.replicate (lg + (1 : Int32)).toNatClampNeg (0 : Int64)) = some (rr, sx) ∧ own_okB t0 t1 t2 t3 t4 rr (lg + (1 : Int32)) sx = true := by
  obtain ⟨hcn, p0, q0, l1, l2, l3, l4, e4, e3, e2, e1, z4, z3, z2, z1⟩ := own_pE h
  obtain ⟨a, ha, ea, ia⟩ := own_of t0 1 (by omega) (by omega) (by decide)
  have em1 := own_m1 (t := t1) (by omega)
  have em2 := own_m1 (t := t2) (by omega)
  have em3 := own_m1 (t := t3) (by omega)
  have em4 := own_m1 (t := t4) (by omega)
  obtain ⟨g, hg, eg, ig⟩ := own_of lg 1 (by omega) (by omega) (by decide)
  have kg : g - a < 1 - a := by omega
  have hk : own_chk 1 (Int32.ofNat a) (-1) (-1) (-1) (-1) (Int32.ofNat (a + (g - a))) = true := own_foE (own_foE own_t1 ha) kg
  rw [show a + (g - a) = g from by omega] at hk
  rw [hcn, ea, em1, em2, em3, em4, eg]
  exact own_chkE hk
theorem own_fin2 {t0 t1 t2 t3 t4 lg : Int32} {cs : List Int32} (h : own_pB 2 t0 t1 t2 t3 t4 cs = true) (h0 : t0.toInt ≤ lg.toInt) (h1 : lg.toInt < 2) : ∃ rr sx, own_out cs (2 : Int32) (lg + (1 : Int32)) 7 (1 : Int32) (lg + (1 : Int32)) (0 : Int32) (0 : Int64) (2 : Int32) (0 : Int64) (List.replicate (lg + (1 : Int32)).toNatClampNeg (0 : Int64)) = some (rr, sx) ∧ own_okB t0 t1 t2 t3 t4 rr (lg + (1 : Int32)) sx = true := by
  obtain ⟨hcn, p0, q0, l1, l2, l3, l4, e4, e3, e2, e1, z4, z3, z2, z1⟩ := own_pE h
  obtain ⟨a, ha, ea, ia⟩ := own_of t0 2 (by omega) (by omega) (by decide)
  obtain ⟨b, hb, eb, ib⟩ := own_of t1 2 (by omega) (by omega) (by decide)
  have em2 := own_m1 (t := t2) (by omega)
  have em3 := own_m1 (t := t3) (by omega)
  have em4 := own_m1 (t := t4) (by omega)
  obtain ⟨g, hg, eg, ig⟩ := own_of lg 2 (by omega) (by omega) (by decide)
  have kb : b < a + 1 := by omega
  have kg : g - a < 2 - a := by omega
  have hk : own_chk 2 (Int32.ofNat a) (Int32.ofNat b) (-1) (-1) (-1) (Int32.ofNat (a + (g - a))) = true := own_foE (own_foE (own_foE own_t2 ha) kb) kg
  rw [show a + (g - a) = g from by omega] at hk
  rw [hcn, ea, eb, em2, em3, em4, eg]
  exact own_chkE hk
theorem own_fin3 {t0 t1 t2 t3 t4 lg : Int32} {cs : List Int32} (h : own_pB 3 t0 t1 t2 t3 t4 cs = true) (h0 : t0.toInt ≤ lg.toInt) (h1 : lg.toInt < 3) : ∃ rr sx, own_out cs (3 : Int32) (lg + (1 : Int32)) 7 (1 : Int32) (lg + (1 : Int32)) (0 : Int32) (0 : Int64) (3 : Int32) (0 : Int64) (List.replicate (lg + (1 : Int32)).toNatClampNeg (0 : Int64)) = some (rr, sx) ∧ own_okB t0 t1 t2 t3 t4 rr (lg + (1 : Int32)) sx = true := by
  obtain ⟨hcn, p0, q0, l1, l2, l3, l4, e4, e3, e2, e1, z4, z3, z2, z1⟩ := own_pE h
  obtain ⟨a, ha, ea, ia⟩ := own_of t0 3 (by omega) (by omega) (by decide)
  obtain ⟨b, hb, eb, ib⟩ := own_of t1 3 (by omega) (by omega) (by decide)
  obtain ⟨c, hc, ec, ic⟩ := own_of t2 3 (by omega) (by omega) (by decide)
  have em3 := own_m1 (t := t3) (by omega)
  have em4 := own_m1 (t := t4) (by omega)
  obtain ⟨g, hg, eg, ig⟩ := own_of lg 3 (by omega) (by omega) (by decide)
  have kb : b < a + 1 := by omega
  have kc : c < b + 1 := by omega
  have kg : g - a < 3 - a := by omega
  have hk : own_chk 3 (Int32.ofNat a) (Int32.ofNat b) (Int32.ofNat c) (-1) (-1) (Int32.ofNat (a + (g - a))) = true := own_foE (own_foE (own_foE (own_foE own_t3 ha) kb) kc) kg
  rw [show a + (g - a) = g from by omega] at hk
  rw [hcn, ea, eb, ec, em3, em4, eg]
  exact own_chkE hk
theorem own_fin4 {t0 t1 t2 t3 t4 lg : Int32} {cs : List Int32} (h : own_pB 4 t0 t1 t2 t3 t4 cs = true) (h0 : t0.toInt ≤ lg.toInt) (h1 : lg.toInt < 4) : ∃ rr sx, own_out cs (4 : Int32) (lg + (1 : Int32)) 7 (1 : Int32) (lg + (1 : Int32)) (0 : Int32) (0 : Int64) (4 : Int32) (0 : Int64) (List.replicate (lg + (1 : Int32)).toNatClampNeg (0 : Int64)) = some (rr, sx) ∧ own_okB t0 t1 t2 t3 t4 rr (lg + (1 : Int32)) sx = true := by
  obtain ⟨hcn, p0, q0, l1, l2, l3, l4, e4, e3, e2, e1, z4, z3, z2, z1⟩ := own_pE h
  obtain ⟨a, ha, ea, ia⟩ := own_of t0 4 (by omega) (by omega) (by decide)
  obtain ⟨b, hb, eb, ib⟩ := own_of t1 4 (by omega) (by omega) (by decide)
  obtain ⟨c, hc, ec, ic⟩ := own_of t2 4 (by omega) (by omega) (by decide)
  obtain ⟨d, hd, ed, id⟩ := own_of t3 4 (by omega) (by omega) (by decide)
  have em4 := own_m1 (t := t4) (by omega)
  obtain ⟨g, hg, eg, ig⟩ := own_of lg 4 (by omega) (by omega) (by decide)
  have kb : b < a + 1 := by omega
  have kc : c < b + 1 := by omega
  have kd : d < c + 1 := by omega
  have kg : g - a < 4 - a := by omega
  have hk : own_chk 4 (Int32.ofNat a) (Int32.ofNat b) (Int32.ofNat c) (Int32.ofNat d) (-1) (Int32.ofNat (a + (g - a))) = true := own_foE (own_foE (own_foE (own_foE (own_foE own_t4 ha) kb) kc) kd) kg
  rw [show a + (g - a) = g from by omega] at hk
  rw [hcn, ea, eb, ec, ed, em4, eg]
  exact own_chkE hk
theorem own_fin5 {t0 t1 t2 t3 t4 lg : Int32} {cs : List Int32} (h : own_pB 5 t0 t1 t2 t3 t4 cs = true) (h0 : t0.toInt ≤ lg.toInt) (h1 : lg.toInt < 5) : ∃ rr sx, own_out cs (5 : Int32) (lg + (1 : Int32)) 7 (1 : Int32) (lg + (1 : Int32)) (0 : Int32) (0 : Int64) (5 : Int32) (0 : Int64) (List.replicate (lg + (1 : Int32)).toNatClampNeg (0 : Int64)) = some (rr, sx) ∧ own_okB t0 t1 t2 t3 t4 rr (lg + (1 : Int32)) sx = true := by
  obtain ⟨hcn, p0, q0, l1, l2, l3, l4, e4, e3, e2, e1, z4, z3, z2, z1⟩ := own_pE h
  obtain ⟨a, ha, ea, ia⟩ := own_of t0 5 (by omega) (by omega) (by decide)
  obtain ⟨b, hb, eb, ib⟩ := own_of t1 5 (by omega) (by omega) (by decide)
  obtain ⟨c, hc, ec, ic⟩ := own_of t2 5 (by omega) (by omega) (by decide)
  obtain ⟨d, hd, ed, id⟩ := own_of t3 5 (by omega) (by omega) (by decide)
  obtain ⟨e, he, ee, ie⟩ := own_of t4 5 (by omega) (by omega) (by decide)
  obtain ⟨g, hg, eg, ig⟩ := own_of lg 5 (by omega) (by omega) (by decide)
  have kb : b < a + 1 := by omega
  have kc : c < b + 1 := by omega
  have kd : d < c + 1 := by omega
  have ke : e < d + 1 := by omega
  have kg : g - a < 5 - a := by omega
  have hk : own_chk 5 (Int32.ofNat a) (Int32.ofNat b) (Int32.ofNat c) (Int32.ofNat d) (Int32.ofNat e) (Int32.ofNat (a + (g - a))) = true := own_foE (own_foE (own_foE (own_foE (own_foE (own_foE own_t5 ha) kb) kc) kd) ke) kg
  rw [show a + (g - a) = g from by omega] at hk
  rw [hcn, ea, eb, ec, ed, ee, eg]
  exact own_chkE hk
theorem own_six (x : Int32) : ((x &&& (2147483647 : Int32)) % (6 : Int32)) = (0 : Int32) ∨ ((x &&& (2147483647 : Int32)) % (6 : Int32)) = (1 : Int32) ∨ ((x &&& (2147483647 : Int32)) % (6 : Int32)) = (2 : Int32) ∨ ((x &&& (2147483647 : Int32)) % (6 : Int32)) = (3 : Int32) ∨ ((x &&& (2147483647 : Int32)) % (6 : Int32)) = (4 : Int32) ∨ ((x &&& (2147483647 : Int32)) % (6 : Int32)) = (5 : Int32) := by
  have h1 := c_and x 2147483647 (by decide)
  have h2 := (c_irem (x &&& 2147483647) 6 6 (by decide)).1 h1.1
  have h3 : ((x &&& 2147483647) % 6).toInt = 0 ∨ ((x &&& 2147483647) % 6).toInt = 1 ∨ ((x &&& 2147483647) % 6).toInt = 2 ∨ ((x &&& 2147483647) % 6).toInt = 3 ∨ ((x &&& 2147483647) % 6).toInt = 4 ∨ ((x &&& 2147483647) % 6).toInt = 5 := by omega
  rcases h3 with h | h | h | h | h | h
  · left; exact Int32.toInt_inj.mp (h.trans (by decide))
  · right; left; exact Int32.toInt_inj.mp (h.trans (by decide))
  · right; right; left; exact Int32.toInt_inj.mp (h.trans (by decide))
  · right; right; right; left; exact Int32.toInt_inj.mp (h.trans (by decide))
  · right; right; right; right; left; exact Int32.toInt_inj.mp (h.trans (by decide))
  · right; right; right; right; right; exact Int32.toInt_inj.mp (h.trans (by decide))
theorem own_bm (x n : Int32) (N : Int) (hn : n.toInt = N) (h : 0 < N) : 0 ≤ ((x &&& (2147483647 : Int32)) % n).toInt ∧ ((x &&& (2147483647 : Int32)) % n).toInt < N := by
  rw [(c_irem _ n N hn).1 (c_and x 2147483647 (by decide)).1]
  exact ⟨Int.emod_nonneg _ (by omega), Int.emod_lt_of_pos _ h⟩
theorem own_ub {u n : Int32} {N : Int} (hn : n.toInt = N) (b : 0 ≤ u.toInt ∧ u.toInt < N) : ¬ u < (0 : Int32) ∧ u < n := by
  rw [Int32.lt_iff_toInt_lt, Int32.lt_iff_toInt_lt, hn, show (0 : Int32).toInt = 0 from by decide]
  omega
theorem own_dn {t n : Int32} {N : Int} (hn : n.toInt = N) (h1 : t.toInt < N) : (n - t) ≠ 0 := fun q => by
  have d := c_isub n t
  rw [q, show (0 : Int32).toInt = 0 from by decide] at d
  have a1 := Int32.toInt_lt t
  have a2 := Int32.le_toInt t
  have b1 := Int32.toInt_lt n
  have b2 := Int32.le_toInt n
  omega
theorem own_lg (t f n : Int32) (N : Int) (hn : n.toInt = N) (hN : N < 100) (h0 : 0 ≤ t.toInt) (h1 : t.toInt < N) : t.toInt ≤ (t + (((f.toUInt32 >>> ((8 : Int32) &&& 31).toUInt32).toInt32) % (n - t))).toInt ∧ (t + (((f.toUInt32 >>> ((8 : Int32) &&& 31).toUInt32).toInt32) % (n - t))).toInt < N := by
  have s := c_iushr f 8 8 (by decide) (by decide)
  have hX : 0 ≤ (((f.toUInt32 >>> ((8 : Int32) &&& 31).toUInt32).toInt32)).toInt := by
    rw [s]
    exact Int.ediv_nonneg (Int.emod_nonneg _ (by decide)) (Int.natCast_nonneg _)
  generalize ((f.toUInt32 >>> ((8 : Int32) &&& 31).toUInt32).toInt32) = X at hX ⊢
  have d := c_isub n t
  have a1 := Int32.toInt_lt (n - t)
  have a2 := Int32.le_toInt (n - t)
  have e : (n - t).toInt = N - t.toInt := by omega
  have m := (c_iremV X (n - t)).1 hX (by omega)
  have a := c_iadd t (X % (n - t))
  have b1 := Int32.toInt_lt (t + X % (n - t))
  have b2 := Int32.le_toInt (t + X % (n - t))
  omega
theorem own_ltn {g n : Int32} {N : Int} (hn : n.toInt = N) (h : g.toInt < N) : g < n := Int32.lt_iff_toInt_lt.mpr (by rw [hn]; exact h)
theorem own_g1 {g : Int32} {N : Int} (hN : N < 100) (h0 : 0 ≤ g.toInt) (h1 : g.toInt < N) : (g + (1 : Int32)).toInt = g.toInt + 1 := by
  have a := c_iadd g 1
  rw [show (1 : Int32).toInt = 1 from by decide] at a
  have b1 := Int32.toInt_lt (g + 1)
  have b2 := Int32.le_toInt (g + 1)
  omega
theorem own_gn {g : Int32} {N : Int} (hN : N < 100) (h0 : 0 ≤ g.toInt) (h1 : g.toInt < N) : ¬ (g + (1 : Int32)) < (0 : Int32) := by
  rw [Int32.lt_iff_toInt_lt, own_g1 hN h0 h1, show (0 : Int32).toInt = 0 from by decide]
  omega
theorem own_gc {g : Int32} (h0 : 0 ≤ g.toInt) (h1 : g.toInt < 5) : (g + (1 : Int32)).toNatClampNeg ≤ 5 := by
  have e := nat_of (own_gn (by decide) h0 h1)
  rw [own_g1 (by decide) h0 h1] at e
  omega
def own_gd (NN : Int) (nn y0 y1 y2 y3 y4 : Int32) (cs : List Int32) : Prop := ∀ (sa0 sa1 sb3 sb4 sc2 sc4 sd2 sd3 se1 se4 sf0 sf3 sg0 sg2 sh1 sh3 si1 si2 : Int32), sa0 = (w2p01_a2_0_0 y0 y1) → sa1 = (w2p01_a2_0_1 y0 y1) → sb3 = (w2p34_a2_0_3 y3 y4) → sb4 = (w2p34_a2_0_4 y3 y4) → sc2 = (w2p24_a2_0_2 y2 sb4) → sc4 = (w2p24_a2_0_4 y2 sb4) → sd2 = (w2p23_a2_0_2 sc2 sb3) → sd3 = (w2p23_a2_0_3 sc2 sb3) → se1 = (w2p14_a2_0_1 sa1 sc4) → se4 = (w2p14_a2_0_4 sa1 sc4) → sf0 = (w2p03_a2_0_0 sa0 sd3) → sf3 = (w2p03_a2_0_3 sa0 sd3) → sg0 = (w2p02_a2_0_0 sf0 sd2) → sg2 = (w2p02_a2_0_2 sf0 sd2) → sh1 = (w2p13_a2_0_1 se1 sf3) → sh3 = (w2p13_a2_0_3 se1 sf3) → si1 = (w2p12_a2_0_1 sh1 sg2) → si2 = (w2p12_a2_0_2 sh1 sg2) → 0 ≤ sg0.toInt ∧ sg0.toInt < NN ∧ ∀ lg : Int32, sg0.toInt ≤ lg.toInt → lg.toInt < NN → ∃ rr sx, own_out cs nn (lg + (1 : Int32)) 7 (1 : Int32) (lg + (1 : Int32)) (0 : Int32) (0 : Int64) nn (0 : Int64) (List.replicate (lg + (1 : Int32)).toNatClampNeg (0 : Int64)) = some (rr, sx) ∧ own_okB sg0 si1 si2 sh3 se4 rr (lg + (1 : Int32)) sx = true
theorem own_gd1 (u0 : Int32) (cs0 cs1 : List Int32) (hcs0 : cs0 = ([0] : List Int32)) (hcs1 : cs1 = (cs0.set u0.toNatClampNeg ((cs0.getD u0.toNatClampNeg 0) + (1 : Int32)))) (b0 : 0 ≤ u0.toInt ∧ u0.toInt < 1) : own_gd 1 (1 : Int32) u0 (-1) (-1) (-1) (-1) cs1 := by
  intro sa0 sa1 sb3 sb4 sc2 sc4 sd2 sd3 se1 se4 sf0 sf3 sg0 sg2 sh1 sh3 si1 si2 hsa0 hsa1 hsb3 hsb4 hsc2 hsc4 hsd2 hsd3 hse1 hse4 hsf0 hsf3 hsg0 hsg2 hsh1 hsh3 hsi1 hsi2
  have hP := own_net1 u0 cs0 cs1 sa0 sa1 sb3 sb4 sc2 sc4 sd2 sd3 se1 se4 sf0 sf3 sg0 sg2 sh1 sh3 si1 si2 hcs0 hcs1 hsa0 hsa1 hsb3 hsb4 hsc2 hsc4 hsd2 hsd3 hse1 hse4 hsf0 hsf3 hsg0 hsg2 hsh1 hsh3 hsi1 hsi2 b0
  exact ⟨(own_pE hP).2.1, (own_pE hP).2.2.1, fun lg h0 h1 => own_fin1 hP h0 h1⟩
theorem own_gd2 (u0 u1 : Int32) (cs0 cs1 cs2 : List Int32) (hcs0 : cs0 = ([0, 0] : List Int32)) (hcs1 : cs1 = (cs0.set u0.toNatClampNeg ((cs0.getD u0.toNatClampNeg 0) + (1 : Int32)))) (hcs2 : cs2 = (cs1.set u1.toNatClampNeg ((cs1.getD u1.toNatClampNeg 0) + (1 : Int32)))) (b0 : 0 ≤ u0.toInt ∧ u0.toInt < 2) (b1 : 0 ≤ u1.toInt ∧ u1.toInt < 2) : own_gd 2 (2 : Int32) u0 u1 (-1) (-1) (-1) cs2 := by
  intro sa0 sa1 sb3 sb4 sc2 sc4 sd2 sd3 se1 se4 sf0 sf3 sg0 sg2 sh1 sh3 si1 si2 hsa0 hsa1 hsb3 hsb4 hsc2 hsc4 hsd2 hsd3 hse1 hse4 hsf0 hsf3 hsg0 hsg2 hsh1 hsh3 hsi1 hsi2
  have hP := own_net2 u0 u1 cs0 cs1 cs2 sa0 sa1 sb3 sb4 sc2 sc4 sd2 sd3 se1 se4 sf0 sf3 sg0 sg2 sh1 sh3 si1 si2 hcs0 hcs1 hcs2 hsa0 hsa1 hsb3 hsb4 hsc2 hsc4 hsd2 hsd3 hse1 hse4 hsf0 hsf3 hsg0 hsg2 hsh1 hsh3 hsi1 hsi2 b0 b1
  exact ⟨(own_pE hP).2.1, (own_pE hP).2.2.1, fun lg h0 h1 => own_fin2 hP h0 h1⟩
theorem own_gd3 (u0 u1 u2 : Int32) (cs0 cs1 cs2 cs3 : List Int32) (hcs0 : cs0 = ([0, 0, 0] : List Int32)) (hcs1 : cs1 = (cs0.set u0.toNatClampNeg ((cs0.getD u0.toNatClampNeg 0) + (1 : Int32)))) (hcs2 : cs2 = (cs1.set u1.toNatClampNeg ((cs1.getD u1.toNatClampNeg 0) + (1 : Int32)))) (hcs3 : cs3 = (cs2.set u2.toNatClampNeg ((cs2.getD u2.toNatClampNeg 0) + (1 : Int32)))) (b0 : 0 ≤ u0.toInt ∧ u0.toInt < 3) (b1 : 0 ≤ u1.toInt ∧ u1.toInt < 3) (b2 : 0 ≤ u2.toInt ∧ u2.toInt < 3) : own_gd 3 (3 : Int32) u0 u1 u2 (-1) (-1) cs3 := by
  intro sa0 sa1 sb3 sb4 sc2 sc4 sd2 sd3 se1 se4 sf0 sf3 sg0 sg2 sh1 sh3 si1 si2 hsa0 hsa1 hsb3 hsb4 hsc2 hsc4 hsd2 hsd3 hse1 hse4 hsf0 hsf3 hsg0 hsg2 hsh1 hsh3 hsi1 hsi2
  have hP := own_net3 u0 u1 u2 cs0 cs1 cs2 cs3 sa0 sa1 sb3 sb4 sc2 sc4 sd2 sd3 se1 se4 sf0 sf3 sg0 sg2 sh1 sh3 si1 si2 hcs0 hcs1 hcs2 hcs3 hsa0 hsa1 hsb3 hsb4 hsc2 hsc4 hsd2 hsd3 hse1 hse4 hsf0 hsf3 hsg0 hsg2 hsh1 hsh3 hsi1 hsi2 b0 b1 b2
  exact ⟨(own_pE hP).2.1, (own_pE hP).2.2.1, fun lg h0 h1 => own_fin3 hP h0 h1⟩
theorem own_gd4 (u0 u1 u2 u3 : Int32) (cs0 cs1 cs2 cs3 cs4 : List Int32) (hcs0 : cs0 = ([0, 0, 0, 0] : List Int32)) (hcs1 : cs1 = (cs0.set u0.toNatClampNeg ((cs0.getD u0.toNatClampNeg 0) + (1 : Int32)))) (hcs2 : cs2 = (cs1.set u1.toNatClampNeg ((cs1.getD u1.toNatClampNeg 0) + (1 : Int32)))) (hcs3 : cs3 = (cs2.set u2.toNatClampNeg ((cs2.getD u2.toNatClampNeg 0) + (1 : Int32)))) (hcs4 : cs4 = (cs3.set u3.toNatClampNeg ((cs3.getD u3.toNatClampNeg 0) + (1 : Int32)))) (b0 : 0 ≤ u0.toInt ∧ u0.toInt < 4) (b1 : 0 ≤ u1.toInt ∧ u1.toInt < 4) (b2 : 0 ≤ u2.toInt ∧ u2.toInt < 4) (b3 : 0 ≤ u3.toInt ∧ u3.toInt < 4) : own_gd 4 (4 : Int32) u0 u1 u2 u3 (-1) cs4 := by
  intro sa0 sa1 sb3 sb4 sc2 sc4 sd2 sd3 se1 se4 sf0 sf3 sg0 sg2 sh1 sh3 si1 si2 hsa0 hsa1 hsb3 hsb4 hsc2 hsc4 hsd2 hsd3 hse1 hse4 hsf0 hsf3 hsg0 hsg2 hsh1 hsh3 hsi1 hsi2
  have hP := own_net4 u0 u1 u2 u3 cs0 cs1 cs2 cs3 cs4 sa0 sa1 sb3 sb4 sc2 sc4 sd2 sd3 se1 se4 sf0 sf3 sg0 sg2 sh1 sh3 si1 si2 hcs0 hcs1 hcs2 hcs3 hcs4 hsa0 hsa1 hsb3 hsb4 hsc2 hsc4 hsd2 hsd3 hse1 hse4 hsf0 hsf3 hsg0 hsg2 hsh1 hsh3 hsi1 hsi2 b0 b1 b2 b3
  exact ⟨(own_pE hP).2.1, (own_pE hP).2.2.1, fun lg h0 h1 => own_fin4 hP h0 h1⟩
theorem own_gd5 (u0 u1 u2 u3 u4 : Int32) (cs0 cs1 cs2 cs3 cs4 cs5 : List Int32) (hcs0 : cs0 = ([0, 0, 0, 0, 0] : List Int32)) (hcs1 : cs1 = (cs0.set u0.toNatClampNeg ((cs0.getD u0.toNatClampNeg 0) + (1 : Int32)))) (hcs2 : cs2 = (cs1.set u1.toNatClampNeg ((cs1.getD u1.toNatClampNeg 0) + (1 : Int32)))) (hcs3 : cs3 = (cs2.set u2.toNatClampNeg ((cs2.getD u2.toNatClampNeg 0) + (1 : Int32)))) (hcs4 : cs4 = (cs3.set u3.toNatClampNeg ((cs3.getD u3.toNatClampNeg 0) + (1 : Int32)))) (hcs5 : cs5 = (cs4.set u4.toNatClampNeg ((cs4.getD u4.toNatClampNeg 0) + (1 : Int32)))) (b0 : 0 ≤ u0.toInt ∧ u0.toInt < 5) (b1 : 0 ≤ u1.toInt ∧ u1.toInt < 5) (b2 : 0 ≤ u2.toInt ∧ u2.toInt < 5) (b3 : 0 ≤ u3.toInt ∧ u3.toInt < 5) (b4 : 0 ≤ u4.toInt ∧ u4.toInt < 5) : own_gd 5 (5 : Int32) u0 u1 u2 u3 u4 cs5 := by
  intro sa0 sa1 sb3 sb4 sc2 sc4 sd2 sd3 se1 se4 sf0 sf3 sg0 sg2 sh1 sh3 si1 si2 hsa0 hsa1 hsb3 hsb4 hsc2 hsc4 hsd2 hsd3 hse1 hse4 hsf0 hsf3 hsg0 hsg2 hsh1 hsh3 hsi1 hsi2
  have hP := own_net5 u0 u1 u2 u3 u4 cs0 cs1 cs2 cs3 cs4 cs5 sa0 sa1 sb3 sb4 sc2 sc4 sd2 sd3 se1 se4 sf0 sf3 sg0 sg2 sh1 sh3 si1 si2 hcs0 hcs1 hcs2 hcs3 hcs4 hcs5 hsa0 hsa1 hsb3 hsb4 hsc2 hsc4 hsd2 hsd3 hse1 hse4 hsf0 hsf3 hsg0 hsg2 hsh1 hsh3 hsi1 hsi2 b0 b1 b2 b3 b4
  exact ⟨(own_pE hP).2.1, (own_pE hP).2.2.1, fun lg h0 h1 => own_fin5 hP h0 h1⟩
theorem pd___III_V : parseMethodDescriptor "([III)V" = some ⟨[(.array .int), .int, .int], none⟩ := by decide +kernel
theorem pd___II_J_I : parseMethodDescriptor "([II[J)I" = some ⟨[(.array .int), .int, (.array .long)], some .int⟩ := by decide +kernel
abbrev own_Lown_mid_0 (sl0 : Slot) (sl1 : Slot) (sl2 : Slot) (sl3 : Slot) (sl4 : Slot) (fl : Int32) (nn : Int32) (aT : Addr) (aC : Addr) (l9 l10 l11 l12 l13 : Slot) : Array Slot := #[sl0, sl1, sl2, sl3, sl4, .val (.int fl), .val (.int nn), .val (.ref aT), .val (.ref aC), l9, l10, l11, l12, l13]
set_option maxRecDepth 65536 in
set_option maxHeartbeats 40000000 in
theorem own_mid (l : Launch) (Z : State) (a0 : Array Value) (hw : ∀ d ∈ tables_1, d.before a0 Z = true) (sl0 : Slot) (sl1 : Slot) (sl2 : Slot) (sl3 : Slot) (sl4 : Slot) (fl : Int32) (nn : Int32) (aT : Addr) (aC : Addr) (cs : List Int32) (NN : Int) (kt : ClassId) (y0 : Int32) (y1 : Int32) (y2 : Int32) (y3 : Int32) (y4 : Int32) (kc : ClassId) {p : Program} {e : Env} {s : State} {m : MethodId} {args : Array Value} {below : List Frame} {meth : Method} {c : Code} {s₁ : State} {locs : List Loc}
    (X0 : Stand p l e room_1 s m args below meth c s₁ locs 2 20) (hx : p.tables.exec = Jvm.exec) (hZ : Z.Warmed39 s.vm) (hby : c.code = code) (hml : c.maxLocals = 14) (hown : s.vm.findClass "gallai/service/GraphicalitySlacksPinLaw" = some m.cls) (hlk : meth.locks = false) (hret : meth.sig.returnType = some .boolean) (h0 : Heap) (n0 : Nat) (e0 : s₁.heap = h0) (Z0 : n0 ≤ h0.size) (N0 : Fr n0 locs) (V_aT : Arv Z h0 aT kt .int (5 : Int32) [(.int y0), (.int y1), (.int y2), (.int y3), (.int y4)] (.int 0)) (V_aC : Arv Z h0 aC kc .int nn (cs.map Value.int) (.int 0)) (g_aT : n0 ≤ aT) (ne_aC_aT : aC ≠ aT) (hn0 : ¬ nn = (0 : Int32)) (hnn : nn.toInt = NN) (hN1 : NN < 100) (hN5 : NN ≤ 5) (hgd : own_gd NN nn y0 y1 y2 y3 y4 cs) :
    own_G p e below s (fun v h L => v = some (.int (1 : Int32)) ∧ Fr n0 L) 16 128 s₁ (mkF m 161 #[sl0, sl1, sl2, sl3, sl4, .val (.int fl), .val (.int nn), .val (.ref aT), .val (.ref aC), .unset, .unset, .unset, .unset, .unset] []) := by
  have K0 : Keep h0 h0 [aT] := Keep.refl _ _
  have ww4 := hw _ (List.mem_of_getElem? (i := 4) rfl)
  have ww6 := hw _ (List.mem_of_getElem? (i := 6) rfl)
  have ww7 := hw _ (List.mem_of_getElem? (i := 7) rfl)
  have ww8 := hw _ (List.mem_of_getElem? (i := 8) rfl)
  have ww9 := hw _ (List.mem_of_getElem? (i := 9) rfl)
  have ww10 := hw _ (List.mem_of_getElem? (i := 10) rfl)
  have ww11 := hw _ (List.mem_of_getElem? (i := 11) rfl)
  have ww12 := hw _ (List.mem_of_getElem? (i := 12) rfl)
  have ww13 := hw _ (List.mem_of_getElem? (i := 13) rfl)
  have ww14 := hw _ (List.mem_of_getElem? (i := 14) rfl)
  have ww15 := hw _ (List.mem_of_getElem? (i := 15) rfl)
  have ww16 := hw _ (List.mem_of_getElem? (i := 16) rfl)
  have ww17 := hw _ (List.mem_of_getElem? (i := 17) rfl)
  show own_G p e below s _ _ _ s₁ (mkF m _ (own_Lown_mid_0 sl0 sl1 sl2 sl3 sl4 fl nn aT aC .unset .unset .unset .unset .unset) _)
  refine own_s (g' := (mkF m 163 (own_Lown_mid_0 sl0 sl1 sl2 sl3 sl4 fl nn aT aC .unset .unset .unset .unset .unset) [(.ref aT)])) (fun _ kz => XS.aload X0.here hx rfl (hb hby at_161) rfl rfl kz) ?_
  refine own_s (g' := (mkF m 164 (own_Lown_mid_0 sl0 sl1 sl2 sl3 sl4 fl nn aT aC .unset .unset .unset .unset .unset) [(.int 0), (.ref aT)])) (fun _ kz => XS.iconst X0.here hx rfl (hb hby at_163) kz) ?_
  refine own_s (g' := (mkF m 165 (own_Lown_mid_0 sl0 sl1 sl2 sl3 sl4 fl nn aT aC .unset .unset .unset .unset .unset) [(.int 1), (.int 0), (.ref aT)])) (fun _ kz => XS.iconst X0.here hx rfl (hb hby at_164) kz) ?_
  obtain ⟨_, _, ⟨T152, L152, k152, n152⟩, -, X152, ⟨Lc152, hQ152, l152, y152, z152⟩, st152⟩ := Jvm.LawKit.callS X0 hx (y := (⟨"gallai/service/GraphicalitySlacksPinLaw", "order", "([III)V"⟩ : MethodName)) hown (mvT hZ ww6) (mvT hZ ww7) (mvT hZ ww4) (mvT hZ ww8) (by decide) (backOf (W := 0) (rm2p01 l Z a0 hw [] aT kt y0 y1 y2 y3 y4 h0 n0 Z0 V_aT g_aT) hZ ww8 ww4 (by decide) (by decide)) (g := (mkF m 165 (own_Lown_mid_0 sl0 sl1 sl2 sl3 sl4 fl nn aT aC .unset .unset .unset .unset .unset) [(.int 1), (.int 0), (.ref aT)])) rfl (by rw [hml]; rfl) (argsL := [(.ref aT), (.int 0), (.int 1)]) (rest := []) (lenOf pd___III_V rfl) rfl (by show 2 * 0 + _ ≤ _; exact Nat.le_of_eq rfl) (hb hby at_165) (fun _ _ => ⟨rfl, e0, (by decide : 2 + 0 ≤ _), (by decide : 20 + 0 ≤ _)⟩)
  dsimp only [Pt.U, Pt.locs, Pt.cells, Pt.slots] at X152 l152 y152 z152 st152 hQ152
  subst l152 y152 z152
  obtain ⟨rfl, N152q, K152q, f153⟩ := hQ152
  have K152 := K0.trans K152q (allS (Or.inl (List.mem_of_getElem? (i := 0) rfl)) all0)
  have N152 := Fr.app N0 N152q
  refine own_s (g' := (mkF m 168 (own_Lown_mid_0 sl0 sl1 sl2 sl3 sl4 fl nn aT aC .unset .unset .unset .unset .unset) [])) st152 ?_
  obtain ⟨sa0, hsa0⟩ : ∃ z, z = (w2p01_a2_0_0 y0 y1) := ⟨_, rfl⟩
  rw [← hsa0] at f153
  obtain ⟨sa1, hsa1⟩ : ∃ z, z = (w2p01_a2_0_1 y0 y1) := ⟨_, rfl⟩
  rw [← hsa1] at f153
  refine own_s (g' := (mkF m 170 (own_Lown_mid_0 sl0 sl1 sl2 sl3 sl4 fl nn aT aC .unset .unset .unset .unset .unset) [(.ref aT)])) (fun _ kz => XS.aload X152.here hx rfl (hb hby at_168) rfl rfl kz) ?_
  refine own_s (g' := (mkF m 171 (own_Lown_mid_0 sl0 sl1 sl2 sl3 sl4 fl nn aT aC .unset .unset .unset .unset .unset) [(.int 3), (.ref aT)])) (fun _ kz => XS.iconst X152.here hx rfl (hb hby at_170) kz) ?_
  refine own_s (g' := (mkF m 172 (own_Lown_mid_0 sl0 sl1 sl2 sl3 sl4 fl nn aT aC .unset .unset .unset .unset .unset) [(.int 4), (.int 3), (.ref aT)])) (fun _ kz => XS.iconst X152.here hx rfl (hb hby at_171) kz) ?_
  obtain ⟨_, _, ⟨T154, L154, k154, n154⟩, -, X154, ⟨Lc154, hQ154, l154, y154, z154⟩, st154⟩ := Jvm.LawKit.callS X152 hx (y := (⟨"gallai/service/GraphicalitySlacksPinLaw", "order", "([III)V"⟩ : MethodName)) hown (mvT hZ ww6) (mvT hZ ww7) (mvT hZ ww4) (mvT hZ ww8) (by decide) (backOf (W := 0) (rm2p34 l Z a0 hw [] aT kt sa0 sa1 y2 y3 y4 T152.heap n0 (Nat.le_trans Z0 K152.1) f153 g_aT) hZ ww8 ww4 (by decide) (by decide)) (g := (mkF m 172 (own_Lown_mid_0 sl0 sl1 sl2 sl3 sl4 fl nn aT aC .unset .unset .unset .unset .unset) [(.int 4), (.int 3), (.ref aT)])) rfl (by rw [hml]; rfl) (argsL := [(.ref aT), (.int 3), (.int 4)]) (rest := []) (lenOf pd___III_V rfl) rfl (by show 2 * 0 + _ ≤ _; exact Nat.le_of_eq rfl) (hb hby at_172) (fun _ _ => ⟨rfl, rfl, (by decide : 2 + 0 ≤ _), (by decide : 20 + 0 ≤ _)⟩)
  dsimp only [Pt.U, Pt.locs, Pt.cells, Pt.slots] at X154 l154 y154 z154 st154 hQ154
  subst l154 y154 z154
  obtain ⟨rfl, N154q, K154q, f155⟩ := hQ154
  have K154 := K152.trans K154q (allS (Or.inl (List.mem_of_getElem? (i := 0) rfl)) all0)
  have N154 := Fr.app N152 N154q
  refine own_s (g' := (mkF m 175 (own_Lown_mid_0 sl0 sl1 sl2 sl3 sl4 fl nn aT aC .unset .unset .unset .unset .unset) [])) st154 ?_
  obtain ⟨sb3, hsb3⟩ : ∃ z, z = (w2p34_a2_0_3 y3 y4) := ⟨_, rfl⟩
  rw [← hsb3] at f155
  obtain ⟨sb4, hsb4⟩ : ∃ z, z = (w2p34_a2_0_4 y3 y4) := ⟨_, rfl⟩
  rw [← hsb4] at f155
  refine own_s (g' := (mkF m 177 (own_Lown_mid_0 sl0 sl1 sl2 sl3 sl4 fl nn aT aC .unset .unset .unset .unset .unset) [(.ref aT)])) (fun _ kz => XS.aload X154.here hx rfl (hb hby at_175) rfl rfl kz) ?_
  refine own_s (g' := (mkF m 178 (own_Lown_mid_0 sl0 sl1 sl2 sl3 sl4 fl nn aT aC .unset .unset .unset .unset .unset) [(.int 2), (.ref aT)])) (fun _ kz => XS.iconst X154.here hx rfl (hb hby at_177) kz) ?_
  refine own_s (g' := (mkF m 179 (own_Lown_mid_0 sl0 sl1 sl2 sl3 sl4 fl nn aT aC .unset .unset .unset .unset .unset) [(.int 4), (.int 2), (.ref aT)])) (fun _ kz => XS.iconst X154.here hx rfl (hb hby at_178) kz) ?_
  obtain ⟨_, _, ⟨T156, L156, k156, n156⟩, -, X156, ⟨Lc156, hQ156, l156, y156, z156⟩, st156⟩ := Jvm.LawKit.callS X154 hx (y := (⟨"gallai/service/GraphicalitySlacksPinLaw", "order", "([III)V"⟩ : MethodName)) hown (mvT hZ ww6) (mvT hZ ww7) (mvT hZ ww4) (mvT hZ ww8) (by decide) (backOf (W := 0) (rm2p24 l Z a0 hw [] aT kt sa0 sa1 y2 sb3 sb4 T154.heap n0 (Nat.le_trans Z0 K154.1) f155 g_aT) hZ ww8 ww4 (by decide) (by decide)) (g := (mkF m 179 (own_Lown_mid_0 sl0 sl1 sl2 sl3 sl4 fl nn aT aC .unset .unset .unset .unset .unset) [(.int 4), (.int 2), (.ref aT)])) rfl (by rw [hml]; rfl) (argsL := [(.ref aT), (.int 2), (.int 4)]) (rest := []) (lenOf pd___III_V rfl) rfl (by show 2 * 0 + _ ≤ _; exact Nat.le_of_eq rfl) (hb hby at_179) (fun _ _ => ⟨rfl, rfl, (by decide : 2 + 0 ≤ _), (by decide : 20 + 0 ≤ _)⟩)
  dsimp only [Pt.U, Pt.locs, Pt.cells, Pt.slots] at X156 l156 y156 z156 st156 hQ156
  subst l156 y156 z156
  obtain ⟨rfl, N156q, K156q, f157⟩ := hQ156
  have K156 := K154.trans K156q (allS (Or.inl (List.mem_of_getElem? (i := 0) rfl)) all0)
  have N156 := Fr.app N154 N156q
  refine own_s (g' := (mkF m 182 (own_Lown_mid_0 sl0 sl1 sl2 sl3 sl4 fl nn aT aC .unset .unset .unset .unset .unset) [])) st156 ?_
  obtain ⟨sc2, hsc2⟩ : ∃ z, z = (w2p24_a2_0_2 y2 sb4) := ⟨_, rfl⟩
  rw [← hsc2] at f157
  obtain ⟨sc4, hsc4⟩ : ∃ z, z = (w2p24_a2_0_4 y2 sb4) := ⟨_, rfl⟩
  rw [← hsc4] at f157
  refine own_s (g' := (mkF m 184 (own_Lown_mid_0 sl0 sl1 sl2 sl3 sl4 fl nn aT aC .unset .unset .unset .unset .unset) [(.ref aT)])) (fun _ kz => XS.aload X156.here hx rfl (hb hby at_182) rfl rfl kz) ?_
  refine own_s (g' := (mkF m 185 (own_Lown_mid_0 sl0 sl1 sl2 sl3 sl4 fl nn aT aC .unset .unset .unset .unset .unset) [(.int 2), (.ref aT)])) (fun _ kz => XS.iconst X156.here hx rfl (hb hby at_184) kz) ?_
  refine own_s (g' := (mkF m 186 (own_Lown_mid_0 sl0 sl1 sl2 sl3 sl4 fl nn aT aC .unset .unset .unset .unset .unset) [(.int 3), (.int 2), (.ref aT)])) (fun _ kz => XS.iconst X156.here hx rfl (hb hby at_185) kz) ?_
  obtain ⟨_, _, ⟨T158, L158, k158, n158⟩, -, X158, ⟨Lc158, hQ158, l158, y158, z158⟩, st158⟩ := Jvm.LawKit.callS X156 hx (y := (⟨"gallai/service/GraphicalitySlacksPinLaw", "order", "([III)V"⟩ : MethodName)) hown (mvT hZ ww6) (mvT hZ ww7) (mvT hZ ww4) (mvT hZ ww8) (by decide) (backOf (W := 0) (rm2p23 l Z a0 hw [] aT kt sa0 sa1 sc2 sb3 sc4 T156.heap n0 (Nat.le_trans Z0 K156.1) f157 g_aT) hZ ww8 ww4 (by decide) (by decide)) (g := (mkF m 186 (own_Lown_mid_0 sl0 sl1 sl2 sl3 sl4 fl nn aT aC .unset .unset .unset .unset .unset) [(.int 3), (.int 2), (.ref aT)])) rfl (by rw [hml]; rfl) (argsL := [(.ref aT), (.int 2), (.int 3)]) (rest := []) (lenOf pd___III_V rfl) rfl (by show 2 * 0 + _ ≤ _; exact Nat.le_of_eq rfl) (hb hby at_186) (fun _ _ => ⟨rfl, rfl, (by decide : 2 + 0 ≤ _), (by decide : 20 + 0 ≤ _)⟩)
  dsimp only [Pt.U, Pt.locs, Pt.cells, Pt.slots] at X158 l158 y158 z158 st158 hQ158
  subst l158 y158 z158
  obtain ⟨rfl, N158q, K158q, f159⟩ := hQ158
  have K158 := K156.trans K158q (allS (Or.inl (List.mem_of_getElem? (i := 0) rfl)) all0)
  have N158 := Fr.app N156 N158q
  refine own_s (g' := (mkF m 189 (own_Lown_mid_0 sl0 sl1 sl2 sl3 sl4 fl nn aT aC .unset .unset .unset .unset .unset) [])) st158 ?_
  obtain ⟨sd2, hsd2⟩ : ∃ z, z = (w2p23_a2_0_2 sc2 sb3) := ⟨_, rfl⟩
  rw [← hsd2] at f159
  obtain ⟨sd3, hsd3⟩ : ∃ z, z = (w2p23_a2_0_3 sc2 sb3) := ⟨_, rfl⟩
  rw [← hsd3] at f159
  refine own_s (g' := (mkF m 191 (own_Lown_mid_0 sl0 sl1 sl2 sl3 sl4 fl nn aT aC .unset .unset .unset .unset .unset) [(.ref aT)])) (fun _ kz => XS.aload X158.here hx rfl (hb hby at_189) rfl rfl kz) ?_
  refine own_s (g' := (mkF m 192 (own_Lown_mid_0 sl0 sl1 sl2 sl3 sl4 fl nn aT aC .unset .unset .unset .unset .unset) [(.int 1), (.ref aT)])) (fun _ kz => XS.iconst X158.here hx rfl (hb hby at_191) kz) ?_
  refine own_s (g' := (mkF m 193 (own_Lown_mid_0 sl0 sl1 sl2 sl3 sl4 fl nn aT aC .unset .unset .unset .unset .unset) [(.int 4), (.int 1), (.ref aT)])) (fun _ kz => XS.iconst X158.here hx rfl (hb hby at_192) kz) ?_
  obtain ⟨_, _, ⟨T160, L160, k160, n160⟩, -, X160, ⟨Lc160, hQ160, l160, y160, z160⟩, st160⟩ := Jvm.LawKit.callS X158 hx (y := (⟨"gallai/service/GraphicalitySlacksPinLaw", "order", "([III)V"⟩ : MethodName)) hown (mvT hZ ww6) (mvT hZ ww7) (mvT hZ ww4) (mvT hZ ww8) (by decide) (backOf (W := 0) (rm2p14 l Z a0 hw [] aT kt sa0 sa1 sd2 sd3 sc4 T158.heap n0 (Nat.le_trans Z0 K158.1) f159 g_aT) hZ ww8 ww4 (by decide) (by decide)) (g := (mkF m 193 (own_Lown_mid_0 sl0 sl1 sl2 sl3 sl4 fl nn aT aC .unset .unset .unset .unset .unset) [(.int 4), (.int 1), (.ref aT)])) rfl (by rw [hml]; rfl) (argsL := [(.ref aT), (.int 1), (.int 4)]) (rest := []) (lenOf pd___III_V rfl) rfl (by show 2 * 0 + _ ≤ _; exact Nat.le_of_eq rfl) (hb hby at_193) (fun _ _ => ⟨rfl, rfl, (by decide : 2 + 0 ≤ _), (by decide : 20 + 0 ≤ _)⟩)
  dsimp only [Pt.U, Pt.locs, Pt.cells, Pt.slots] at X160 l160 y160 z160 st160 hQ160
  subst l160 y160 z160
  obtain ⟨rfl, N160q, K160q, f161⟩ := hQ160
  have K160 := K158.trans K160q (allS (Or.inl (List.mem_of_getElem? (i := 0) rfl)) all0)
  have N160 := Fr.app N158 N160q
  refine own_s (g' := (mkF m 196 (own_Lown_mid_0 sl0 sl1 sl2 sl3 sl4 fl nn aT aC .unset .unset .unset .unset .unset) [])) st160 ?_
  obtain ⟨se1, hse1⟩ : ∃ z, z = (w2p14_a2_0_1 sa1 sc4) := ⟨_, rfl⟩
  rw [← hse1] at f161
  obtain ⟨se4, hse4⟩ : ∃ z, z = (w2p14_a2_0_4 sa1 sc4) := ⟨_, rfl⟩
  rw [← hse4] at f161
  refine own_s (g' := (mkF m 198 (own_Lown_mid_0 sl0 sl1 sl2 sl3 sl4 fl nn aT aC .unset .unset .unset .unset .unset) [(.ref aT)])) (fun _ kz => XS.aload X160.here hx rfl (hb hby at_196) rfl rfl kz) ?_
  refine own_s (g' := (mkF m 199 (own_Lown_mid_0 sl0 sl1 sl2 sl3 sl4 fl nn aT aC .unset .unset .unset .unset .unset) [(.int 0), (.ref aT)])) (fun _ kz => XS.iconst X160.here hx rfl (hb hby at_198) kz) ?_
  refine own_s (g' := (mkF m 200 (own_Lown_mid_0 sl0 sl1 sl2 sl3 sl4 fl nn aT aC .unset .unset .unset .unset .unset) [(.int 3), (.int 0), (.ref aT)])) (fun _ kz => XS.iconst X160.here hx rfl (hb hby at_199) kz) ?_
  obtain ⟨_, _, ⟨T162, L162, k162, n162⟩, -, X162, ⟨Lc162, hQ162, l162, y162, z162⟩, st162⟩ := Jvm.LawKit.callS X160 hx (y := (⟨"gallai/service/GraphicalitySlacksPinLaw", "order", "([III)V"⟩ : MethodName)) hown (mvT hZ ww6) (mvT hZ ww7) (mvT hZ ww4) (mvT hZ ww8) (by decide) (backOf (W := 0) (rm2p03 l Z a0 hw [] aT kt sa0 se1 sd2 sd3 se4 T160.heap n0 (Nat.le_trans Z0 K160.1) f161 g_aT) hZ ww8 ww4 (by decide) (by decide)) (g := (mkF m 200 (own_Lown_mid_0 sl0 sl1 sl2 sl3 sl4 fl nn aT aC .unset .unset .unset .unset .unset) [(.int 3), (.int 0), (.ref aT)])) rfl (by rw [hml]; rfl) (argsL := [(.ref aT), (.int 0), (.int 3)]) (rest := []) (lenOf pd___III_V rfl) rfl (by show 2 * 0 + _ ≤ _; exact Nat.le_of_eq rfl) (hb hby at_200) (fun _ _ => ⟨rfl, rfl, (by decide : 2 + 0 ≤ _), (by decide : 20 + 0 ≤ _)⟩)
  dsimp only [Pt.U, Pt.locs, Pt.cells, Pt.slots] at X162 l162 y162 z162 st162 hQ162
  subst l162 y162 z162
  obtain ⟨rfl, N162q, K162q, f163⟩ := hQ162
  have K162 := K160.trans K162q (allS (Or.inl (List.mem_of_getElem? (i := 0) rfl)) all0)
  have N162 := Fr.app N160 N162q
  refine own_s (g' := (mkF m 203 (own_Lown_mid_0 sl0 sl1 sl2 sl3 sl4 fl nn aT aC .unset .unset .unset .unset .unset) [])) st162 ?_
  obtain ⟨sf0, hsf0⟩ : ∃ z, z = (w2p03_a2_0_0 sa0 sd3) := ⟨_, rfl⟩
  rw [← hsf0] at f163
  obtain ⟨sf3, hsf3⟩ : ∃ z, z = (w2p03_a2_0_3 sa0 sd3) := ⟨_, rfl⟩
  rw [← hsf3] at f163
  refine own_s (g' := (mkF m 205 (own_Lown_mid_0 sl0 sl1 sl2 sl3 sl4 fl nn aT aC .unset .unset .unset .unset .unset) [(.ref aT)])) (fun _ kz => XS.aload X162.here hx rfl (hb hby at_203) rfl rfl kz) ?_
  refine own_s (g' := (mkF m 206 (own_Lown_mid_0 sl0 sl1 sl2 sl3 sl4 fl nn aT aC .unset .unset .unset .unset .unset) [(.int 0), (.ref aT)])) (fun _ kz => XS.iconst X162.here hx rfl (hb hby at_205) kz) ?_
  refine own_s (g' := (mkF m 207 (own_Lown_mid_0 sl0 sl1 sl2 sl3 sl4 fl nn aT aC .unset .unset .unset .unset .unset) [(.int 2), (.int 0), (.ref aT)])) (fun _ kz => XS.iconst X162.here hx rfl (hb hby at_206) kz) ?_
  obtain ⟨_, _, ⟨T164, L164, k164, n164⟩, -, X164, ⟨Lc164, hQ164, l164, y164, z164⟩, st164⟩ := Jvm.LawKit.callS X162 hx (y := (⟨"gallai/service/GraphicalitySlacksPinLaw", "order", "([III)V"⟩ : MethodName)) hown (mvT hZ ww6) (mvT hZ ww7) (mvT hZ ww4) (mvT hZ ww8) (by decide) (backOf (W := 0) (rm2p02 l Z a0 hw [] aT kt sf0 se1 sd2 sf3 se4 T162.heap n0 (Nat.le_trans Z0 K162.1) f163 g_aT) hZ ww8 ww4 (by decide) (by decide)) (g := (mkF m 207 (own_Lown_mid_0 sl0 sl1 sl2 sl3 sl4 fl nn aT aC .unset .unset .unset .unset .unset) [(.int 2), (.int 0), (.ref aT)])) rfl (by rw [hml]; rfl) (argsL := [(.ref aT), (.int 0), (.int 2)]) (rest := []) (lenOf pd___III_V rfl) rfl (by show 2 * 0 + _ ≤ _; exact Nat.le_of_eq rfl) (hb hby at_207) (fun _ _ => ⟨rfl, rfl, (by decide : 2 + 0 ≤ _), (by decide : 20 + 0 ≤ _)⟩)
  dsimp only [Pt.U, Pt.locs, Pt.cells, Pt.slots] at X164 l164 y164 z164 st164 hQ164
  subst l164 y164 z164
  obtain ⟨rfl, N164q, K164q, f165⟩ := hQ164
  have K164 := K162.trans K164q (allS (Or.inl (List.mem_of_getElem? (i := 0) rfl)) all0)
  have N164 := Fr.app N162 N164q
  refine own_s (g' := (mkF m 210 (own_Lown_mid_0 sl0 sl1 sl2 sl3 sl4 fl nn aT aC .unset .unset .unset .unset .unset) [])) st164 ?_
  obtain ⟨sg0, hsg0⟩ : ∃ z, z = (w2p02_a2_0_0 sf0 sd2) := ⟨_, rfl⟩
  rw [← hsg0] at f165
  obtain ⟨sg2, hsg2⟩ : ∃ z, z = (w2p02_a2_0_2 sf0 sd2) := ⟨_, rfl⟩
  rw [← hsg2] at f165
  refine own_s (g' := (mkF m 212 (own_Lown_mid_0 sl0 sl1 sl2 sl3 sl4 fl nn aT aC .unset .unset .unset .unset .unset) [(.ref aT)])) (fun _ kz => XS.aload X164.here hx rfl (hb hby at_210) rfl rfl kz) ?_
  refine own_s (g' := (mkF m 213 (own_Lown_mid_0 sl0 sl1 sl2 sl3 sl4 fl nn aT aC .unset .unset .unset .unset .unset) [(.int 1), (.ref aT)])) (fun _ kz => XS.iconst X164.here hx rfl (hb hby at_212) kz) ?_
  refine own_s (g' := (mkF m 214 (own_Lown_mid_0 sl0 sl1 sl2 sl3 sl4 fl nn aT aC .unset .unset .unset .unset .unset) [(.int 3), (.int 1), (.ref aT)])) (fun _ kz => XS.iconst X164.here hx rfl (hb hby at_213) kz) ?_
  obtain ⟨_, _, ⟨T166, L166, k166, n166⟩, -, X166, ⟨Lc166, hQ166, l166, y166, z166⟩, st166⟩ := Jvm.LawKit.callS X164 hx (y := (⟨"gallai/service/GraphicalitySlacksPinLaw", "order", "([III)V"⟩ : MethodName)) hown (mvT hZ ww6) (mvT hZ ww7) (mvT hZ ww4) (mvT hZ ww8) (by decide) (backOf (W := 0) (rm2p13 l Z a0 hw [] aT kt sg0 se1 sg2 sf3 se4 T164.heap n0 (Nat.le_trans Z0 K164.1) f165 g_aT) hZ ww8 ww4 (by decide) (by decide)) (g := (mkF m 214 (own_Lown_mid_0 sl0 sl1 sl2 sl3 sl4 fl nn aT aC .unset .unset .unset .unset .unset) [(.int 3), (.int 1), (.ref aT)])) rfl (by rw [hml]; rfl) (argsL := [(.ref aT), (.int 1), (.int 3)]) (rest := []) (lenOf pd___III_V rfl) rfl (by show 2 * 0 + _ ≤ _; exact Nat.le_of_eq rfl) (hb hby at_214) (fun _ _ => ⟨rfl, rfl, (by decide : 2 + 0 ≤ _), (by decide : 20 + 0 ≤ _)⟩)
  dsimp only [Pt.U, Pt.locs, Pt.cells, Pt.slots] at X166 l166 y166 z166 st166 hQ166
  subst l166 y166 z166
  obtain ⟨rfl, N166q, K166q, f167⟩ := hQ166
  have K166 := K164.trans K166q (allS (Or.inl (List.mem_of_getElem? (i := 0) rfl)) all0)
  have N166 := Fr.app N164 N166q
  refine own_s (g' := (mkF m 217 (own_Lown_mid_0 sl0 sl1 sl2 sl3 sl4 fl nn aT aC .unset .unset .unset .unset .unset) [])) st166 ?_
  obtain ⟨sh1, hsh1⟩ : ∃ z, z = (w2p13_a2_0_1 se1 sf3) := ⟨_, rfl⟩
  rw [← hsh1] at f167
  obtain ⟨sh3, hsh3⟩ : ∃ z, z = (w2p13_a2_0_3 se1 sf3) := ⟨_, rfl⟩
  rw [← hsh3] at f167
  refine own_s (g' := (mkF m 219 (own_Lown_mid_0 sl0 sl1 sl2 sl3 sl4 fl nn aT aC .unset .unset .unset .unset .unset) [(.ref aT)])) (fun _ kz => XS.aload X166.here hx rfl (hb hby at_217) rfl rfl kz) ?_
  refine own_s (g' := (mkF m 220 (own_Lown_mid_0 sl0 sl1 sl2 sl3 sl4 fl nn aT aC .unset .unset .unset .unset .unset) [(.int 1), (.ref aT)])) (fun _ kz => XS.iconst X166.here hx rfl (hb hby at_219) kz) ?_
  refine own_s (g' := (mkF m 221 (own_Lown_mid_0 sl0 sl1 sl2 sl3 sl4 fl nn aT aC .unset .unset .unset .unset .unset) [(.int 2), (.int 1), (.ref aT)])) (fun _ kz => XS.iconst X166.here hx rfl (hb hby at_220) kz) ?_
  obtain ⟨_, _, ⟨T168, L168, k168, n168⟩, -, X168, ⟨Lc168, hQ168, l168, y168, z168⟩, st168⟩ := Jvm.LawKit.callS X166 hx (y := (⟨"gallai/service/GraphicalitySlacksPinLaw", "order", "([III)V"⟩ : MethodName)) hown (mvT hZ ww6) (mvT hZ ww7) (mvT hZ ww4) (mvT hZ ww8) (by decide) (backOf (W := 0) (rm2p12 l Z a0 hw [] aT kt sg0 sh1 sg2 sh3 se4 T166.heap n0 (Nat.le_trans Z0 K166.1) f167 g_aT) hZ ww8 ww4 (by decide) (by decide)) (g := (mkF m 221 (own_Lown_mid_0 sl0 sl1 sl2 sl3 sl4 fl nn aT aC .unset .unset .unset .unset .unset) [(.int 2), (.int 1), (.ref aT)])) rfl (by rw [hml]; rfl) (argsL := [(.ref aT), (.int 1), (.int 2)]) (rest := []) (lenOf pd___III_V rfl) rfl (by show 2 * 0 + _ ≤ _; exact Nat.le_of_eq rfl) (hb hby at_221) (fun _ _ => ⟨rfl, rfl, (by decide : 2 + 0 ≤ _), (by decide : 20 + 0 ≤ _)⟩)
  dsimp only [Pt.U, Pt.locs, Pt.cells, Pt.slots] at X168 l168 y168 z168 st168 hQ168
  subst l168 y168 z168
  obtain ⟨rfl, N168q, K168q, f169⟩ := hQ168
  have K168 := K166.trans K168q (allS (Or.inl (List.mem_of_getElem? (i := 0) rfl)) all0)
  have N168 := Fr.app N166 N168q
  refine own_s (g' := (mkF m 224 (own_Lown_mid_0 sl0 sl1 sl2 sl3 sl4 fl nn aT aC .unset .unset .unset .unset .unset) [])) st168 ?_
  obtain ⟨si1, hsi1⟩ : ∃ z, z = (w2p12_a2_0_1 sh1 sg2) := ⟨_, rfl⟩
  rw [← hsi1] at f169
  obtain ⟨si2, hsi2⟩ : ∃ z, z = (w2p12_a2_0_2 sh1 sg2) := ⟨_, rfl⟩
  rw [← hsi2] at f169
  have hP := hgd sa0 sa1 sb3 sb4 sc2 sc4 sd2 sd3 se1 se4 sf0 sf3 sg0 sg2 sh1 sh3 si1 si2 hsa0 hsa1 hsb3 hsb4 hsc2 hsc4 hsd2 hsd3 hse1 hse4 hsf0 hsf3 hsg0 hsg2 hsh1 hsh3 hsi1 hsi2
  have hp0 := hP.1
  have hq0 := hP.2.1
  refine own_s (g' := (mkF m 226 (own_Lown_mid_0 sl0 sl1 sl2 sl3 sl4 fl nn aT aC .unset .unset .unset .unset .unset) [(.int nn)])) (fun _ kz => XS.iload X168.here hx rfl (hb hby at_224) rfl kz) ?_
  refine own_s (g' := (mkF m 233 (own_Lown_mid_0 sl0 sl1 sl2 sl3 sl4 fl nn aT aC .unset .unset .unset .unset .unset) [])) (fun _ kz => XS.ifYes X168.here hx rfl (pc0 := 226) (pc' := 233) rfl (hb hby at_226) rfl ((if0 _ _).trans (feq hn0).2) (by decide) (by decide) kz) ?_
  refine own_s (g' := (mkF m 235 (own_Lown_mid_0 sl0 sl1 sl2 sl3 sl4 fl nn aT aC .unset .unset .unset .unset .unset) [(.ref aT)])) (fun _ kz => XS.aload X168.here hx rfl (hb hby at_233) rfl rfl kz) ?_
  refine own_s (g' := (mkF m 236 (own_Lown_mid_0 sl0 sl1 sl2 sl3 sl4 fl nn aT aC .unset .unset .unset .unset .unset) [(.int 0), (.ref aT)])) (fun _ kz => XS.iconst X168.here hx rfl (hb hby at_235) kz) ?_
  obtain ⟨cl170, Ar170, -, S170, -, H170, -⟩ := id f169
  have in170 := inb_of S170 (j := (0 : Int32)) ⟨by decide, by decide⟩
  refine own_s (g' := (mkF m 237 (own_Lown_mid_0 sl0 sl1 sl2 sl3 sl4 fl nn aT aC .unset .unset .unset .unset .unset) [(.int sg0)])) (X168.iaload hx (j := (0 : Int32)) (v := (.int sg0)) Ar170.1 (State.isArrayOf_alike hZ.alike Ar170.2.1) Ar170.2.2 in170 (Has.at H170 in170 rfl) (g := (mkF m 236 (own_Lown_mid_0 sl0 sl1 sl2 sl3 sl4 fl nn aT aC .unset .unset .unset .unset .unset) [(.int 0), (.ref aT)])) rfl rfl (hb hby at_236)) ?_
  refine own_s (g' := (mkF m 239 (own_Lown_mid_0 sl0 sl1 sl2 sl3 sl4 fl nn aT aC .unset .unset .unset .unset .unset) [(.int fl), (.int sg0)])) (fun _ kz => XS.iload X168.here hx rfl (hb hby at_237) rfl kz) ?_
  refine own_s (g' := (mkF m 241 (own_Lown_mid_0 sl0 sl1 sl2 sl3 sl4 fl nn aT aC .unset .unset .unset .unset .unset) [(.int 8), (.int fl), (.int sg0)])) (fun _ kz => XS.bipush X168.here hx rfl (hb hby at_239) kz) ?_
  refine own_s (g' := (mkF m 242 (own_Lown_mid_0 sl0 sl1 sl2 sl3 sl4 fl nn aT aC .unset .unset .unset .unset .unset) [(.int ((fl.toUInt32 >>> ((8 : Int32) &&& 31).toUInt32).toInt32)), (.int sg0)])) (fun _ kz => XS.iushr X168.here hx rfl (hb hby at_241) rfl kz) ?_
  refine own_s (g' := (mkF m 244 (own_Lown_mid_0 sl0 sl1 sl2 sl3 sl4 fl nn aT aC .unset .unset .unset .unset .unset) [(.int nn), (.int ((fl.toUInt32 >>> ((8 : Int32) &&& 31).toUInt32).toInt32)), (.int sg0)])) (fun _ kz => XS.iload X168.here hx rfl (hb hby at_242) rfl kz) ?_
  refine own_s (g' := (mkF m 246 (own_Lown_mid_0 sl0 sl1 sl2 sl3 sl4 fl nn aT aC .unset .unset .unset .unset .unset) [(.ref aT), (.int nn), (.int ((fl.toUInt32 >>> ((8 : Int32) &&& 31).toUInt32).toInt32)), (.int sg0)])) (fun _ kz => XS.aload X168.here hx rfl (hb hby at_244) rfl rfl kz) ?_
  refine own_s (g' := (mkF m 247 (own_Lown_mid_0 sl0 sl1 sl2 sl3 sl4 fl nn aT aC .unset .unset .unset .unset .unset) [(.int 0), (.ref aT), (.int nn), (.int ((fl.toUInt32 >>> ((8 : Int32) &&& 31).toUInt32).toInt32)), (.int sg0)])) (fun _ kz => XS.iconst X168.here hx rfl (hb hby at_246) kz) ?_
  obtain ⟨cl171, Ar171, -, S171, -, H171, -⟩ := id f169
  have in171 := inb_of S171 (j := (0 : Int32)) ⟨by decide, by decide⟩
  refine own_s (g' := (mkF m 248 (own_Lown_mid_0 sl0 sl1 sl2 sl3 sl4 fl nn aT aC .unset .unset .unset .unset .unset) [(.int sg0), (.int nn), (.int ((fl.toUInt32 >>> ((8 : Int32) &&& 31).toUInt32).toInt32)), (.int sg0)])) (X168.iaload hx (j := (0 : Int32)) (v := (.int sg0)) Ar171.1 (State.isArrayOf_alike hZ.alike Ar171.2.1) Ar171.2.2 in171 (Has.at H171 in171 rfl) (g := (mkF m 247 (own_Lown_mid_0 sl0 sl1 sl2 sl3 sl4 fl nn aT aC .unset .unset .unset .unset .unset) [(.int 0), (.ref aT), (.int nn), (.int ((fl.toUInt32 >>> ((8 : Int32) &&& 31).toUInt32).toInt32)), (.int sg0)])) rfl rfl (hb hby at_247)) ?_
  refine own_s (g' := (mkF m 249 (own_Lown_mid_0 sl0 sl1 sl2 sl3 sl4 fl nn aT aC .unset .unset .unset .unset .unset) [(.int (nn - sg0)), (.int ((fl.toUInt32 >>> ((8 : Int32) &&& 31).toUInt32).toInt32)), (.int sg0)])) (fun _ kz => XS.isub X168.here hx rfl (hb hby at_248) rfl kz) ?_
  refine own_s (g' := (mkF m 250 (own_Lown_mid_0 sl0 sl1 sl2 sl3 sl4 fl nn aT aC .unset .unset .unset .unset .unset) [(.int (((fl.toUInt32 >>> ((8 : Int32) &&& 31).toUInt32).toInt32) % (nn - sg0))), (.int sg0)])) (fun _ kz => iremM X168 hx rfl (hb hby at_249) rfl (own_dn hnn hq0) kz) ?_
  refine own_s (g' := (mkF m 251 (own_Lown_mid_0 sl0 sl1 sl2 sl3 sl4 fl nn aT aC .unset .unset .unset .unset .unset) [(.int (sg0 + (((fl.toUInt32 >>> ((8 : Int32) &&& 31).toUInt32).toInt32) % (nn - sg0))))])) (fun _ kz => XS.iadd X168.here hx rfl (hb hby at_250) rfl kz) ?_
  obtain ⟨lg, hlg⟩ : ∃ z, z = (sg0 + (((fl.toUInt32 >>> ((8 : Int32) &&& 31).toUInt32).toInt32) % (nn - sg0))) := ⟨_, rfl⟩
  rw [← hlg]
  have hl := own_lg sg0 fl nn NN hnn hN1 hp0 hq0
  rw [← hlg] at hl
  have hlt := own_ltn (n := nn) hnn hl.2
  have hl3 := Int.le_trans hp0 hl.1
  have hl4 : lg.toInt < 5 := Int.lt_of_lt_of_le hl.2 hN5
  refine own_s (g' := (mkF m 253 (own_Lown_mid_0 sl0 sl1 sl2 sl3 sl4 fl nn aT aC (.val (.int lg)) .unset .unset .unset .unset) [])) (fun _ kz => XS.istore X168.here hx rfl (hb hby at_251) rfl (l' := (own_Lown_mid_0 sl0 sl1 sl2 sl3 sl4 fl nn aT aC (.val (.int lg)) .unset .unset .unset .unset)) rfl kz) ?_
  refine own_s (g' := (mkF m 255 (own_Lown_mid_0 sl0 sl1 sl2 sl3 sl4 fl nn aT aC (.val (.int lg)) .unset .unset .unset .unset) [(.int nn)])) (fun _ kz => XS.iload X168.here hx rfl (hb hby at_253) rfl kz) ?_
  refine own_s (g' := (mkF m 257 (own_Lown_mid_0 sl0 sl1 sl2 sl3 sl4 fl nn aT aC (.val (.int lg)) .unset .unset .unset .unset) [(.int lg), (.int nn)])) (fun _ kz => XS.iload X168.here hx rfl (hb hby at_255) rfl kz) ?_
  obtain ⟨_, _, ⟨T172, L172, k172, n172⟩, -, X172, ⟨Lc172, hQ172, l172, y172, z172⟩, st172⟩ := Jvm.LawKit.callS X168 hx (y := (⟨"java/lang/Math", "min", "(II)I"⟩ : MethodName)) hown (mvT hZ ww9) (mvT hZ ww10) (mvT hZ ww11) (mvT hZ ww12) (by decide) (backOf (W := 0) (rm3 l Z a0 hw [] nn lg T168.heap n0 (Nat.le_trans Z0 K168.1) ) hZ ww12 ww11 (by decide) (by decide)) (g := (mkF m 257 (own_Lown_mid_0 sl0 sl1 sl2 sl3 sl4 fl nn aT aC (.val (.int lg)) .unset .unset .unset .unset) [(.int lg), (.int nn)])) rfl (by rw [hml]; rfl) (argsL := [(.int nn), (.int lg)]) (rest := []) (lenOf pd__II_I rfl) rfl (by show 2 * 0 + _ ≤ _; exact Nat.le_of_eq rfl) (hb hby at_257) (fun _ _ => ⟨rfl, rfl, (by decide : 2 + 0 ≤ _), (by decide : 20 + 0 ≤ _)⟩)
  dsimp only [Pt.U, Pt.locs, Pt.cells, Pt.slots] at X172 l172 y172 z172 st172 hQ172
  subst l172 y172 z172
  obtain ⟨rfl, N172q, eh172⟩ := hQ172
  have N172 := Fr.app N168 N172q
  refine own_s (g' := (mkF m 260 (own_Lown_mid_0 sl0 sl1 sl2 sl3 sl4 fl nn aT aC (.val (.int lg)) .unset .unset .unset .unset) [(.int (r3 nn lg))])) st172 ?_
  rw [show (r3 nn lg) = lg from (if_pos hlt)]
  refine own_s (g' := (mkF m 261 (own_Lown_mid_0 sl0 sl1 sl2 sl3 sl4 fl nn aT aC (.val (.int lg)) .unset .unset .unset .unset) [(.int 1), (.int lg)])) (fun _ kz => XS.iconst X172.here hx rfl (hb hby at_260) kz) ?_
  refine own_s (g' := (mkF m 262 (own_Lown_mid_0 sl0 sl1 sl2 sl3 sl4 fl nn aT aC (.val (.int lg)) .unset .unset .unset .unset) [(.int (lg + (1 : Int32)))])) (fun _ kz => XS.iadd X172.here hx rfl (hb hby at_261) rfl kz) ?_
  obtain ⟨T173, h173, k173, X173, e173, E173, A173, st173⟩ := newP (aty := .long) X172 hx hZ ww13 eh172 (g := (mkF m 262 (own_Lown_mid_0 sl0 sl1 sl2 sl3 sl4 fl nn aT aC (.val (.int lg)) .unset .unset .unset .unset) [(.int (lg + (1 : Int32)))])) rfl (hb hby at_262) rfl (own_gn (N := 5) (by decide) hl3 hl4) (cap := 5) (own_gc hl3 hl4) (by decide) (by decide) (by decide)
  obtain ⟨b173, ga173⟩ : ∃ z, z = T168.heap.size := ⟨_, rfl⟩
  rw [← ga173] at A173 st173
  have g_b173 := Nat.le_trans (Nat.le_trans Z0 K168.1) (Nat.le_of_eq ga173.symm)
  have sz_b173 := Nat.le_trans K168.1 (Nat.le_of_eq ga173.symm)
  have V173 : Arv Z h173 b173 k173 .long (lg + (1 : Int32)) [] (.long 0) := Arv.new A173 (own_gn (N := 5) (by decide) hl3 hl4)
  have K173 := K168.ext E173
  refine own_s (g' := (mkF m 264 (own_Lown_mid_0 sl0 sl1 sl2 sl3 sl4 fl nn aT aC (.val (.int lg)) .unset .unset .unset .unset) [(.ref b173)])) st173 ?_
  have f174 : Arv Z h173 b173 k173 .long (lg + (1 : Int32)) ((List.replicate (lg + (1 : Int32)).toNatClampNeg (0 : Int64)).map Value.long) (.long 0) := by rw [List.map_replicate]; exact V173.pad (pad_rep [] (.long 0) (lg + (1 : Int32)).toNatClampNeg)
  obtain ⟨rr, sx, hmo, hok⟩ := hP.2.2 lg hl.1 hl.2
  refine own_s (g' := (mkF m 266 (own_Lown_mid_0 sl0 sl1 sl2 sl3 sl4 fl nn aT aC (.val (.int lg)) (.val (.ref b173)) .unset .unset .unset) [])) (fun _ kz => XS.astore X173.here hx rfl (hb hby at_264) rfl rfl (l' := (own_Lown_mid_0 sl0 sl1 sl2 sl3 sl4 fl nn aT aC (.val (.int lg)) (.val (.ref b173)) .unset .unset .unset)) rfl kz) ?_
  refine own_s (g' := (mkF m 268 (own_Lown_mid_0 sl0 sl1 sl2 sl3 sl4 fl nn aT aC (.val (.int lg)) (.val (.ref b173)) .unset .unset .unset) [(.ref aC)])) (fun _ kz => XS.aload X173.here hx rfl (hb hby at_266) rfl rfl kz) ?_
  refine own_s (g' := (mkF m 270 (own_Lown_mid_0 sl0 sl1 sl2 sl3 sl4 fl nn aT aC (.val (.int lg)) (.val (.ref b173)) .unset .unset .unset) [(.int lg), (.ref aC)])) (fun _ kz => XS.iload X173.here hx rfl (hb hby at_268) rfl kz) ?_
  refine own_s (g' := (mkF m 272 (own_Lown_mid_0 sl0 sl1 sl2 sl3 sl4 fl nn aT aC (.val (.int lg)) (.val (.ref b173)) .unset .unset .unset) [(.ref b173), (.int lg), (.ref aC)])) (fun _ kz => XS.aload X173.here hx rfl (hb hby at_270) rfl rfl kz) ?_
  have f176 := ((((((((((V_aC.keep K152q (ninS ne_aC_aT nin0)).keep K154q (ninS ne_aC_aT nin0)).keep K156q (ninS ne_aC_aT nin0)).keep K158q (ninS ne_aC_aT nin0)).keep K160q (ninS ne_aC_aT nin0)).keep K162q (ninS ne_aC_aT nin0)).keep K164q (ninS ne_aC_aT nin0)).keep K166q (ninS ne_aC_aT nin0)).keep K168q (ninS ne_aC_aT nin0)).ext E173)
  have ne177 : aC ≠ b173 := Nat.ne_of_lt (Nat.lt_of_lt_of_le (((((((((V_aC.keep K152q (ninS ne_aC_aT nin0)).keep K154q (ninS ne_aC_aT nin0)).keep K156q (ninS ne_aC_aT nin0)).keep K158q (ninS ne_aC_aT nin0)).keep K160q (ninS ne_aC_aT nin0)).keep K162q (ninS ne_aC_aT nin0)).keep K164q (ninS ne_aC_aT nin0)).keep K166q (ninS ne_aC_aT nin0)).keep K168q (ninS ne_aC_aT nin0)).lt (Nat.le_of_eq ga173.symm))
  obtain ⟨_, _, ⟨T175, L175, k175, n175⟩, -, X175, ⟨Lc175, hQ175, l175, y175, z175⟩, st175⟩ := Jvm.LawKit.callS X173 hx (y := (⟨"gallai/service/Graphicality", "slacks", "([II[J)I"⟩ : MethodName)) hown (mvT hZ ww14) (mvT hZ ww15) (mvT hZ ww16) (mvT hZ ww17) (by decide) (backOf (W := 0) (rm4 l Z a0 hw [] aC lg b173 cs (List.replicate (lg + (1 : Int32)).toNatClampNeg (0 : Int64)) rr sx kc nn k173 (lg + (1 : Int32)) h173 n0 (Nat.le_trans Z0 K173.1) f176 f174 g_b173 ne177 (List.length_replicate ..) hmo) hZ ww17 ww16 (by decide) (by decide)) (g := (mkF m 272 (own_Lown_mid_0 sl0 sl1 sl2 sl3 sl4 fl nn aT aC (.val (.int lg)) (.val (.ref b173)) .unset .unset .unset) [(.ref b173), (.int lg), (.ref aC)])) rfl (by rw [hml]; rfl) (argsL := [(.ref aC), (.int lg), (.ref b173)]) (rest := []) (lenOf pd___II_J_I rfl) rfl (by show 2 * 0 + _ ≤ _; exact Nat.le_of_eq rfl) (hb hby at_272) (fun _ _ => ⟨rfl, e173, (by decide : 3 + 0 ≤ _), (by decide : 25 + 0 ≤ _)⟩)
  dsimp only [Pt.U, Pt.locs, Pt.cells, Pt.slots] at X175 l175 y175 z175 st175 hQ175
  subst l175 y175 z175
  obtain ⟨rfl, N175q, K175q, f178⟩ := hQ175
  have K175 := K173.trans K175q (allS (Or.inr sz_b173) all0)
  have N175 := Fr.app N172 N175q
  refine own_s (g' := (mkF m 275 (own_Lown_mid_0 sl0 sl1 sl2 sl3 sl4 fl nn aT aC (.val (.int lg)) (.val (.ref b173)) .unset .unset .unset) [(.int rr)])) st175 ?_
  refine own_s (g' := (mkF m 277 (own_Lown_mid_0 sl0 sl1 sl2 sl3 sl4 fl nn aT aC (.val (.int lg)) (.val (.ref b173)) (.val (.int rr)) .unset .unset) [])) (fun _ kz => XS.istore X175.here hx rfl (hb hby at_275) rfl (l' := (own_Lown_mid_0 sl0 sl1 sl2 sl3 sl4 fl nn aT aC (.val (.int lg)) (.val (.ref b173)) (.val (.int rr)) .unset .unset)) rfl kz) ?_
  have ne179 : aT ≠ b173 := Nat.ne_of_lt (Nat.lt_of_lt_of_le f169.lt (Nat.le_of_eq ga173.symm))
  have f180 := ((f169.ext E173).keep K175q (ninS ne179 nin0))
  exact own_tail l Z a0 hw (sl0) (sl1) (sl2) (sl3) (sl4) (.val (.int fl)) (.val (.int nn)) aT (.val (.ref aC)) (.val (.int lg)) b173 rr sx kt sg0 si1 si2 sh3 se4 k173 (lg + (1 : Int32)) (X175.more (by decide) (by decide)) hx hZ hby hml hown hlk hret T175.heap n0 rfl (Nat.le_trans Z0 K175.1) N175 f180 f178 hok
def own_gdz (nn y0 y1 y2 y3 y4 : Int32) (cs : List Int32) : Prop := ∀ (sa0 sa1 sb3 sb4 sc2 sc4 sd2 sd3 se1 se4 sf0 sf3 sg0 sg2 sh1 sh3 si1 si2 : Int32), sa0 = (w2p01_a2_0_0 y0 y1) → sa1 = (w2p01_a2_0_1 y0 y1) → sb3 = (w2p34_a2_0_3 y3 y4) → sb4 = (w2p34_a2_0_4 y3 y4) → sc2 = (w2p24_a2_0_2 y2 sb4) → sc4 = (w2p24_a2_0_4 y2 sb4) → sd2 = (w2p23_a2_0_2 sc2 sb3) → sd3 = (w2p23_a2_0_3 sc2 sb3) → se1 = (w2p14_a2_0_1 sa1 sc4) → se4 = (w2p14_a2_0_4 sa1 sc4) → sf0 = (w2p03_a2_0_0 sa0 sd3) → sf3 = (w2p03_a2_0_3 sa0 sd3) → sg0 = (w2p02_a2_0_0 sf0 sd2) → sg2 = (w2p02_a2_0_2 sf0 sd2) → sh1 = (w2p13_a2_0_1 se1 sf3) → sh3 = (w2p13_a2_0_3 se1 sf3) → si1 = (w2p12_a2_0_1 sh1 sg2) → si2 = (w2p12_a2_0_2 sh1 sg2) → ∃ rr sx, own_out cs nn (nn + (1 : Int32)) 7 (1 : Int32) ((0 : Int32) + (1 : Int32)) (0 : Int32) (0 : Int64) nn (0 : Int64) (List.replicate (nn + (1 : Int32)).toNatClampNeg (0 : Int64)) = some (rr, sx) ∧ own_okB sg0 si1 si2 sh3 se4 rr (nn + (1 : Int32)) sx = true
theorem own_gd0 (cs0 : List Int32) (hcs0 : cs0 = []) : own_gdz 0 (-1) (-1) (-1) (-1) (-1) cs0 := by
  intro sa0 sa1 sb3 sb4 sc2 sc4 sd2 sd3 se1 se4 sf0 sf3 sg0 sg2 sh1 sh3 si1 si2 hsa0 hsa1 hsb3 hsb4 hsc2 hsc4 hsd2 hsd3 hse1 hse4 hsf0 hsf3 hsg0 hsg2 hsh1 hsh3 hsi1 hsi2
  subst hcs0 hsi2 hsi1 hsh3 hsh1 hsg2 hsg0 hsf3 hsf0 hse4 hse1 hsd3 hsd2 hsc4 hsc2 hsb4 hsb3 hsa1 hsa0
  exact ⟨0, [0], by decide +kernel, by decide +kernel⟩
abbrev own_Lown_midz_0 (sl0 : Slot) (sl1 : Slot) (sl2 : Slot) (sl3 : Slot) (sl4 : Slot) (fl : Int32) (nn : Int32) (aT : Addr) (aC : Addr) (l9 l10 l11 l12 l13 : Slot) : Array Slot := #[sl0, sl1, sl2, sl3, sl4, .val (.int fl), .val (.int nn), .val (.ref aT), .val (.ref aC), l9, l10, l11, l12, l13]
set_option maxRecDepth 65536 in
set_option maxHeartbeats 40000000 in
theorem own_midz (l : Launch) (Z : State) (a0 : Array Value) (hw : ∀ d ∈ tables_1, d.before a0 Z = true) (sl0 : Slot) (sl1 : Slot) (sl2 : Slot) (sl3 : Slot) (sl4 : Slot) (fl : Int32) (nn : Int32) (aT : Addr) (aC : Addr) (cs : List Int32) (kt : ClassId) (y0 : Int32) (y1 : Int32) (y2 : Int32) (y3 : Int32) (y4 : Int32) (kc : ClassId) {p : Program} {e : Env} {s : State} {m : MethodId} {args : Array Value} {below : List Frame} {meth : Method} {c : Code} {s₁ : State} {locs : List Loc}
    (X0 : Stand p l e room_1 s m args below meth c s₁ locs 2 20) (hx : p.tables.exec = Jvm.exec) (hZ : Z.Warmed39 s.vm) (hby : c.code = code) (hml : c.maxLocals = 14) (hown : s.vm.findClass "gallai/service/GraphicalitySlacksPinLaw" = some m.cls) (hlk : meth.locks = false) (hret : meth.sig.returnType = some .boolean) (h0 : Heap) (n0 : Nat) (e0 : s₁.heap = h0) (Z0 : n0 ≤ h0.size) (N0 : Fr n0 locs) (V_aT : Arv Z h0 aT kt .int (5 : Int32) [(.int y0), (.int y1), (.int y2), (.int y3), (.int y4)] (.int 0)) (V_aC : Arv Z h0 aC kc .int nn (cs.map Value.int) (.int 0)) (g_aT : n0 ≤ aT) (ne_aC_aT : aC ≠ aT) (hn0 : nn = (0 : Int32)) (hn1 : ¬ (0 : Int32) < nn) (hz1 : ¬ (nn + (1 : Int32)) < (0 : Int32)) (hz2 : (nn + (1 : Int32)).toNatClampNeg ≤ 5) (hgd : own_gdz nn y0 y1 y2 y3 y4 cs) :
    own_G p e below s (fun v h L => v = some (.int (1 : Int32)) ∧ Fr n0 L) 16 128 s₁ (mkF m 161 #[sl0, sl1, sl2, sl3, sl4, .val (.int fl), .val (.int nn), .val (.ref aT), .val (.ref aC), .unset, .unset, .unset, .unset, .unset] []) := by
  have K0 : Keep h0 h0 [aT] := Keep.refl _ _
  have ww4 := hw _ (List.mem_of_getElem? (i := 4) rfl)
  have ww6 := hw _ (List.mem_of_getElem? (i := 6) rfl)
  have ww7 := hw _ (List.mem_of_getElem? (i := 7) rfl)
  have ww8 := hw _ (List.mem_of_getElem? (i := 8) rfl)
  have ww9 := hw _ (List.mem_of_getElem? (i := 9) rfl)
  have ww10 := hw _ (List.mem_of_getElem? (i := 10) rfl)
  have ww11 := hw _ (List.mem_of_getElem? (i := 11) rfl)
  have ww12 := hw _ (List.mem_of_getElem? (i := 12) rfl)
  have ww13 := hw _ (List.mem_of_getElem? (i := 13) rfl)
  have ww14 := hw _ (List.mem_of_getElem? (i := 14) rfl)
  have ww15 := hw _ (List.mem_of_getElem? (i := 15) rfl)
  have ww16 := hw _ (List.mem_of_getElem? (i := 16) rfl)
  have ww17 := hw _ (List.mem_of_getElem? (i := 17) rfl)
  show own_G p e below s _ _ _ s₁ (mkF m _ (own_Lown_midz_0 sl0 sl1 sl2 sl3 sl4 fl nn aT aC .unset .unset .unset .unset .unset) _)
  refine own_s (g' := (mkF m 163 (own_Lown_midz_0 sl0 sl1 sl2 sl3 sl4 fl nn aT aC .unset .unset .unset .unset .unset) [(.ref aT)])) (fun _ kz => XS.aload X0.here hx rfl (hb hby at_161) rfl rfl kz) ?_
  refine own_s (g' := (mkF m 164 (own_Lown_midz_0 sl0 sl1 sl2 sl3 sl4 fl nn aT aC .unset .unset .unset .unset .unset) [(.int 0), (.ref aT)])) (fun _ kz => XS.iconst X0.here hx rfl (hb hby at_163) kz) ?_
  refine own_s (g' := (mkF m 165 (own_Lown_midz_0 sl0 sl1 sl2 sl3 sl4 fl nn aT aC .unset .unset .unset .unset .unset) [(.int 1), (.int 0), (.ref aT)])) (fun _ kz => XS.iconst X0.here hx rfl (hb hby at_164) kz) ?_
  obtain ⟨_, _, ⟨T181, L181, k181, n181⟩, -, X181, ⟨Lc181, hQ181, l181, y181, z181⟩, st181⟩ := Jvm.LawKit.callS X0 hx (y := (⟨"gallai/service/GraphicalitySlacksPinLaw", "order", "([III)V"⟩ : MethodName)) hown (mvT hZ ww6) (mvT hZ ww7) (mvT hZ ww4) (mvT hZ ww8) (by decide) (backOf (W := 0) (rm2p01 l Z a0 hw [] aT kt y0 y1 y2 y3 y4 h0 n0 Z0 V_aT g_aT) hZ ww8 ww4 (by decide) (by decide)) (g := (mkF m 165 (own_Lown_midz_0 sl0 sl1 sl2 sl3 sl4 fl nn aT aC .unset .unset .unset .unset .unset) [(.int 1), (.int 0), (.ref aT)])) rfl (by rw [hml]; rfl) (argsL := [(.ref aT), (.int 0), (.int 1)]) (rest := []) (lenOf pd___III_V rfl) rfl (by show 2 * 0 + _ ≤ _; exact Nat.le_of_eq rfl) (hb hby at_165) (fun _ _ => ⟨rfl, e0, (by decide : 2 + 0 ≤ _), (by decide : 20 + 0 ≤ _)⟩)
  dsimp only [Pt.U, Pt.locs, Pt.cells, Pt.slots] at X181 l181 y181 z181 st181 hQ181
  subst l181 y181 z181
  obtain ⟨rfl, N181q, K181q, f182⟩ := hQ181
  have K181 := K0.trans K181q (allS (Or.inl (List.mem_of_getElem? (i := 0) rfl)) all0)
  have N181 := Fr.app N0 N181q
  refine own_s (g' := (mkF m 168 (own_Lown_midz_0 sl0 sl1 sl2 sl3 sl4 fl nn aT aC .unset .unset .unset .unset .unset) [])) st181 ?_
  obtain ⟨sa0, hsa0⟩ : ∃ z, z = (w2p01_a2_0_0 y0 y1) := ⟨_, rfl⟩
  rw [← hsa0] at f182
  obtain ⟨sa1, hsa1⟩ : ∃ z, z = (w2p01_a2_0_1 y0 y1) := ⟨_, rfl⟩
  rw [← hsa1] at f182
  refine own_s (g' := (mkF m 170 (own_Lown_midz_0 sl0 sl1 sl2 sl3 sl4 fl nn aT aC .unset .unset .unset .unset .unset) [(.ref aT)])) (fun _ kz => XS.aload X181.here hx rfl (hb hby at_168) rfl rfl kz) ?_
  refine own_s (g' := (mkF m 171 (own_Lown_midz_0 sl0 sl1 sl2 sl3 sl4 fl nn aT aC .unset .unset .unset .unset .unset) [(.int 3), (.ref aT)])) (fun _ kz => XS.iconst X181.here hx rfl (hb hby at_170) kz) ?_
  refine own_s (g' := (mkF m 172 (own_Lown_midz_0 sl0 sl1 sl2 sl3 sl4 fl nn aT aC .unset .unset .unset .unset .unset) [(.int 4), (.int 3), (.ref aT)])) (fun _ kz => XS.iconst X181.here hx rfl (hb hby at_171) kz) ?_
  obtain ⟨_, _, ⟨T183, L183, k183, n183⟩, -, X183, ⟨Lc183, hQ183, l183, y183, z183⟩, st183⟩ := Jvm.LawKit.callS X181 hx (y := (⟨"gallai/service/GraphicalitySlacksPinLaw", "order", "([III)V"⟩ : MethodName)) hown (mvT hZ ww6) (mvT hZ ww7) (mvT hZ ww4) (mvT hZ ww8) (by decide) (backOf (W := 0) (rm2p34 l Z a0 hw [] aT kt sa0 sa1 y2 y3 y4 T181.heap n0 (Nat.le_trans Z0 K181.1) f182 g_aT) hZ ww8 ww4 (by decide) (by decide)) (g := (mkF m 172 (own_Lown_midz_0 sl0 sl1 sl2 sl3 sl4 fl nn aT aC .unset .unset .unset .unset .unset) [(.int 4), (.int 3), (.ref aT)])) rfl (by rw [hml]; rfl) (argsL := [(.ref aT), (.int 3), (.int 4)]) (rest := []) (lenOf pd___III_V rfl) rfl (by show 2 * 0 + _ ≤ _; exact Nat.le_of_eq rfl) (hb hby at_172) (fun _ _ => ⟨rfl, rfl, (by decide : 2 + 0 ≤ _), (by decide : 20 + 0 ≤ _)⟩)
  dsimp only [Pt.U, Pt.locs, Pt.cells, Pt.slots] at X183 l183 y183 z183 st183 hQ183
  subst l183 y183 z183
  obtain ⟨rfl, N183q, K183q, f184⟩ := hQ183
  have K183 := K181.trans K183q (allS (Or.inl (List.mem_of_getElem? (i := 0) rfl)) all0)
  have N183 := Fr.app N181 N183q
  refine own_s (g' := (mkF m 175 (own_Lown_midz_0 sl0 sl1 sl2 sl3 sl4 fl nn aT aC .unset .unset .unset .unset .unset) [])) st183 ?_
  obtain ⟨sb3, hsb3⟩ : ∃ z, z = (w2p34_a2_0_3 y3 y4) := ⟨_, rfl⟩
  rw [← hsb3] at f184
  obtain ⟨sb4, hsb4⟩ : ∃ z, z = (w2p34_a2_0_4 y3 y4) := ⟨_, rfl⟩
  rw [← hsb4] at f184
  refine own_s (g' := (mkF m 177 (own_Lown_midz_0 sl0 sl1 sl2 sl3 sl4 fl nn aT aC .unset .unset .unset .unset .unset) [(.ref aT)])) (fun _ kz => XS.aload X183.here hx rfl (hb hby at_175) rfl rfl kz) ?_
  refine own_s (g' := (mkF m 178 (own_Lown_midz_0 sl0 sl1 sl2 sl3 sl4 fl nn aT aC .unset .unset .unset .unset .unset) [(.int 2), (.ref aT)])) (fun _ kz => XS.iconst X183.here hx rfl (hb hby at_177) kz) ?_
  refine own_s (g' := (mkF m 179 (own_Lown_midz_0 sl0 sl1 sl2 sl3 sl4 fl nn aT aC .unset .unset .unset .unset .unset) [(.int 4), (.int 2), (.ref aT)])) (fun _ kz => XS.iconst X183.here hx rfl (hb hby at_178) kz) ?_
  obtain ⟨_, _, ⟨T185, L185, k185, n185⟩, -, X185, ⟨Lc185, hQ185, l185, y185, z185⟩, st185⟩ := Jvm.LawKit.callS X183 hx (y := (⟨"gallai/service/GraphicalitySlacksPinLaw", "order", "([III)V"⟩ : MethodName)) hown (mvT hZ ww6) (mvT hZ ww7) (mvT hZ ww4) (mvT hZ ww8) (by decide) (backOf (W := 0) (rm2p24 l Z a0 hw [] aT kt sa0 sa1 y2 sb3 sb4 T183.heap n0 (Nat.le_trans Z0 K183.1) f184 g_aT) hZ ww8 ww4 (by decide) (by decide)) (g := (mkF m 179 (own_Lown_midz_0 sl0 sl1 sl2 sl3 sl4 fl nn aT aC .unset .unset .unset .unset .unset) [(.int 4), (.int 2), (.ref aT)])) rfl (by rw [hml]; rfl) (argsL := [(.ref aT), (.int 2), (.int 4)]) (rest := []) (lenOf pd___III_V rfl) rfl (by show 2 * 0 + _ ≤ _; exact Nat.le_of_eq rfl) (hb hby at_179) (fun _ _ => ⟨rfl, rfl, (by decide : 2 + 0 ≤ _), (by decide : 20 + 0 ≤ _)⟩)
  dsimp only [Pt.U, Pt.locs, Pt.cells, Pt.slots] at X185 l185 y185 z185 st185 hQ185
  subst l185 y185 z185
  obtain ⟨rfl, N185q, K185q, f186⟩ := hQ185
  have K185 := K183.trans K185q (allS (Or.inl (List.mem_of_getElem? (i := 0) rfl)) all0)
  have N185 := Fr.app N183 N185q
  refine own_s (g' := (mkF m 182 (own_Lown_midz_0 sl0 sl1 sl2 sl3 sl4 fl nn aT aC .unset .unset .unset .unset .unset) [])) st185 ?_
  obtain ⟨sc2, hsc2⟩ : ∃ z, z = (w2p24_a2_0_2 y2 sb4) := ⟨_, rfl⟩
  rw [← hsc2] at f186
  obtain ⟨sc4, hsc4⟩ : ∃ z, z = (w2p24_a2_0_4 y2 sb4) := ⟨_, rfl⟩
  rw [← hsc4] at f186
  refine own_s (g' := (mkF m 184 (own_Lown_midz_0 sl0 sl1 sl2 sl3 sl4 fl nn aT aC .unset .unset .unset .unset .unset) [(.ref aT)])) (fun _ kz => XS.aload X185.here hx rfl (hb hby at_182) rfl rfl kz) ?_
  refine own_s (g' := (mkF m 185 (own_Lown_midz_0 sl0 sl1 sl2 sl3 sl4 fl nn aT aC .unset .unset .unset .unset .unset) [(.int 2), (.ref aT)])) (fun _ kz => XS.iconst X185.here hx rfl (hb hby at_184) kz) ?_
  refine own_s (g' := (mkF m 186 (own_Lown_midz_0 sl0 sl1 sl2 sl3 sl4 fl nn aT aC .unset .unset .unset .unset .unset) [(.int 3), (.int 2), (.ref aT)])) (fun _ kz => XS.iconst X185.here hx rfl (hb hby at_185) kz) ?_
  obtain ⟨_, _, ⟨T187, L187, k187, n187⟩, -, X187, ⟨Lc187, hQ187, l187, y187, z187⟩, st187⟩ := Jvm.LawKit.callS X185 hx (y := (⟨"gallai/service/GraphicalitySlacksPinLaw", "order", "([III)V"⟩ : MethodName)) hown (mvT hZ ww6) (mvT hZ ww7) (mvT hZ ww4) (mvT hZ ww8) (by decide) (backOf (W := 0) (rm2p23 l Z a0 hw [] aT kt sa0 sa1 sc2 sb3 sc4 T185.heap n0 (Nat.le_trans Z0 K185.1) f186 g_aT) hZ ww8 ww4 (by decide) (by decide)) (g := (mkF m 186 (own_Lown_midz_0 sl0 sl1 sl2 sl3 sl4 fl nn aT aC .unset .unset .unset .unset .unset) [(.int 3), (.int 2), (.ref aT)])) rfl (by rw [hml]; rfl) (argsL := [(.ref aT), (.int 2), (.int 3)]) (rest := []) (lenOf pd___III_V rfl) rfl (by show 2 * 0 + _ ≤ _; exact Nat.le_of_eq rfl) (hb hby at_186) (fun _ _ => ⟨rfl, rfl, (by decide : 2 + 0 ≤ _), (by decide : 20 + 0 ≤ _)⟩)
  dsimp only [Pt.U, Pt.locs, Pt.cells, Pt.slots] at X187 l187 y187 z187 st187 hQ187
  subst l187 y187 z187
  obtain ⟨rfl, N187q, K187q, f188⟩ := hQ187
  have K187 := K185.trans K187q (allS (Or.inl (List.mem_of_getElem? (i := 0) rfl)) all0)
  have N187 := Fr.app N185 N187q
  refine own_s (g' := (mkF m 189 (own_Lown_midz_0 sl0 sl1 sl2 sl3 sl4 fl nn aT aC .unset .unset .unset .unset .unset) [])) st187 ?_
  obtain ⟨sd2, hsd2⟩ : ∃ z, z = (w2p23_a2_0_2 sc2 sb3) := ⟨_, rfl⟩
  rw [← hsd2] at f188
  obtain ⟨sd3, hsd3⟩ : ∃ z, z = (w2p23_a2_0_3 sc2 sb3) := ⟨_, rfl⟩
  rw [← hsd3] at f188
  refine own_s (g' := (mkF m 191 (own_Lown_midz_0 sl0 sl1 sl2 sl3 sl4 fl nn aT aC .unset .unset .unset .unset .unset) [(.ref aT)])) (fun _ kz => XS.aload X187.here hx rfl (hb hby at_189) rfl rfl kz) ?_
  refine own_s (g' := (mkF m 192 (own_Lown_midz_0 sl0 sl1 sl2 sl3 sl4 fl nn aT aC .unset .unset .unset .unset .unset) [(.int 1), (.ref aT)])) (fun _ kz => XS.iconst X187.here hx rfl (hb hby at_191) kz) ?_
  refine own_s (g' := (mkF m 193 (own_Lown_midz_0 sl0 sl1 sl2 sl3 sl4 fl nn aT aC .unset .unset .unset .unset .unset) [(.int 4), (.int 1), (.ref aT)])) (fun _ kz => XS.iconst X187.here hx rfl (hb hby at_192) kz) ?_
  obtain ⟨_, _, ⟨T189, L189, k189, n189⟩, -, X189, ⟨Lc189, hQ189, l189, y189, z189⟩, st189⟩ := Jvm.LawKit.callS X187 hx (y := (⟨"gallai/service/GraphicalitySlacksPinLaw", "order", "([III)V"⟩ : MethodName)) hown (mvT hZ ww6) (mvT hZ ww7) (mvT hZ ww4) (mvT hZ ww8) (by decide) (backOf (W := 0) (rm2p14 l Z a0 hw [] aT kt sa0 sa1 sd2 sd3 sc4 T187.heap n0 (Nat.le_trans Z0 K187.1) f188 g_aT) hZ ww8 ww4 (by decide) (by decide)) (g := (mkF m 193 (own_Lown_midz_0 sl0 sl1 sl2 sl3 sl4 fl nn aT aC .unset .unset .unset .unset .unset) [(.int 4), (.int 1), (.ref aT)])) rfl (by rw [hml]; rfl) (argsL := [(.ref aT), (.int 1), (.int 4)]) (rest := []) (lenOf pd___III_V rfl) rfl (by show 2 * 0 + _ ≤ _; exact Nat.le_of_eq rfl) (hb hby at_193) (fun _ _ => ⟨rfl, rfl, (by decide : 2 + 0 ≤ _), (by decide : 20 + 0 ≤ _)⟩)
  dsimp only [Pt.U, Pt.locs, Pt.cells, Pt.slots] at X189 l189 y189 z189 st189 hQ189
  subst l189 y189 z189
  obtain ⟨rfl, N189q, K189q, f190⟩ := hQ189
  have K189 := K187.trans K189q (allS (Or.inl (List.mem_of_getElem? (i := 0) rfl)) all0)
  have N189 := Fr.app N187 N189q
  refine own_s (g' := (mkF m 196 (own_Lown_midz_0 sl0 sl1 sl2 sl3 sl4 fl nn aT aC .unset .unset .unset .unset .unset) [])) st189 ?_
  obtain ⟨se1, hse1⟩ : ∃ z, z = (w2p14_a2_0_1 sa1 sc4) := ⟨_, rfl⟩
  rw [← hse1] at f190
  obtain ⟨se4, hse4⟩ : ∃ z, z = (w2p14_a2_0_4 sa1 sc4) := ⟨_, rfl⟩
  rw [← hse4] at f190
  refine own_s (g' := (mkF m 198 (own_Lown_midz_0 sl0 sl1 sl2 sl3 sl4 fl nn aT aC .unset .unset .unset .unset .unset) [(.ref aT)])) (fun _ kz => XS.aload X189.here hx rfl (hb hby at_196) rfl rfl kz) ?_
  refine own_s (g' := (mkF m 199 (own_Lown_midz_0 sl0 sl1 sl2 sl3 sl4 fl nn aT aC .unset .unset .unset .unset .unset) [(.int 0), (.ref aT)])) (fun _ kz => XS.iconst X189.here hx rfl (hb hby at_198) kz) ?_
  refine own_s (g' := (mkF m 200 (own_Lown_midz_0 sl0 sl1 sl2 sl3 sl4 fl nn aT aC .unset .unset .unset .unset .unset) [(.int 3), (.int 0), (.ref aT)])) (fun _ kz => XS.iconst X189.here hx rfl (hb hby at_199) kz) ?_
  obtain ⟨_, _, ⟨T191, L191, k191, n191⟩, -, X191, ⟨Lc191, hQ191, l191, y191, z191⟩, st191⟩ := Jvm.LawKit.callS X189 hx (y := (⟨"gallai/service/GraphicalitySlacksPinLaw", "order", "([III)V"⟩ : MethodName)) hown (mvT hZ ww6) (mvT hZ ww7) (mvT hZ ww4) (mvT hZ ww8) (by decide) (backOf (W := 0) (rm2p03 l Z a0 hw [] aT kt sa0 se1 sd2 sd3 se4 T189.heap n0 (Nat.le_trans Z0 K189.1) f190 g_aT) hZ ww8 ww4 (by decide) (by decide)) (g := (mkF m 200 (own_Lown_midz_0 sl0 sl1 sl2 sl3 sl4 fl nn aT aC .unset .unset .unset .unset .unset) [(.int 3), (.int 0), (.ref aT)])) rfl (by rw [hml]; rfl) (argsL := [(.ref aT), (.int 0), (.int 3)]) (rest := []) (lenOf pd___III_V rfl) rfl (by show 2 * 0 + _ ≤ _; exact Nat.le_of_eq rfl) (hb hby at_200) (fun _ _ => ⟨rfl, rfl, (by decide : 2 + 0 ≤ _), (by decide : 20 + 0 ≤ _)⟩)
  dsimp only [Pt.U, Pt.locs, Pt.cells, Pt.slots] at X191 l191 y191 z191 st191 hQ191
  subst l191 y191 z191
  obtain ⟨rfl, N191q, K191q, f192⟩ := hQ191
  have K191 := K189.trans K191q (allS (Or.inl (List.mem_of_getElem? (i := 0) rfl)) all0)
  have N191 := Fr.app N189 N191q
  refine own_s (g' := (mkF m 203 (own_Lown_midz_0 sl0 sl1 sl2 sl3 sl4 fl nn aT aC .unset .unset .unset .unset .unset) [])) st191 ?_
  obtain ⟨sf0, hsf0⟩ : ∃ z, z = (w2p03_a2_0_0 sa0 sd3) := ⟨_, rfl⟩
  rw [← hsf0] at f192
  obtain ⟨sf3, hsf3⟩ : ∃ z, z = (w2p03_a2_0_3 sa0 sd3) := ⟨_, rfl⟩
  rw [← hsf3] at f192
  refine own_s (g' := (mkF m 205 (own_Lown_midz_0 sl0 sl1 sl2 sl3 sl4 fl nn aT aC .unset .unset .unset .unset .unset) [(.ref aT)])) (fun _ kz => XS.aload X191.here hx rfl (hb hby at_203) rfl rfl kz) ?_
  refine own_s (g' := (mkF m 206 (own_Lown_midz_0 sl0 sl1 sl2 sl3 sl4 fl nn aT aC .unset .unset .unset .unset .unset) [(.int 0), (.ref aT)])) (fun _ kz => XS.iconst X191.here hx rfl (hb hby at_205) kz) ?_
  refine own_s (g' := (mkF m 207 (own_Lown_midz_0 sl0 sl1 sl2 sl3 sl4 fl nn aT aC .unset .unset .unset .unset .unset) [(.int 2), (.int 0), (.ref aT)])) (fun _ kz => XS.iconst X191.here hx rfl (hb hby at_206) kz) ?_
  obtain ⟨_, _, ⟨T193, L193, k193, n193⟩, -, X193, ⟨Lc193, hQ193, l193, y193, z193⟩, st193⟩ := Jvm.LawKit.callS X191 hx (y := (⟨"gallai/service/GraphicalitySlacksPinLaw", "order", "([III)V"⟩ : MethodName)) hown (mvT hZ ww6) (mvT hZ ww7) (mvT hZ ww4) (mvT hZ ww8) (by decide) (backOf (W := 0) (rm2p02 l Z a0 hw [] aT kt sf0 se1 sd2 sf3 se4 T191.heap n0 (Nat.le_trans Z0 K191.1) f192 g_aT) hZ ww8 ww4 (by decide) (by decide)) (g := (mkF m 207 (own_Lown_midz_0 sl0 sl1 sl2 sl3 sl4 fl nn aT aC .unset .unset .unset .unset .unset) [(.int 2), (.int 0), (.ref aT)])) rfl (by rw [hml]; rfl) (argsL := [(.ref aT), (.int 0), (.int 2)]) (rest := []) (lenOf pd___III_V rfl) rfl (by show 2 * 0 + _ ≤ _; exact Nat.le_of_eq rfl) (hb hby at_207) (fun _ _ => ⟨rfl, rfl, (by decide : 2 + 0 ≤ _), (by decide : 20 + 0 ≤ _)⟩)
  dsimp only [Pt.U, Pt.locs, Pt.cells, Pt.slots] at X193 l193 y193 z193 st193 hQ193
  subst l193 y193 z193
  obtain ⟨rfl, N193q, K193q, f194⟩ := hQ193
  have K193 := K191.trans K193q (allS (Or.inl (List.mem_of_getElem? (i := 0) rfl)) all0)
  have N193 := Fr.app N191 N193q
  refine own_s (g' := (mkF m 210 (own_Lown_midz_0 sl0 sl1 sl2 sl3 sl4 fl nn aT aC .unset .unset .unset .unset .unset) [])) st193 ?_
  obtain ⟨sg0, hsg0⟩ : ∃ z, z = (w2p02_a2_0_0 sf0 sd2) := ⟨_, rfl⟩
  rw [← hsg0] at f194
  obtain ⟨sg2, hsg2⟩ : ∃ z, z = (w2p02_a2_0_2 sf0 sd2) := ⟨_, rfl⟩
  rw [← hsg2] at f194
  refine own_s (g' := (mkF m 212 (own_Lown_midz_0 sl0 sl1 sl2 sl3 sl4 fl nn aT aC .unset .unset .unset .unset .unset) [(.ref aT)])) (fun _ kz => XS.aload X193.here hx rfl (hb hby at_210) rfl rfl kz) ?_
  refine own_s (g' := (mkF m 213 (own_Lown_midz_0 sl0 sl1 sl2 sl3 sl4 fl nn aT aC .unset .unset .unset .unset .unset) [(.int 1), (.ref aT)])) (fun _ kz => XS.iconst X193.here hx rfl (hb hby at_212) kz) ?_
  refine own_s (g' := (mkF m 214 (own_Lown_midz_0 sl0 sl1 sl2 sl3 sl4 fl nn aT aC .unset .unset .unset .unset .unset) [(.int 3), (.int 1), (.ref aT)])) (fun _ kz => XS.iconst X193.here hx rfl (hb hby at_213) kz) ?_
  obtain ⟨_, _, ⟨T195, L195, k195, n195⟩, -, X195, ⟨Lc195, hQ195, l195, y195, z195⟩, st195⟩ := Jvm.LawKit.callS X193 hx (y := (⟨"gallai/service/GraphicalitySlacksPinLaw", "order", "([III)V"⟩ : MethodName)) hown (mvT hZ ww6) (mvT hZ ww7) (mvT hZ ww4) (mvT hZ ww8) (by decide) (backOf (W := 0) (rm2p13 l Z a0 hw [] aT kt sg0 se1 sg2 sf3 se4 T193.heap n0 (Nat.le_trans Z0 K193.1) f194 g_aT) hZ ww8 ww4 (by decide) (by decide)) (g := (mkF m 214 (own_Lown_midz_0 sl0 sl1 sl2 sl3 sl4 fl nn aT aC .unset .unset .unset .unset .unset) [(.int 3), (.int 1), (.ref aT)])) rfl (by rw [hml]; rfl) (argsL := [(.ref aT), (.int 1), (.int 3)]) (rest := []) (lenOf pd___III_V rfl) rfl (by show 2 * 0 + _ ≤ _; exact Nat.le_of_eq rfl) (hb hby at_214) (fun _ _ => ⟨rfl, rfl, (by decide : 2 + 0 ≤ _), (by decide : 20 + 0 ≤ _)⟩)
  dsimp only [Pt.U, Pt.locs, Pt.cells, Pt.slots] at X195 l195 y195 z195 st195 hQ195
  subst l195 y195 z195
  obtain ⟨rfl, N195q, K195q, f196⟩ := hQ195
  have K195 := K193.trans K195q (allS (Or.inl (List.mem_of_getElem? (i := 0) rfl)) all0)
  have N195 := Fr.app N193 N195q
  refine own_s (g' := (mkF m 217 (own_Lown_midz_0 sl0 sl1 sl2 sl3 sl4 fl nn aT aC .unset .unset .unset .unset .unset) [])) st195 ?_
  obtain ⟨sh1, hsh1⟩ : ∃ z, z = (w2p13_a2_0_1 se1 sf3) := ⟨_, rfl⟩
  rw [← hsh1] at f196
  obtain ⟨sh3, hsh3⟩ : ∃ z, z = (w2p13_a2_0_3 se1 sf3) := ⟨_, rfl⟩
  rw [← hsh3] at f196
  refine own_s (g' := (mkF m 219 (own_Lown_midz_0 sl0 sl1 sl2 sl3 sl4 fl nn aT aC .unset .unset .unset .unset .unset) [(.ref aT)])) (fun _ kz => XS.aload X195.here hx rfl (hb hby at_217) rfl rfl kz) ?_
  refine own_s (g' := (mkF m 220 (own_Lown_midz_0 sl0 sl1 sl2 sl3 sl4 fl nn aT aC .unset .unset .unset .unset .unset) [(.int 1), (.ref aT)])) (fun _ kz => XS.iconst X195.here hx rfl (hb hby at_219) kz) ?_
  refine own_s (g' := (mkF m 221 (own_Lown_midz_0 sl0 sl1 sl2 sl3 sl4 fl nn aT aC .unset .unset .unset .unset .unset) [(.int 2), (.int 1), (.ref aT)])) (fun _ kz => XS.iconst X195.here hx rfl (hb hby at_220) kz) ?_
  obtain ⟨_, _, ⟨T197, L197, k197, n197⟩, -, X197, ⟨Lc197, hQ197, l197, y197, z197⟩, st197⟩ := Jvm.LawKit.callS X195 hx (y := (⟨"gallai/service/GraphicalitySlacksPinLaw", "order", "([III)V"⟩ : MethodName)) hown (mvT hZ ww6) (mvT hZ ww7) (mvT hZ ww4) (mvT hZ ww8) (by decide) (backOf (W := 0) (rm2p12 l Z a0 hw [] aT kt sg0 sh1 sg2 sh3 se4 T195.heap n0 (Nat.le_trans Z0 K195.1) f196 g_aT) hZ ww8 ww4 (by decide) (by decide)) (g := (mkF m 221 (own_Lown_midz_0 sl0 sl1 sl2 sl3 sl4 fl nn aT aC .unset .unset .unset .unset .unset) [(.int 2), (.int 1), (.ref aT)])) rfl (by rw [hml]; rfl) (argsL := [(.ref aT), (.int 1), (.int 2)]) (rest := []) (lenOf pd___III_V rfl) rfl (by show 2 * 0 + _ ≤ _; exact Nat.le_of_eq rfl) (hb hby at_221) (fun _ _ => ⟨rfl, rfl, (by decide : 2 + 0 ≤ _), (by decide : 20 + 0 ≤ _)⟩)
  dsimp only [Pt.U, Pt.locs, Pt.cells, Pt.slots] at X197 l197 y197 z197 st197 hQ197
  subst l197 y197 z197
  obtain ⟨rfl, N197q, K197q, f198⟩ := hQ197
  have K197 := K195.trans K197q (allS (Or.inl (List.mem_of_getElem? (i := 0) rfl)) all0)
  have N197 := Fr.app N195 N197q
  refine own_s (g' := (mkF m 224 (own_Lown_midz_0 sl0 sl1 sl2 sl3 sl4 fl nn aT aC .unset .unset .unset .unset .unset) [])) st197 ?_
  obtain ⟨si1, hsi1⟩ : ∃ z, z = (w2p12_a2_0_1 sh1 sg2) := ⟨_, rfl⟩
  rw [← hsi1] at f198
  obtain ⟨si2, hsi2⟩ : ∃ z, z = (w2p12_a2_0_2 sh1 sg2) := ⟨_, rfl⟩
  rw [← hsi2] at f198
  obtain ⟨rr, sx, hmo, hok⟩ := hgd sa0 sa1 sb3 sb4 sc2 sc4 sd2 sd3 se1 se4 sf0 sf3 sg0 sg2 sh1 sh3 si1 si2 hsa0 hsa1 hsb3 hsb4 hsc2 hsc4 hsd2 hsd3 hse1 hse4 hsf0 hsf3 hsg0 hsg2 hsh1 hsh3 hsi1 hsi2
  refine own_s (g' := (mkF m 226 (own_Lown_midz_0 sl0 sl1 sl2 sl3 sl4 fl nn aT aC .unset .unset .unset .unset .unset) [(.int nn)])) (fun _ kz => XS.iload X197.here hx rfl (hb hby at_224) rfl kz) ?_
  refine own_s (g' := (mkF m 229 (own_Lown_midz_0 sl0 sl1 sl2 sl3 sl4 fl nn aT aC .unset .unset .unset .unset .unset) [])) (fun _ kz => XS.ifNo X197.here hx rfl (hb hby at_226) rfl ((if0 _ _).trans (teq hn0).2) kz) ?_
  refine own_s (g' := (mkF m 230 (own_Lown_midz_0 sl0 sl1 sl2 sl3 sl4 fl nn aT aC .unset .unset .unset .unset .unset) [(.int 0)])) (fun _ kz => XS.iconst X197.here hx rfl (hb hby at_229) kz) ?_
  refine own_s (g' := (mkF m 251 (own_Lown_midz_0 sl0 sl1 sl2 sl3 sl4 fl nn aT aC .unset .unset .unset .unset .unset) [(.int 0)])) (fun _ kz => XS.goto X197.here hx rfl (pc0 := 230) (pc' := 251) rfl (hb hby at_230) (by decide) (by decide) kz) ?_
  refine own_s (g' := (mkF m 253 (own_Lown_midz_0 sl0 sl1 sl2 sl3 sl4 fl nn aT aC (.val (.int 0)) .unset .unset .unset .unset) [])) (fun _ kz => XS.istore X197.here hx rfl (hb hby at_251) rfl (l' := (own_Lown_midz_0 sl0 sl1 sl2 sl3 sl4 fl nn aT aC (.val (.int 0)) .unset .unset .unset .unset)) rfl kz) ?_
  refine own_s (g' := (mkF m 255 (own_Lown_midz_0 sl0 sl1 sl2 sl3 sl4 fl nn aT aC (.val (.int 0)) .unset .unset .unset .unset) [(.int nn)])) (fun _ kz => XS.iload X197.here hx rfl (hb hby at_253) rfl kz) ?_
  refine own_s (g' := (mkF m 257 (own_Lown_midz_0 sl0 sl1 sl2 sl3 sl4 fl nn aT aC (.val (.int 0)) .unset .unset .unset .unset) [(.int 0), (.int nn)])) (fun _ kz => XS.iload X197.here hx rfl (hb hby at_255) rfl kz) ?_
  obtain ⟨_, _, ⟨T199, L199, k199, n199⟩, -, X199, ⟨Lc199, hQ199, l199, y199, z199⟩, st199⟩ := Jvm.LawKit.callS X197 hx (y := (⟨"java/lang/Math", "min", "(II)I"⟩ : MethodName)) hown (mvT hZ ww9) (mvT hZ ww10) (mvT hZ ww11) (mvT hZ ww12) (by decide) (backOf (W := 0) (rm3 l Z a0 hw [] nn (0 : Int32) T197.heap n0 (Nat.le_trans Z0 K197.1) ) hZ ww12 ww11 (by decide) (by decide)) (g := (mkF m 257 (own_Lown_midz_0 sl0 sl1 sl2 sl3 sl4 fl nn aT aC (.val (.int 0)) .unset .unset .unset .unset) [(.int 0), (.int nn)])) rfl (by rw [hml]; rfl) (argsL := [(.int nn), (.int 0)]) (rest := []) (lenOf pd__II_I rfl) rfl (by show 2 * 0 + _ ≤ _; exact Nat.le_of_eq rfl) (hb hby at_257) (fun _ _ => ⟨rfl, rfl, (by decide : 2 + 0 ≤ _), (by decide : 20 + 0 ≤ _)⟩)
  dsimp only [Pt.U, Pt.locs, Pt.cells, Pt.slots] at X199 l199 y199 z199 st199 hQ199
  subst l199 y199 z199
  obtain ⟨rfl, N199q, eh199⟩ := hQ199
  have N199 := Fr.app N197 N199q
  refine own_s (g' := (mkF m 260 (own_Lown_midz_0 sl0 sl1 sl2 sl3 sl4 fl nn aT aC (.val (.int 0)) .unset .unset .unset .unset) [(.int (r3 nn (0 : Int32)))])) st199 ?_
  rw [show (r3 nn (0 : Int32)) = nn from (if_neg hn1)]
  refine own_s (g' := (mkF m 261 (own_Lown_midz_0 sl0 sl1 sl2 sl3 sl4 fl nn aT aC (.val (.int 0)) .unset .unset .unset .unset) [(.int 1), (.int nn)])) (fun _ kz => XS.iconst X199.here hx rfl (hb hby at_260) kz) ?_
  refine own_s (g' := (mkF m 262 (own_Lown_midz_0 sl0 sl1 sl2 sl3 sl4 fl nn aT aC (.val (.int 0)) .unset .unset .unset .unset) [(.int (nn + (1 : Int32)))])) (fun _ kz => XS.iadd X199.here hx rfl (hb hby at_261) rfl kz) ?_
  obtain ⟨T200, h200, k200, X200, e200, E200, A200, st200⟩ := newP (aty := .long) X199 hx hZ ww13 eh199 (g := (mkF m 262 (own_Lown_midz_0 sl0 sl1 sl2 sl3 sl4 fl nn aT aC (.val (.int 0)) .unset .unset .unset .unset) [(.int (nn + (1 : Int32)))])) rfl (hb hby at_262) rfl hz1 (cap := 5) hz2 (by decide) (by decide) (by decide)
  obtain ⟨b200, ga200⟩ : ∃ z, z = T197.heap.size := ⟨_, rfl⟩
  rw [← ga200] at A200 st200
  have g_b200 := Nat.le_trans (Nat.le_trans Z0 K197.1) (Nat.le_of_eq ga200.symm)
  have sz_b200 := Nat.le_trans K197.1 (Nat.le_of_eq ga200.symm)
  have V200 : Arv Z h200 b200 k200 .long (nn + (1 : Int32)) [] (.long 0) := Arv.new A200 hz1
  have K200 := K197.ext E200
  refine own_s (g' := (mkF m 264 (own_Lown_midz_0 sl0 sl1 sl2 sl3 sl4 fl nn aT aC (.val (.int 0)) .unset .unset .unset .unset) [(.ref b200)])) st200 ?_
  have f201 : Arv Z h200 b200 k200 .long (nn + (1 : Int32)) ((List.replicate (nn + (1 : Int32)).toNatClampNeg (0 : Int64)).map Value.long) (.long 0) := by rw [List.map_replicate]; exact V200.pad (pad_rep [] (.long 0) (nn + (1 : Int32)).toNatClampNeg)
  refine own_s (g' := (mkF m 266 (own_Lown_midz_0 sl0 sl1 sl2 sl3 sl4 fl nn aT aC (.val (.int 0)) (.val (.ref b200)) .unset .unset .unset) [])) (fun _ kz => XS.astore X200.here hx rfl (hb hby at_264) rfl rfl (l' := (own_Lown_midz_0 sl0 sl1 sl2 sl3 sl4 fl nn aT aC (.val (.int 0)) (.val (.ref b200)) .unset .unset .unset)) rfl kz) ?_
  refine own_s (g' := (mkF m 268 (own_Lown_midz_0 sl0 sl1 sl2 sl3 sl4 fl nn aT aC (.val (.int 0)) (.val (.ref b200)) .unset .unset .unset) [(.ref aC)])) (fun _ kz => XS.aload X200.here hx rfl (hb hby at_266) rfl rfl kz) ?_
  refine own_s (g' := (mkF m 270 (own_Lown_midz_0 sl0 sl1 sl2 sl3 sl4 fl nn aT aC (.val (.int 0)) (.val (.ref b200)) .unset .unset .unset) [(.int 0), (.ref aC)])) (fun _ kz => XS.iload X200.here hx rfl (hb hby at_268) rfl kz) ?_
  refine own_s (g' := (mkF m 272 (own_Lown_midz_0 sl0 sl1 sl2 sl3 sl4 fl nn aT aC (.val (.int 0)) (.val (.ref b200)) .unset .unset .unset) [(.ref b200), (.int 0), (.ref aC)])) (fun _ kz => XS.aload X200.here hx rfl (hb hby at_270) rfl rfl kz) ?_
  have f203 := ((((((((((V_aC.keep K181q (ninS ne_aC_aT nin0)).keep K183q (ninS ne_aC_aT nin0)).keep K185q (ninS ne_aC_aT nin0)).keep K187q (ninS ne_aC_aT nin0)).keep K189q (ninS ne_aC_aT nin0)).keep K191q (ninS ne_aC_aT nin0)).keep K193q (ninS ne_aC_aT nin0)).keep K195q (ninS ne_aC_aT nin0)).keep K197q (ninS ne_aC_aT nin0)).ext E200)
  have ne204 : aC ≠ b200 := Nat.ne_of_lt (Nat.lt_of_lt_of_le (((((((((V_aC.keep K181q (ninS ne_aC_aT nin0)).keep K183q (ninS ne_aC_aT nin0)).keep K185q (ninS ne_aC_aT nin0)).keep K187q (ninS ne_aC_aT nin0)).keep K189q (ninS ne_aC_aT nin0)).keep K191q (ninS ne_aC_aT nin0)).keep K193q (ninS ne_aC_aT nin0)).keep K195q (ninS ne_aC_aT nin0)).keep K197q (ninS ne_aC_aT nin0)).lt (Nat.le_of_eq ga200.symm))
  obtain ⟨_, _, ⟨T202, L202, k202, n202⟩, -, X202, ⟨Lc202, hQ202, l202, y202, z202⟩, st202⟩ := Jvm.LawKit.callS X200 hx (y := (⟨"gallai/service/Graphicality", "slacks", "([II[J)I"⟩ : MethodName)) hown (mvT hZ ww14) (mvT hZ ww15) (mvT hZ ww16) (mvT hZ ww17) (by decide) (backOf (W := 0) (rm4 l Z a0 hw [] aC (0 : Int32) b200 cs (List.replicate (nn + (1 : Int32)).toNatClampNeg (0 : Int64)) rr sx kc nn k200 (nn + (1 : Int32)) h200 n0 (Nat.le_trans Z0 K200.1) f203 f201 g_b200 ne204 (List.length_replicate ..) hmo) hZ ww17 ww16 (by decide) (by decide)) (g := (mkF m 272 (own_Lown_midz_0 sl0 sl1 sl2 sl3 sl4 fl nn aT aC (.val (.int 0)) (.val (.ref b200)) .unset .unset .unset) [(.ref b200), (.int 0), (.ref aC)])) rfl (by rw [hml]; rfl) (argsL := [(.ref aC), (.int 0), (.ref b200)]) (rest := []) (lenOf pd___II_J_I rfl) rfl (by show 2 * 0 + _ ≤ _; exact Nat.le_of_eq rfl) (hb hby at_272) (fun _ _ => ⟨rfl, e200, (by decide : 3 + 0 ≤ _), (by decide : 25 + 0 ≤ _)⟩)
  dsimp only [Pt.U, Pt.locs, Pt.cells, Pt.slots] at X202 l202 y202 z202 st202 hQ202
  subst l202 y202 z202
  obtain ⟨rfl, N202q, K202q, f205⟩ := hQ202
  have K202 := K200.trans K202q (allS (Or.inr sz_b200) all0)
  have N202 := Fr.app N199 N202q
  refine own_s (g' := (mkF m 275 (own_Lown_midz_0 sl0 sl1 sl2 sl3 sl4 fl nn aT aC (.val (.int 0)) (.val (.ref b200)) .unset .unset .unset) [(.int rr)])) st202 ?_
  refine own_s (g' := (mkF m 277 (own_Lown_midz_0 sl0 sl1 sl2 sl3 sl4 fl nn aT aC (.val (.int 0)) (.val (.ref b200)) (.val (.int rr)) .unset .unset) [])) (fun _ kz => XS.istore X202.here hx rfl (hb hby at_275) rfl (l' := (own_Lown_midz_0 sl0 sl1 sl2 sl3 sl4 fl nn aT aC (.val (.int 0)) (.val (.ref b200)) (.val (.int rr)) .unset .unset)) rfl kz) ?_
  have ne206 : aT ≠ b200 := Nat.ne_of_lt (Nat.lt_of_lt_of_le f198.lt (Nat.le_of_eq ga200.symm))
  have f207 := ((f198.ext E200).keep K202q (ninS ne206 nin0))
  exact own_tail l Z a0 hw (sl0) (sl1) (sl2) (sl3) (sl4) (.val (.int fl)) (.val (.int nn)) aT (.val (.ref aC)) (.val (.int 0)) b200 rr sx kt sg0 si1 si2 sh3 se4 k200 (nn + (1 : Int32)) (X202.more (by decide) (by decide)) hx hZ hby hml hown hlk hret T202.heap n0 rfl (Nat.le_trans Z0 K202.1) N202 f207 f205 hok
theorem own_s6 {x n : Int32} (h : n = ((x &&& (2147483647 : Int32)) % (6 : Int32))) : ¬ n < (0 : Int32) ∧ n.toNatClampNeg ≤ 5 := by
  rw [h]
  rcases own_six x with e | e | e | e | e | e <;> rw [e] <;> decide
theorem pd__III_I : parseMethodDescriptor "(III)I" = some ⟨[.int, .int, .int], some .int⟩ := by decide +kernel
theorem ef_0 (m : MethodId) (p0_0 : Int32) (p0_1 : Int32) (p0_2 : Int32) (p0_3 : Int32) (p0_4 : Int32) (p0_5 : Int32) : entryFrame m #[(.int p0_0), (.int p0_1), (.int p0_2), (.int p0_3), (.int p0_4), (.int p0_5)] maxLocals = mkF m 0 #[.val (.int p0_0), .val (.int p0_1), .val (.int p0_2), .val (.int p0_3), .val (.int p0_4), .val (.int p0_5), .unset, .unset, .unset, .unset, .unset, .unset, .unset, .unset] [] := by first | (simp [entryFrame, mkF, argsToLocals, Value.category, maxLocals]; done) | rfl
abbrev own_L0_0 (p0_0 : Int32) (p0_1 : Int32) (p0_2 : Int32) (p0_3 : Int32) (p0_4 : Int32) (p0_5 : Int32) (b208 : Addr) (b224 : Addr) (l9 l10 l11 l12 l13 : Slot) : Array Slot := #[.val (.int p0_0), .val (.int p0_1), .val (.int p0_2), .val (.int p0_3), .val (.int p0_4), .val (.int p0_5), .val (.int 0), .val (.ref b208), .val (.ref b224), l9, l10, l11, l12, l13]
abbrev own_L0_1 (p0_0 : Int32) (p0_1 : Int32) (p0_2 : Int32) (p0_3 : Int32) (p0_4 : Int32) (p0_5 : Int32) (b208 : Addr) (b224 : Addr) (l9 l10 l11 l12 l13 : Slot) : Array Slot := #[.val (.int p0_0), .val (.int p0_1), .val (.int p0_2), .val (.int p0_3), .val (.int p0_4), .val (.int p0_5), .val (.int 1), .val (.ref b208), .val (.ref b224), l9, l10, l11, l12, l13]
abbrev own_L0_2 (p0_0 : Int32) (p0_1 : Int32) (p0_2 : Int32) (p0_3 : Int32) (p0_4 : Int32) (p0_5 : Int32) (b208 : Addr) (b224 : Addr) (l9 l10 l11 l12 l13 : Slot) : Array Slot := #[.val (.int p0_0), .val (.int p0_1), .val (.int p0_2), .val (.int p0_3), .val (.int p0_4), .val (.int p0_5), .val (.int 2), .val (.ref b208), .val (.ref b224), l9, l10, l11, l12, l13]
abbrev own_L0_3 (p0_0 : Int32) (p0_1 : Int32) (p0_2 : Int32) (p0_3 : Int32) (p0_4 : Int32) (p0_5 : Int32) (b208 : Addr) (b224 : Addr) (l9 l10 l11 l12 l13 : Slot) : Array Slot := #[.val (.int p0_0), .val (.int p0_1), .val (.int p0_2), .val (.int p0_3), .val (.int p0_4), .val (.int p0_5), .val (.int 3), .val (.ref b208), .val (.ref b224), l9, l10, l11, l12, l13]
abbrev own_L0_4 (p0_0 : Int32) (p0_1 : Int32) (p0_2 : Int32) (p0_3 : Int32) (p0_4 : Int32) (p0_5 : Int32) (b208 : Addr) (b224 : Addr) (l9 l10 l11 l12 l13 : Slot) : Array Slot := #[.val (.int p0_0), .val (.int p0_1), .val (.int p0_2), .val (.int p0_3), .val (.int p0_4), .val (.int p0_5), .val (.int 4), .val (.ref b208), .val (.ref b224), l9, l10, l11, l12, l13]
abbrev own_L0_5 (p0_0 : Int32) (p0_1 : Int32) (p0_2 : Int32) (p0_3 : Int32) (p0_4 : Int32) (p0_5 : Int32) (b208 : Addr) (b224 : Addr) (l9 l10 l11 l12 l13 : Slot) : Array Slot := #[.val (.int p0_0), .val (.int p0_1), .val (.int p0_2), .val (.int p0_3), .val (.int p0_4), .val (.int p0_5), .val (.int 5), .val (.ref b208), .val (.ref b224), l9, l10, l11, l12, l13]
def Q0 (Z : State) (p0_0 : Int32) (p0_1 : Int32) (p0_2 : Int32) (p0_3 : Int32) (p0_4 : Int32) (p0_5 : Int32) (h0 : Heap) (n0 : Nat) (v : Option Value) (h : Heap) (L : List Loc) : Prop := v = some (.int (1 : Int32)) ∧ Fr n0 L
set_option maxRecDepth 65536 in
set_option maxHeartbeats 40000000 in
theorem rm0 (l : Launch) (Z : State) (a0 : Array Value) (hw : ∀ d ∈ tables_1, d.before a0 Z = true) (ws : List Jvm.Cond) (p0_0 : Int32) (p0_1 : Int32) (p0_2 : Int32) (p0_3 : Int32) (p0_4 : Int32) (p0_5 : Int32) (h0 : Heap) (n0 : Nat) (Z0 : n0 ≤ h0.size) :
    MetFree l x (head1 (Jvm.Cond.code x code maxLocals ret :: ws) room_1) (fun a U => a = #[(.int p0_0), (.int p0_1), (.int p0_2), (.int p0_3), (.int p0_4), (.int p0_5)] ∧ Z.Warmed39 U.vm ∧ U.heap = h0) (fun _ _ _ _ _ => True) (fun _ U o U' => ∃ v L, o = .returned v ∧ Q0 Z p0_0 p0_1 p0_2 p0_3 p0_4 p0_5 h0 n0 v U'.heap L ∧ FrameEnd U o U' L 16 128) := by
  refine MetFree.of_bodySF (plainFor_of_name pn_gallai_service_GraphicalitySlacksPinLaw) hisR ?_
  intro p e s m args below meth c s₁ Bd hml0 hP hK
  obtain ⟨rfl, hZ, hh⟩ := hP
  have hx := Bd.exec
  have hby := Bd.bytes
  have hlk := Bd.notSynchronized
  have hret := Bd.returns
  have hml : c.maxLocals = 14 := hml0
  have hown : s.vm.findClass "gallai/service/GraphicalitySlacksPinLaw" = some m.cls := findClass_of_methodNamed Bd.named
  have hnm := (name_of_methodNamed Bd.named Bd.method).1
  have X0 : Stand p l e room_1 s m #[(.int p0_0), (.int p0_1), (.int p0_2), (.int p0_3), (.int p0_4), (.int p0_5)] below meth c s₁ [] 0 0 := Stand.of_body Bd
  have e0 : s₁.heap = h0 := by rw [← hh, Bd.state]; rfl
  have N0 := Fr.nil n0
  have K0 : Keep h0 h0 [] := Keep.refl _ _
  show own_G p e below s (Q0 Z p0_0 p0_1 p0_2 p0_3 p0_4 p0_5 h0 n0) 16 128 s₁ (entryFrame m #[(.int p0_0), (.int p0_1), (.int p0_2), (.int p0_3), (.int p0_4), (.int p0_5)] maxLocals)
  have ww0 := hw _ (List.mem_of_getElem? (i := 0) rfl)
  have ww1 := hw _ (List.mem_of_getElem? (i := 1) rfl)
  have ww2 := hw _ (List.mem_of_getElem? (i := 2) rfl)
  have ww3 := hw _ (List.mem_of_getElem? (i := 3) rfl)
  have ww4 := hw _ (List.mem_of_getElem? (i := 4) rfl)
  have ww5 := hw _ (List.mem_of_getElem? (i := 5) rfl)
  refine own_cast (ef_0 m p0_0 p0_1 p0_2 p0_3 p0_4 p0_5) ?_
  refine own_s (g' := (mkF m 2 #[.val (.int p0_0), .val (.int p0_1), .val (.int p0_2), .val (.int p0_3), .val (.int p0_4), .val (.int p0_5), .unset, .unset, .unset, .unset, .unset, .unset, .unset, .unset] [(.int p0_5)])) (fun _ kz => XS.iload X0.here hx rfl (hb hby at_0) rfl kz) ?_
  refine own_s (g' := (mkF m 4 #[.val (.int p0_0), .val (.int p0_1), .val (.int p0_2), .val (.int p0_3), .val (.int p0_4), .val (.int p0_5), .unset, .unset, .unset, .unset, .unset, .unset, .unset, .unset] [(.int 2147483647), (.int p0_5)])) (X0.ldcInt hx hown (mvT hZ ww0) (g := (mkF m 2 #[.val (.int p0_0), .val (.int p0_1), .val (.int p0_2), .val (.int p0_3), .val (.int p0_4), .val (.int p0_5), .unset, .unset, .unset, .unset, .unset, .unset, .unset, .unset] [(.int p0_5)])) rfl (hb hby at_2)) ?_
  refine own_s (g' := (mkF m 5 #[.val (.int p0_0), .val (.int p0_1), .val (.int p0_2), .val (.int p0_3), .val (.int p0_4), .val (.int p0_5), .unset, .unset, .unset, .unset, .unset, .unset, .unset, .unset] [(.int (p0_5 &&& (2147483647 : Int32)))])) (fun _ kz => XS.iand X0.here hx rfl (hb hby at_4) rfl kz) ?_
  refine own_s (g' := (mkF m 7 #[.val (.int p0_0), .val (.int p0_1), .val (.int p0_2), .val (.int p0_3), .val (.int p0_4), .val (.int p0_5), .unset, .unset, .unset, .unset, .unset, .unset, .unset, .unset] [(.int 6), (.int (p0_5 &&& (2147483647 : Int32)))])) (fun _ kz => XS.bipush X0.here hx rfl (hb hby at_5) kz) ?_
  refine own_s (g' := (mkF m 8 #[.val (.int p0_0), .val (.int p0_1), .val (.int p0_2), .val (.int p0_3), .val (.int p0_4), .val (.int p0_5), .unset, .unset, .unset, .unset, .unset, .unset, .unset, .unset] [(.int ((p0_5 &&& (2147483647 : Int32)) % (6 : Int32)))])) (fun _ kz => iremM X0 hx rfl (hb hby at_7) rfl (by decide) kz) ?_
  refine own_s (g' := (mkF m 10 #[.val (.int p0_0), .val (.int p0_1), .val (.int p0_2), .val (.int p0_3), .val (.int p0_4), .val (.int p0_5), .val (.int ((p0_5 &&& (2147483647 : Int32)) % (6 : Int32))), .unset, .unset, .unset, .unset, .unset, .unset, .unset] [])) (fun _ kz => XS.istore X0.here hx rfl (hb hby at_8) rfl (l' := #[.val (.int p0_0), .val (.int p0_1), .val (.int p0_2), .val (.int p0_3), .val (.int p0_4), .val (.int p0_5), .val (.int ((p0_5 &&& (2147483647 : Int32)) % (6 : Int32))), .unset, .unset, .unset, .unset, .unset, .unset, .unset]) rfl kz) ?_
  obtain ⟨nn, hnn⟩ : ∃ z, z = ((p0_5 &&& (2147483647 : Int32)) % (6 : Int32)) := ⟨_, rfl⟩
  rw [← hnn]
  refine own_s (g' := (mkF m 11 #[.val (.int p0_0), .val (.int p0_1), .val (.int p0_2), .val (.int p0_3), .val (.int p0_4), .val (.int p0_5), .val (.int nn), .unset, .unset, .unset, .unset, .unset, .unset, .unset] [(.int 5)])) (fun _ kz => XS.iconst X0.here hx rfl (hb hby at_10) kz) ?_
  obtain ⟨T208, h208, k208, X208, e208, E208, A208, st208⟩ := newP (aty := .int) X0 hx hZ ww1 e0 (g := (mkF m 11 #[.val (.int p0_0), .val (.int p0_1), .val (.int p0_2), .val (.int p0_3), .val (.int p0_4), .val (.int p0_5), .val (.int nn), .unset, .unset, .unset, .unset, .unset, .unset, .unset] [(.int 5)])) rfl (hb hby at_11) rfl (by decide) (cap := 5) (by decide) (by decide) (by decide) (by decide)
  obtain ⟨b208, ga208⟩ : ∃ z, z = h0.size := ⟨_, rfl⟩
  rw [← ga208] at A208 st208
  have g_b208 := Nat.le_trans Z0 (Nat.le_of_eq ga208.symm)
  have sz_b208 := Nat.le_trans K0.1 (Nat.le_of_eq ga208.symm)
  have V208 : Arv Z h208 b208 k208 .int (5 : Int32) [(.int 0), (.int 0), (.int 0), (.int 0), (.int 0)] (.int 0) := (Arv.new A208 (by decide)).pad (pad_rep [] (.int 0) 5)
  have K208 := K0.ext E208
  refine own_s (g' := (mkF m 13 #[.val (.int p0_0), .val (.int p0_1), .val (.int p0_2), .val (.int p0_3), .val (.int p0_4), .val (.int p0_5), .val (.int nn), .unset, .unset, .unset, .unset, .unset, .unset, .unset] [(.ref b208)])) st208 ?_
  refine own_s (g' := (mkF m 15 #[.val (.int p0_0), .val (.int p0_1), .val (.int p0_2), .val (.int p0_3), .val (.int p0_4), .val (.int p0_5), .val (.int nn), .val (.ref b208), .unset, .unset, .unset, .unset, .unset, .unset] [])) (fun _ kz => XS.astore X208.here hx rfl (hb hby at_13) rfl rfl (l' := #[.val (.int p0_0), .val (.int p0_1), .val (.int p0_2), .val (.int p0_3), .val (.int p0_4), .val (.int p0_5), .val (.int nn), .val (.ref b208), .unset, .unset, .unset, .unset, .unset, .unset]) rfl kz) ?_
  refine own_s (g' := (mkF m 17 #[.val (.int p0_0), .val (.int p0_1), .val (.int p0_2), .val (.int p0_3), .val (.int p0_4), .val (.int p0_5), .val (.int nn), .val (.ref b208), .unset, .unset, .unset, .unset, .unset, .unset] [(.ref b208)])) (fun _ kz => XS.aload X208.here hx rfl (hb hby at_15) rfl rfl kz) ?_
  refine own_s (g' := (mkF m 18 #[.val (.int p0_0), .val (.int p0_1), .val (.int p0_2), .val (.int p0_3), .val (.int p0_4), .val (.int p0_5), .val (.int nn), .val (.ref b208), .unset, .unset, .unset, .unset, .unset, .unset] [(.int 0), (.ref b208)])) (fun _ kz => XS.iconst X208.here hx rfl (hb hby at_17) kz) ?_
  refine own_s (g' := (mkF m 19 #[.val (.int p0_0), .val (.int p0_1), .val (.int p0_2), .val (.int p0_3), .val (.int p0_4), .val (.int p0_5), .val (.int nn), .val (.ref b208), .unset, .unset, .unset, .unset, .unset, .unset] [(.int p0_0), (.int 0), (.ref b208)])) (fun _ kz => XS.iloadN X208.here hx rfl (hb hby at_18) rfl kz) ?_
  refine own_s (g' := (mkF m 20 #[.val (.int p0_0), .val (.int p0_1), .val (.int p0_2), .val (.int p0_3), .val (.int p0_4), .val (.int p0_5), .val (.int nn), .val (.ref b208), .unset, .unset, .unset, .unset, .unset, .unset] [(.int 0), (.int p0_0), (.int 0), (.ref b208)])) (fun _ kz => XS.iconst X208.here hx rfl (hb hby at_19) kz) ?_
  refine own_s (g' := (mkF m 22 #[.val (.int p0_0), .val (.int p0_1), .val (.int p0_2), .val (.int p0_3), .val (.int p0_4), .val (.int p0_5), .val (.int nn), .val (.ref b208), .unset, .unset, .unset, .unset, .unset, .unset] [(.int nn), (.int 0), (.int p0_0), (.int 0), (.ref b208)])) (fun _ kz => XS.iload X208.here hx rfl (hb hby at_20) rfl kz) ?_
  obtain ⟨_, _, ⟨T209, L209, k209, n209⟩, -, X209, ⟨Lc209, hQ209, l209, y209, z209⟩, st209⟩ := Jvm.LawKit.callS X208 hx (y := (⟨"gallai/service/GraphicalitySlacksPinLaw", "degree", "(III)I"⟩ : MethodName)) hown (mvT hZ ww2) (mvT hZ ww3) (mvT hZ ww4) (mvT hZ ww5) (by decide) (backOf (W := 2) (rm1 l Z a0 hw [] p0_0 (0 : Int32) nn h208 n0 (Nat.le_trans Z0 K208.1) (by decide)) hZ ww5 ww4 (by decide) (by decide)) (g := (mkF m 22 #[.val (.int p0_0), .val (.int p0_1), .val (.int p0_2), .val (.int p0_3), .val (.int p0_4), .val (.int p0_5), .val (.int nn), .val (.ref b208), .unset, .unset, .unset, .unset, .unset, .unset] [(.int nn), (.int 0), (.int p0_0), (.int 0), (.ref b208)])) rfl (by rw [hml]; rfl) (argsL := [(.int p0_0), (.int 0), (.int nn)]) (rest := [(.int 0), (.ref b208)]) (lenOf pd__III_I rfl) rfl (by show 2 * 0 + _ ≤ _; exact Nat.le_of_eq rfl) (hb hby at_22) (fun _ _ => ⟨rfl, e208, (by decide : 1 + 0 ≤ _), (by decide : 5 + 0 ≤ _)⟩)
  dsimp only [Pt.U, Pt.locs, Pt.cells, Pt.slots] at X209 l209 y209 z209 st209 hQ209
  subst l209 y209 z209
  obtain ⟨rfl, N209q, eh209⟩ := hQ209
  have N209 := Fr.app N0 N209q
  refine own_s (g' := (mkF m 25 #[.val (.int p0_0), .val (.int p0_1), .val (.int p0_2), .val (.int p0_3), .val (.int p0_4), .val (.int p0_5), .val (.int nn), .val (.ref b208), .unset, .unset, .unset, .unset, .unset, .unset] [(.int (r1 p0_0 (0 : Int32) nn)), (.int 0), (.ref b208)])) st209 ?_
  obtain ⟨cl210, Ar210, q210, S210, M210, H210, G210⟩ := id V208
  obtain ⟨T210, h210, X210, e210, W210, st210⟩ := stI X209 hx hZ eh209 Ar210 (j := (0 : Int32)) (inb_of S210 ⟨by decide, by decide⟩) (g := (mkF m 25 #[.val (.int p0_0), .val (.int p0_1), .val (.int p0_2), .val (.int p0_3), .val (.int p0_4), .val (.int p0_5), .val (.int nn), .val (.ref b208), .unset, .unset, .unset, .unset, .unset, .unset] [(.int (r1 p0_0 (0 : Int32) nn)), (.int 0), (.ref b208)])) rfl rfl (hb hby at_25)
  have f211 : Arv Z h210 b208 k208 .int (5 : Int32) [(.int (r1 p0_0 (0 : Int32) nn)), (.int 0), (.int 0), (.int 0), (.int 0)] (.int 0) := Arv.set Ar210 q210 S210 M210 H210 G210 rfl W210 0 rfl (Nat.le_of_ble_eq_true rfl)
  have K210 := K208.wr W210 (Or.inr sz_b208)
  have N210 := Fr.snoc X210 N209 g_b208
  refine own_s (g' := (mkF m 26 #[.val (.int p0_0), .val (.int p0_1), .val (.int p0_2), .val (.int p0_3), .val (.int p0_4), .val (.int p0_5), .val (.int nn), .val (.ref b208), .unset, .unset, .unset, .unset, .unset, .unset] [])) st210 ?_
  refine own_s (g' := (mkF m 28 #[.val (.int p0_0), .val (.int p0_1), .val (.int p0_2), .val (.int p0_3), .val (.int p0_4), .val (.int p0_5), .val (.int nn), .val (.ref b208), .unset, .unset, .unset, .unset, .unset, .unset] [(.ref b208)])) (fun _ kz => XS.aload X210.here hx rfl (hb hby at_26) rfl rfl kz) ?_
  refine own_s (g' := (mkF m 29 #[.val (.int p0_0), .val (.int p0_1), .val (.int p0_2), .val (.int p0_3), .val (.int p0_4), .val (.int p0_5), .val (.int nn), .val (.ref b208), .unset, .unset, .unset, .unset, .unset, .unset] [(.int 1), (.ref b208)])) (fun _ kz => XS.iconst X210.here hx rfl (hb hby at_28) kz) ?_
  refine own_s (g' := (mkF m 30 #[.val (.int p0_0), .val (.int p0_1), .val (.int p0_2), .val (.int p0_3), .val (.int p0_4), .val (.int p0_5), .val (.int nn), .val (.ref b208), .unset, .unset, .unset, .unset, .unset, .unset] [(.int p0_1), (.int 1), (.ref b208)])) (fun _ kz => XS.iloadN X210.here hx rfl (hb hby at_29) rfl kz) ?_
  refine own_s (g' := (mkF m 31 #[.val (.int p0_0), .val (.int p0_1), .val (.int p0_2), .val (.int p0_3), .val (.int p0_4), .val (.int p0_5), .val (.int nn), .val (.ref b208), .unset, .unset, .unset, .unset, .unset, .unset] [(.int 1), (.int p0_1), (.int 1), (.ref b208)])) (fun _ kz => XS.iconst X210.here hx rfl (hb hby at_30) kz) ?_
  refine own_s (g' := (mkF m 33 #[.val (.int p0_0), .val (.int p0_1), .val (.int p0_2), .val (.int p0_3), .val (.int p0_4), .val (.int p0_5), .val (.int nn), .val (.ref b208), .unset, .unset, .unset, .unset, .unset, .unset] [(.int nn), (.int 1), (.int p0_1), (.int 1), (.ref b208)])) (fun _ kz => XS.iload X210.here hx rfl (hb hby at_31) rfl kz) ?_
  obtain ⟨_, _, ⟨T212, L212, k212, n212⟩, -, X212, ⟨Lc212, hQ212, l212, y212, z212⟩, st212⟩ := Jvm.LawKit.callS X210 hx (y := (⟨"gallai/service/GraphicalitySlacksPinLaw", "degree", "(III)I"⟩ : MethodName)) hown (mvT hZ ww2) (mvT hZ ww3) (mvT hZ ww4) (mvT hZ ww5) (by decide) (backOf (W := 2) (rm1 l Z a0 hw [] p0_1 (1 : Int32) nn h210 n0 (Nat.le_trans Z0 K210.1) (by decide)) hZ ww5 ww4 (by decide) (by decide)) (g := (mkF m 33 #[.val (.int p0_0), .val (.int p0_1), .val (.int p0_2), .val (.int p0_3), .val (.int p0_4), .val (.int p0_5), .val (.int nn), .val (.ref b208), .unset, .unset, .unset, .unset, .unset, .unset] [(.int nn), (.int 1), (.int p0_1), (.int 1), (.ref b208)])) rfl (by rw [hml]; rfl) (argsL := [(.int p0_1), (.int 1), (.int nn)]) (rest := [(.int 1), (.ref b208)]) (lenOf pd__III_I rfl) rfl (by show 2 * 0 + _ ≤ _; exact Nat.le_of_eq rfl) (hb hby at_33) (fun _ _ => ⟨rfl, e210, (by decide : 1 + 0 ≤ _), (by decide : 5 + 0 ≤ _)⟩)
  dsimp only [Pt.U, Pt.locs, Pt.cells, Pt.slots] at X212 l212 y212 z212 st212 hQ212
  subst l212 y212 z212
  obtain ⟨rfl, N212q, eh212⟩ := hQ212
  have N212 := Fr.app N210 N212q
  refine own_s (g' := (mkF m 36 #[.val (.int p0_0), .val (.int p0_1), .val (.int p0_2), .val (.int p0_3), .val (.int p0_4), .val (.int p0_5), .val (.int nn), .val (.ref b208), .unset, .unset, .unset, .unset, .unset, .unset] [(.int (r1 p0_1 (1 : Int32) nn)), (.int 1), (.ref b208)])) st212 ?_
  obtain ⟨cl213, Ar213, q213, S213, M213, H213, G213⟩ := id f211
  obtain ⟨T213, h213, X213, e213, W213, st213⟩ := stI X212 hx hZ eh212 Ar213 (j := (1 : Int32)) (inb_of S213 ⟨by decide, by decide⟩) (g := (mkF m 36 #[.val (.int p0_0), .val (.int p0_1), .val (.int p0_2), .val (.int p0_3), .val (.int p0_4), .val (.int p0_5), .val (.int nn), .val (.ref b208), .unset, .unset, .unset, .unset, .unset, .unset] [(.int (r1 p0_1 (1 : Int32) nn)), (.int 1), (.ref b208)])) rfl rfl (hb hby at_36)
  have f214 : Arv Z h213 b208 k208 .int (5 : Int32) [(.int (r1 p0_0 (0 : Int32) nn)), (.int (r1 p0_1 (1 : Int32) nn)), (.int 0), (.int 0), (.int 0)] (.int 0) := Arv.set Ar213 q213 S213 M213 H213 G213 rfl W213 1 rfl (Nat.le_of_ble_eq_true rfl)
  have K213 := K210.wr W213 (Or.inr sz_b208)
  have N213 := Fr.snoc X213 N212 g_b208
  refine own_s (g' := (mkF m 37 #[.val (.int p0_0), .val (.int p0_1), .val (.int p0_2), .val (.int p0_3), .val (.int p0_4), .val (.int p0_5), .val (.int nn), .val (.ref b208), .unset, .unset, .unset, .unset, .unset, .unset] [])) st213 ?_
  refine own_s (g' := (mkF m 39 #[.val (.int p0_0), .val (.int p0_1), .val (.int p0_2), .val (.int p0_3), .val (.int p0_4), .val (.int p0_5), .val (.int nn), .val (.ref b208), .unset, .unset, .unset, .unset, .unset, .unset] [(.ref b208)])) (fun _ kz => XS.aload X213.here hx rfl (hb hby at_37) rfl rfl kz) ?_
  refine own_s (g' := (mkF m 40 #[.val (.int p0_0), .val (.int p0_1), .val (.int p0_2), .val (.int p0_3), .val (.int p0_4), .val (.int p0_5), .val (.int nn), .val (.ref b208), .unset, .unset, .unset, .unset, .unset, .unset] [(.int 2), (.ref b208)])) (fun _ kz => XS.iconst X213.here hx rfl (hb hby at_39) kz) ?_
  refine own_s (g' := (mkF m 41 #[.val (.int p0_0), .val (.int p0_1), .val (.int p0_2), .val (.int p0_3), .val (.int p0_4), .val (.int p0_5), .val (.int nn), .val (.ref b208), .unset, .unset, .unset, .unset, .unset, .unset] [(.int p0_2), (.int 2), (.ref b208)])) (fun _ kz => XS.iloadN X213.here hx rfl (hb hby at_40) rfl kz) ?_
  refine own_s (g' := (mkF m 42 #[.val (.int p0_0), .val (.int p0_1), .val (.int p0_2), .val (.int p0_3), .val (.int p0_4), .val (.int p0_5), .val (.int nn), .val (.ref b208), .unset, .unset, .unset, .unset, .unset, .unset] [(.int 2), (.int p0_2), (.int 2), (.ref b208)])) (fun _ kz => XS.iconst X213.here hx rfl (hb hby at_41) kz) ?_
  refine own_s (g' := (mkF m 44 #[.val (.int p0_0), .val (.int p0_1), .val (.int p0_2), .val (.int p0_3), .val (.int p0_4), .val (.int p0_5), .val (.int nn), .val (.ref b208), .unset, .unset, .unset, .unset, .unset, .unset] [(.int nn), (.int 2), (.int p0_2), (.int 2), (.ref b208)])) (fun _ kz => XS.iload X213.here hx rfl (hb hby at_42) rfl kz) ?_
  obtain ⟨_, _, ⟨T215, L215, k215, n215⟩, -, X215, ⟨Lc215, hQ215, l215, y215, z215⟩, st215⟩ := Jvm.LawKit.callS X213 hx (y := (⟨"gallai/service/GraphicalitySlacksPinLaw", "degree", "(III)I"⟩ : MethodName)) hown (mvT hZ ww2) (mvT hZ ww3) (mvT hZ ww4) (mvT hZ ww5) (by decide) (backOf (W := 2) (rm1 l Z a0 hw [] p0_2 (2 : Int32) nn h213 n0 (Nat.le_trans Z0 K213.1) (by decide)) hZ ww5 ww4 (by decide) (by decide)) (g := (mkF m 44 #[.val (.int p0_0), .val (.int p0_1), .val (.int p0_2), .val (.int p0_3), .val (.int p0_4), .val (.int p0_5), .val (.int nn), .val (.ref b208), .unset, .unset, .unset, .unset, .unset, .unset] [(.int nn), (.int 2), (.int p0_2), (.int 2), (.ref b208)])) rfl (by rw [hml]; rfl) (argsL := [(.int p0_2), (.int 2), (.int nn)]) (rest := [(.int 2), (.ref b208)]) (lenOf pd__III_I rfl) rfl (by show 2 * 0 + _ ≤ _; exact Nat.le_of_eq rfl) (hb hby at_44) (fun _ _ => ⟨rfl, e213, (by decide : 1 + 0 ≤ _), (by decide : 5 + 0 ≤ _)⟩)
  dsimp only [Pt.U, Pt.locs, Pt.cells, Pt.slots] at X215 l215 y215 z215 st215 hQ215
  subst l215 y215 z215
  obtain ⟨rfl, N215q, eh215⟩ := hQ215
  have N215 := Fr.app N213 N215q
  refine own_s (g' := (mkF m 47 #[.val (.int p0_0), .val (.int p0_1), .val (.int p0_2), .val (.int p0_3), .val (.int p0_4), .val (.int p0_5), .val (.int nn), .val (.ref b208), .unset, .unset, .unset, .unset, .unset, .unset] [(.int (r1 p0_2 (2 : Int32) nn)), (.int 2), (.ref b208)])) st215 ?_
  obtain ⟨cl216, Ar216, q216, S216, M216, H216, G216⟩ := id f214
  obtain ⟨T216, h216, X216, e216, W216, st216⟩ := stI X215 hx hZ eh215 Ar216 (j := (2 : Int32)) (inb_of S216 ⟨by decide, by decide⟩) (g := (mkF m 47 #[.val (.int p0_0), .val (.int p0_1), .val (.int p0_2), .val (.int p0_3), .val (.int p0_4), .val (.int p0_5), .val (.int nn), .val (.ref b208), .unset, .unset, .unset, .unset, .unset, .unset] [(.int (r1 p0_2 (2 : Int32) nn)), (.int 2), (.ref b208)])) rfl rfl (hb hby at_47)
  have f217 : Arv Z h216 b208 k208 .int (5 : Int32) [(.int (r1 p0_0 (0 : Int32) nn)), (.int (r1 p0_1 (1 : Int32) nn)), (.int (r1 p0_2 (2 : Int32) nn)), (.int 0), (.int 0)] (.int 0) := Arv.set Ar216 q216 S216 M216 H216 G216 rfl W216 2 rfl (Nat.le_of_ble_eq_true rfl)
  have K216 := K213.wr W216 (Or.inr sz_b208)
  have N216 := Fr.snoc X216 N215 g_b208
  refine own_s (g' := (mkF m 48 #[.val (.int p0_0), .val (.int p0_1), .val (.int p0_2), .val (.int p0_3), .val (.int p0_4), .val (.int p0_5), .val (.int nn), .val (.ref b208), .unset, .unset, .unset, .unset, .unset, .unset] [])) st216 ?_
  refine own_s (g' := (mkF m 50 #[.val (.int p0_0), .val (.int p0_1), .val (.int p0_2), .val (.int p0_3), .val (.int p0_4), .val (.int p0_5), .val (.int nn), .val (.ref b208), .unset, .unset, .unset, .unset, .unset, .unset] [(.ref b208)])) (fun _ kz => XS.aload X216.here hx rfl (hb hby at_48) rfl rfl kz) ?_
  refine own_s (g' := (mkF m 51 #[.val (.int p0_0), .val (.int p0_1), .val (.int p0_2), .val (.int p0_3), .val (.int p0_4), .val (.int p0_5), .val (.int nn), .val (.ref b208), .unset, .unset, .unset, .unset, .unset, .unset] [(.int 3), (.ref b208)])) (fun _ kz => XS.iconst X216.here hx rfl (hb hby at_50) kz) ?_
  refine own_s (g' := (mkF m 52 #[.val (.int p0_0), .val (.int p0_1), .val (.int p0_2), .val (.int p0_3), .val (.int p0_4), .val (.int p0_5), .val (.int nn), .val (.ref b208), .unset, .unset, .unset, .unset, .unset, .unset] [(.int p0_3), (.int 3), (.ref b208)])) (fun _ kz => XS.iloadN X216.here hx rfl (hb hby at_51) rfl kz) ?_
  refine own_s (g' := (mkF m 53 #[.val (.int p0_0), .val (.int p0_1), .val (.int p0_2), .val (.int p0_3), .val (.int p0_4), .val (.int p0_5), .val (.int nn), .val (.ref b208), .unset, .unset, .unset, .unset, .unset, .unset] [(.int 3), (.int p0_3), (.int 3), (.ref b208)])) (fun _ kz => XS.iconst X216.here hx rfl (hb hby at_52) kz) ?_
  refine own_s (g' := (mkF m 55 #[.val (.int p0_0), .val (.int p0_1), .val (.int p0_2), .val (.int p0_3), .val (.int p0_4), .val (.int p0_5), .val (.int nn), .val (.ref b208), .unset, .unset, .unset, .unset, .unset, .unset] [(.int nn), (.int 3), (.int p0_3), (.int 3), (.ref b208)])) (fun _ kz => XS.iload X216.here hx rfl (hb hby at_53) rfl kz) ?_
  obtain ⟨_, _, ⟨T218, L218, k218, n218⟩, -, X218, ⟨Lc218, hQ218, l218, y218, z218⟩, st218⟩ := Jvm.LawKit.callS X216 hx (y := (⟨"gallai/service/GraphicalitySlacksPinLaw", "degree", "(III)I"⟩ : MethodName)) hown (mvT hZ ww2) (mvT hZ ww3) (mvT hZ ww4) (mvT hZ ww5) (by decide) (backOf (W := 2) (rm1 l Z a0 hw [] p0_3 (3 : Int32) nn h216 n0 (Nat.le_trans Z0 K216.1) (by decide)) hZ ww5 ww4 (by decide) (by decide)) (g := (mkF m 55 #[.val (.int p0_0), .val (.int p0_1), .val (.int p0_2), .val (.int p0_3), .val (.int p0_4), .val (.int p0_5), .val (.int nn), .val (.ref b208), .unset, .unset, .unset, .unset, .unset, .unset] [(.int nn), (.int 3), (.int p0_3), (.int 3), (.ref b208)])) rfl (by rw [hml]; rfl) (argsL := [(.int p0_3), (.int 3), (.int nn)]) (rest := [(.int 3), (.ref b208)]) (lenOf pd__III_I rfl) rfl (by show 2 * 0 + _ ≤ _; exact Nat.le_of_eq rfl) (hb hby at_55) (fun _ _ => ⟨rfl, e216, (by decide : 1 + 0 ≤ _), (by decide : 5 + 0 ≤ _)⟩)
  dsimp only [Pt.U, Pt.locs, Pt.cells, Pt.slots] at X218 l218 y218 z218 st218 hQ218
  subst l218 y218 z218
  obtain ⟨rfl, N218q, eh218⟩ := hQ218
  have N218 := Fr.app N216 N218q
  refine own_s (g' := (mkF m 58 #[.val (.int p0_0), .val (.int p0_1), .val (.int p0_2), .val (.int p0_3), .val (.int p0_4), .val (.int p0_5), .val (.int nn), .val (.ref b208), .unset, .unset, .unset, .unset, .unset, .unset] [(.int (r1 p0_3 (3 : Int32) nn)), (.int 3), (.ref b208)])) st218 ?_
  obtain ⟨cl219, Ar219, q219, S219, M219, H219, G219⟩ := id f217
  obtain ⟨T219, h219, X219, e219, W219, st219⟩ := stI X218 hx hZ eh218 Ar219 (j := (3 : Int32)) (inb_of S219 ⟨by decide, by decide⟩) (g := (mkF m 58 #[.val (.int p0_0), .val (.int p0_1), .val (.int p0_2), .val (.int p0_3), .val (.int p0_4), .val (.int p0_5), .val (.int nn), .val (.ref b208), .unset, .unset, .unset, .unset, .unset, .unset] [(.int (r1 p0_3 (3 : Int32) nn)), (.int 3), (.ref b208)])) rfl rfl (hb hby at_58)
  have f220 : Arv Z h219 b208 k208 .int (5 : Int32) [(.int (r1 p0_0 (0 : Int32) nn)), (.int (r1 p0_1 (1 : Int32) nn)), (.int (r1 p0_2 (2 : Int32) nn)), (.int (r1 p0_3 (3 : Int32) nn)), (.int 0)] (.int 0) := Arv.set Ar219 q219 S219 M219 H219 G219 rfl W219 3 rfl (Nat.le_of_ble_eq_true rfl)
  have K219 := K216.wr W219 (Or.inr sz_b208)
  have N219 := Fr.snoc X219 N218 g_b208
  refine own_s (g' := (mkF m 59 #[.val (.int p0_0), .val (.int p0_1), .val (.int p0_2), .val (.int p0_3), .val (.int p0_4), .val (.int p0_5), .val (.int nn), .val (.ref b208), .unset, .unset, .unset, .unset, .unset, .unset] [])) st219 ?_
  refine own_s (g' := (mkF m 61 #[.val (.int p0_0), .val (.int p0_1), .val (.int p0_2), .val (.int p0_3), .val (.int p0_4), .val (.int p0_5), .val (.int nn), .val (.ref b208), .unset, .unset, .unset, .unset, .unset, .unset] [(.ref b208)])) (fun _ kz => XS.aload X219.here hx rfl (hb hby at_59) rfl rfl kz) ?_
  refine own_s (g' := (mkF m 62 #[.val (.int p0_0), .val (.int p0_1), .val (.int p0_2), .val (.int p0_3), .val (.int p0_4), .val (.int p0_5), .val (.int nn), .val (.ref b208), .unset, .unset, .unset, .unset, .unset, .unset] [(.int 4), (.ref b208)])) (fun _ kz => XS.iconst X219.here hx rfl (hb hby at_61) kz) ?_
  refine own_s (g' := (mkF m 64 #[.val (.int p0_0), .val (.int p0_1), .val (.int p0_2), .val (.int p0_3), .val (.int p0_4), .val (.int p0_5), .val (.int nn), .val (.ref b208), .unset, .unset, .unset, .unset, .unset, .unset] [(.int p0_4), (.int 4), (.ref b208)])) (fun _ kz => XS.iload X219.here hx rfl (hb hby at_62) rfl kz) ?_
  refine own_s (g' := (mkF m 65 #[.val (.int p0_0), .val (.int p0_1), .val (.int p0_2), .val (.int p0_3), .val (.int p0_4), .val (.int p0_5), .val (.int nn), .val (.ref b208), .unset, .unset, .unset, .unset, .unset, .unset] [(.int 4), (.int p0_4), (.int 4), (.ref b208)])) (fun _ kz => XS.iconst X219.here hx rfl (hb hby at_64) kz) ?_
  refine own_s (g' := (mkF m 67 #[.val (.int p0_0), .val (.int p0_1), .val (.int p0_2), .val (.int p0_3), .val (.int p0_4), .val (.int p0_5), .val (.int nn), .val (.ref b208), .unset, .unset, .unset, .unset, .unset, .unset] [(.int nn), (.int 4), (.int p0_4), (.int 4), (.ref b208)])) (fun _ kz => XS.iload X219.here hx rfl (hb hby at_65) rfl kz) ?_
  obtain ⟨_, _, ⟨T221, L221, k221, n221⟩, -, X221, ⟨Lc221, hQ221, l221, y221, z221⟩, st221⟩ := Jvm.LawKit.callS X219 hx (y := (⟨"gallai/service/GraphicalitySlacksPinLaw", "degree", "(III)I"⟩ : MethodName)) hown (mvT hZ ww2) (mvT hZ ww3) (mvT hZ ww4) (mvT hZ ww5) (by decide) (backOf (W := 2) (rm1 l Z a0 hw [] p0_4 (4 : Int32) nn h219 n0 (Nat.le_trans Z0 K219.1) (by decide)) hZ ww5 ww4 (by decide) (by decide)) (g := (mkF m 67 #[.val (.int p0_0), .val (.int p0_1), .val (.int p0_2), .val (.int p0_3), .val (.int p0_4), .val (.int p0_5), .val (.int nn), .val (.ref b208), .unset, .unset, .unset, .unset, .unset, .unset] [(.int nn), (.int 4), (.int p0_4), (.int 4), (.ref b208)])) rfl (by rw [hml]; rfl) (argsL := [(.int p0_4), (.int 4), (.int nn)]) (rest := [(.int 4), (.ref b208)]) (lenOf pd__III_I rfl) rfl (by show 2 * 0 + _ ≤ _; exact Nat.le_of_eq rfl) (hb hby at_67) (fun _ _ => ⟨rfl, e219, (by decide : 1 + 0 ≤ _), (by decide : 5 + 0 ≤ _)⟩)
  dsimp only [Pt.U, Pt.locs, Pt.cells, Pt.slots] at X221 l221 y221 z221 st221 hQ221
  subst l221 y221 z221
  obtain ⟨rfl, N221q, eh221⟩ := hQ221
  have N221 := Fr.app N219 N221q
  refine own_s (g' := (mkF m 70 #[.val (.int p0_0), .val (.int p0_1), .val (.int p0_2), .val (.int p0_3), .val (.int p0_4), .val (.int p0_5), .val (.int nn), .val (.ref b208), .unset, .unset, .unset, .unset, .unset, .unset] [(.int (r1 p0_4 (4 : Int32) nn)), (.int 4), (.ref b208)])) st221 ?_
  obtain ⟨cl222, Ar222, q222, S222, M222, H222, G222⟩ := id f220
  obtain ⟨T222, h222, X222, e222, W222, st222⟩ := stI X221 hx hZ eh221 Ar222 (j := (4 : Int32)) (inb_of S222 ⟨by decide, by decide⟩) (g := (mkF m 70 #[.val (.int p0_0), .val (.int p0_1), .val (.int p0_2), .val (.int p0_3), .val (.int p0_4), .val (.int p0_5), .val (.int nn), .val (.ref b208), .unset, .unset, .unset, .unset, .unset, .unset] [(.int (r1 p0_4 (4 : Int32) nn)), (.int 4), (.ref b208)])) rfl rfl (hb hby at_70)
  have f223 : Arv Z h222 b208 k208 .int (5 : Int32) [(.int (r1 p0_0 (0 : Int32) nn)), (.int (r1 p0_1 (1 : Int32) nn)), (.int (r1 p0_2 (2 : Int32) nn)), (.int (r1 p0_3 (3 : Int32) nn)), (.int (r1 p0_4 (4 : Int32) nn))] (.int 0) := Arv.set Ar222 q222 S222 M222 H222 G222 rfl W222 4 rfl (Nat.le_of_ble_eq_true rfl)
  have K222 := K219.wr W222 (Or.inr sz_b208)
  have N222 := Fr.snoc X222 N221 g_b208
  refine own_s (g' := (mkF m 71 #[.val (.int p0_0), .val (.int p0_1), .val (.int p0_2), .val (.int p0_3), .val (.int p0_4), .val (.int p0_5), .val (.int nn), .val (.ref b208), .unset, .unset, .unset, .unset, .unset, .unset] [])) st222 ?_
  refine own_s (g' := (mkF m 73 #[.val (.int p0_0), .val (.int p0_1), .val (.int p0_2), .val (.int p0_3), .val (.int p0_4), .val (.int p0_5), .val (.int nn), .val (.ref b208), .unset, .unset, .unset, .unset, .unset, .unset] [(.int nn)])) (fun _ kz => XS.iload X222.here hx rfl (hb hby at_71) rfl kz) ?_
  obtain ⟨T224, h224, k224, X224, e224, E224, A224, st224⟩ := newP (aty := .int) X222 hx hZ ww1 e222 (g := (mkF m 73 #[.val (.int p0_0), .val (.int p0_1), .val (.int p0_2), .val (.int p0_3), .val (.int p0_4), .val (.int p0_5), .val (.int nn), .val (.ref b208), .unset, .unset, .unset, .unset, .unset, .unset] [(.int nn)])) rfl (hb hby at_73) rfl (own_s6 hnn).1 (cap := 5) (own_s6 hnn).2 (by decide) (by decide) (by decide)
  obtain ⟨b224, ga224⟩ : ∃ z, z = h222.size := ⟨_, rfl⟩
  rw [← ga224] at A224 st224
  have g_b224 := Nat.le_trans (Nat.le_trans Z0 K222.1) (Nat.le_of_eq ga224.symm)
  have sz_b224 := Nat.le_trans K222.1 (Nat.le_of_eq ga224.symm)
  have V224 : Arv Z h224 b224 k224 .int nn [] (.int 0) := Arv.new A224 (own_s6 hnn).1
  have K224 := K222.ext E224
  refine own_s (g' := (mkF m 75 #[.val (.int p0_0), .val (.int p0_1), .val (.int p0_2), .val (.int p0_3), .val (.int p0_4), .val (.int p0_5), .val (.int nn), .val (.ref b208), .unset, .unset, .unset, .unset, .unset, .unset] [(.ref b224)])) st224 ?_
  refine own_s (g' := (mkF m 77 #[.val (.int p0_0), .val (.int p0_1), .val (.int p0_2), .val (.int p0_3), .val (.int p0_4), .val (.int p0_5), .val (.int nn), .val (.ref b208), .val (.ref b224), .unset, .unset, .unset, .unset, .unset] [])) (fun _ kz => XS.astore X224.here hx rfl (hb hby at_75) rfl rfl (l' := #[.val (.int p0_0), .val (.int p0_1), .val (.int p0_2), .val (.int p0_3), .val (.int p0_4), .val (.int p0_5), .val (.int nn), .val (.ref b208), .val (.ref b224), .unset, .unset, .unset, .unset, .unset]) rfl kz) ?_
  have f225 := (f223.ext E224)
  rcases own_six p0_5 with hn | hn | hn | hn | hn | hn
  ·skip
   have hk := hnn.trans hn
   subst hk
   rw [show (r1 p0_0 (0 : Int32) (0 : Int32)) = (-1 : Int32) from if_neg (by decide)] at f225
   rw [show (r1 p0_1 (1 : Int32) (0 : Int32)) = (-1 : Int32) from if_neg (by decide)] at f225
   rw [show (r1 p0_2 (2 : Int32) (0 : Int32)) = (-1 : Int32) from if_neg (by decide)] at f225
   rw [show (r1 p0_3 (3 : Int32) (0 : Int32)) = (-1 : Int32) from if_neg (by decide)] at f225
   rw [show (r1 p0_4 (4 : Int32) (0 : Int32)) = (-1 : Int32) from if_neg (by decide)] at f225
   show own_G p e below s _ _ _ T224 (mkF m _ (own_L0_0 p0_0 p0_1 p0_2 p0_3 p0_4 p0_5 b208 b224 .unset .unset .unset .unset .unset) _)
   obtain ⟨cs0, hcs0⟩ : ∃ z, z = ([] : List Int32) := ⟨_, rfl⟩
   have f226 : Arv Z h224 b224 k224 .int (0 : Int32) (cs0.map Value.int) (.int 0) := by rw [hcs0]; exact V224
   have hl0 : cs0.length = (0 : Int32).toNatClampNeg := by rw [hcs0]; decide
   refine own_s (g' := (mkF m 79 (own_L0_0 p0_0 p0_1 p0_2 p0_3 p0_4 p0_5 b208 b224 .unset .unset .unset .unset .unset) [(.int 0)])) (fun _ kz => XS.iload X224.here hx rfl (hb hby at_77) rfl kz) ?_
   refine own_s (g' := (mkF m 93 (own_L0_0 p0_0 p0_1 p0_2 p0_3 p0_4 p0_5 b208 b224 .unset .unset .unset .unset .unset) [])) (fun _ kz => XS.ifYes X224.here hx rfl (pc0 := 79) (pc' := 93) rfl (hb hby at_79) rfl ((if0 _ _).trans (flt ((by decide) : ¬ (0 : Int32) < (0 : Int32))).2.2.2) (by decide) (by decide) kz) ?_
   refine own_s (g' := (mkF m 95 (own_L0_0 p0_0 p0_1 p0_2 p0_3 p0_4 p0_5 b208 b224 .unset .unset .unset .unset .unset) [(.int 0)])) (fun _ kz => XS.iload X224.here hx rfl (hb hby at_93) rfl kz) ?_
   refine own_s (g' := (mkF m 96 (own_L0_0 p0_0 p0_1 p0_2 p0_3 p0_4 p0_5 b208 b224 .unset .unset .unset .unset .unset) [(.int 1), (.int 0)])) (fun _ kz => XS.iconst X224.here hx rfl (hb hby at_95) kz) ?_
   refine own_s (g' := (mkF m 110 (own_L0_0 p0_0 p0_1 p0_2 p0_3 p0_4 p0_5 b208 b224 .unset .unset .unset .unset .unset) [])) (fun _ kz => XS.icmpYes X224.here hx rfl (pc0 := 96) (pc' := 110) rfl (hb hby at_96) rfl (flt ((by decide) : ¬ (1 : Int32) < (0 : Int32))).2.2.2 (by decide) (by decide) kz) ?_
   refine own_s (g' := (mkF m 112 (own_L0_0 p0_0 p0_1 p0_2 p0_3 p0_4 p0_5 b208 b224 .unset .unset .unset .unset .unset) [(.int 0)])) (fun _ kz => XS.iload X224.here hx rfl (hb hby at_110) rfl kz) ?_
   refine own_s (g' := (mkF m 113 (own_L0_0 p0_0 p0_1 p0_2 p0_3 p0_4 p0_5 b208 b224 .unset .unset .unset .unset .unset) [(.int 2), (.int 0)])) (fun _ kz => XS.iconst X224.here hx rfl (hb hby at_112) kz) ?_
   refine own_s (g' := (mkF m 127 (own_L0_0 p0_0 p0_1 p0_2 p0_3 p0_4 p0_5 b208 b224 .unset .unset .unset .unset .unset) [])) (fun _ kz => XS.icmpYes X224.here hx rfl (pc0 := 113) (pc' := 127) rfl (hb hby at_113) rfl (flt ((by decide) : ¬ (2 : Int32) < (0 : Int32))).2.2.2 (by decide) (by decide) kz) ?_
   refine own_s (g' := (mkF m 129 (own_L0_0 p0_0 p0_1 p0_2 p0_3 p0_4 p0_5 b208 b224 .unset .unset .unset .unset .unset) [(.int 0)])) (fun _ kz => XS.iload X224.here hx rfl (hb hby at_127) rfl kz) ?_
   refine own_s (g' := (mkF m 130 (own_L0_0 p0_0 p0_1 p0_2 p0_3 p0_4 p0_5 b208 b224 .unset .unset .unset .unset .unset) [(.int 3), (.int 0)])) (fun _ kz => XS.iconst X224.here hx rfl (hb hby at_129) kz) ?_
   refine own_s (g' := (mkF m 144 (own_L0_0 p0_0 p0_1 p0_2 p0_3 p0_4 p0_5 b208 b224 .unset .unset .unset .unset .unset) [])) (fun _ kz => XS.icmpYes X224.here hx rfl (pc0 := 130) (pc' := 144) rfl (hb hby at_130) rfl (flt ((by decide) : ¬ (3 : Int32) < (0 : Int32))).2.2.2 (by decide) (by decide) kz) ?_
   refine own_s (g' := (mkF m 146 (own_L0_0 p0_0 p0_1 p0_2 p0_3 p0_4 p0_5 b208 b224 .unset .unset .unset .unset .unset) [(.int 0)])) (fun _ kz => XS.iload X224.here hx rfl (hb hby at_144) rfl kz) ?_
   refine own_s (g' := (mkF m 147 (own_L0_0 p0_0 p0_1 p0_2 p0_3 p0_4 p0_5 b208 b224 .unset .unset .unset .unset .unset) [(.int 4), (.int 0)])) (fun _ kz => XS.iconst X224.here hx rfl (hb hby at_146) kz) ?_
   refine own_s (g' := (mkF m 161 (own_L0_0 p0_0 p0_1 p0_2 p0_3 p0_4 p0_5 b208 b224 .unset .unset .unset .unset .unset) [])) (fun _ kz => XS.icmpYes X224.here hx rfl (pc0 := 147) (pc' := 161) rfl (hb hby at_147) rfl (flt ((by decide) : ¬ (4 : Int32) < (0 : Int32))).2.2.2 (by decide) (by decide) kz) ?_
   have hgd := own_gd0 cs0 hcs0
   have ne227 : b208 ≠ b224 := Nat.ne_of_lt (Nat.lt_of_lt_of_le f223.lt (Nat.le_of_eq ga224.symm))
   exact own_midz l Z a0 hw (.val (.int p0_0)) (.val (.int p0_1)) (.val (.int p0_2)) (.val (.int p0_3)) (.val (.int p0_4)) p0_5 (0 : Int32) b208 b224 cs0 k208 (-1 : Int32) (-1 : Int32) (-1 : Int32) (-1 : Int32) (-1 : Int32) k224 (X224.more (by decide) (by decide)) hx hZ hby hml hown hlk hret h224 n0 e224 (Nat.le_trans Z0 K224.1) N222 f225 f226 g_b208 (Ne.symm ne227) (by decide) (by decide) (by decide) (by decide) hgd
  ·skip
   have hk := hnn.trans hn
   subst hk
   rw [show (r1 p0_0 (0 : Int32) (1 : Int32)) = ((p0_0 &&& (2147483647 : Int32)) % (1 : Int32)) from if_pos (by decide)] at f225
   obtain ⟨u0, hu0⟩ : ∃ z, z = ((p0_0 &&& (2147483647 : Int32)) % (1 : Int32)) := ⟨_, rfl⟩
   rw [← hu0] at f225
   have b0 := own_bm p0_0 (1 : Int32) 1 (by decide) (by decide)
   rw [← hu0] at b0
   have i0 := own_ub (n := (1 : Int32)) (by decide) b0
   rw [show (r1 p0_1 (1 : Int32) (1 : Int32)) = (-1 : Int32) from if_neg (by decide)] at f225
   rw [show (r1 p0_2 (2 : Int32) (1 : Int32)) = (-1 : Int32) from if_neg (by decide)] at f225
   rw [show (r1 p0_3 (3 : Int32) (1 : Int32)) = (-1 : Int32) from if_neg (by decide)] at f225
   rw [show (r1 p0_4 (4 : Int32) (1 : Int32)) = (-1 : Int32) from if_neg (by decide)] at f225
   show own_G p e below s _ _ _ T224 (mkF m _ (own_L0_1 p0_0 p0_1 p0_2 p0_3 p0_4 p0_5 b208 b224 .unset .unset .unset .unset .unset) _)
   obtain ⟨cs0, hcs0⟩ : ∃ z, z = ([0] : List Int32) := ⟨_, rfl⟩
   have f228 : Arv Z h224 b224 k224 .int (1 : Int32) (cs0.map Value.int) (.int 0) := by rw [hcs0]; exact V224.pad (pad_rep [] (.int 0) 1)
   have hl0 : cs0.length = (1 : Int32).toNatClampNeg := by rw [hcs0]; decide
   refine own_s (g' := (mkF m 79 (own_L0_1 p0_0 p0_1 p0_2 p0_3 p0_4 p0_5 b208 b224 .unset .unset .unset .unset .unset) [(.int 1)])) (fun _ kz => XS.iload X224.here hx rfl (hb hby at_77) rfl kz) ?_
   refine own_s (g' := (mkF m 82 (own_L0_1 p0_0 p0_1 p0_2 p0_3 p0_4 p0_5 b208 b224 .unset .unset .unset .unset .unset) [])) (fun _ kz => XS.ifNo X224.here hx rfl (hb hby at_79) rfl ((if0 _ _).trans (tlt ((by decide) : (0 : Int32) < (1 : Int32))).2.2.2) kz) ?_
   refine own_s (g' := (mkF m 84 (own_L0_1 p0_0 p0_1 p0_2 p0_3 p0_4 p0_5 b208 b224 .unset .unset .unset .unset .unset) [(.ref b224)])) (fun _ kz => XS.aload X224.here hx rfl (hb hby at_82) rfl rfl kz) ?_
   refine own_s (g' := (mkF m 86 (own_L0_1 p0_0 p0_1 p0_2 p0_3 p0_4 p0_5 b208 b224 .unset .unset .unset .unset .unset) [(.ref b208), (.ref b224)])) (fun _ kz => XS.aload X224.here hx rfl (hb hby at_84) rfl rfl kz) ?_
   refine own_s (g' := (mkF m 87 (own_L0_1 p0_0 p0_1 p0_2 p0_3 p0_4 p0_5 b208 b224 .unset .unset .unset .unset .unset) [(.int 0), (.ref b208), (.ref b224)])) (fun _ kz => XS.iconst X224.here hx rfl (hb hby at_86) kz) ?_
   obtain ⟨cl229, Ar229, -, S229, -, H229, -⟩ := id f225
   have in229 := inb_of S229 (j := (0 : Int32)) ⟨by decide, by decide⟩
   refine own_s (g' := (mkF m 88 (own_L0_1 p0_0 p0_1 p0_2 p0_3 p0_4 p0_5 b208 b224 .unset .unset .unset .unset .unset) [(.int u0), (.ref b224)])) (X224.iaload hx (j := (0 : Int32)) (v := (.int u0)) (by rw [e224]; exact Ar229.1) (State.isArrayOf_alike hZ.alike Ar229.2.1) Ar229.2.2 in229 (Has.at H229 in229 rfl) (g := (mkF m 87 (own_L0_1 p0_0 p0_1 p0_2 p0_3 p0_4 p0_5 b208 b224 .unset .unset .unset .unset .unset) [(.int 0), (.ref b208), (.ref b224)])) rfl rfl (hb hby at_87)) ?_
   refine own_s (g' := (mkF m 89 (own_L0_1 p0_0 p0_1 p0_2 p0_3 p0_4 p0_5 b208 b224 .unset .unset .unset .unset .unset) [(.int u0), (.ref b224), (.int u0), (.ref b224)])) (fun _ kz => XT.dup2 X224.here hx rfl (hb hby at_88) rfl rfl rfl kz) ?_
   obtain ⟨cl230, Ar230, -, S230, -, H230, -⟩ := id f228
   have in230 := inb_of S230 (j := u0) i0
   refine own_s (g' := (mkF m 90 (own_L0_1 p0_0 p0_1 p0_2 p0_3 p0_4 p0_5 b208 b224 .unset .unset .unset .unset .unset) [(.int (cs0.getD u0.toNatClampNeg 0)), (.int u0), (.ref b224)])) (X224.iaload hx (j := u0) (v := (.int (cs0.getD u0.toNatClampNeg 0))) (by rw [e224]; exact Ar230.1) (State.isArrayOf_alike hZ.alike Ar230.2.1) Ar230.2.2 in230 (Has.at H230 in230 (own_mapD cs0 _)) (g := (mkF m 89 (own_L0_1 p0_0 p0_1 p0_2 p0_3 p0_4 p0_5 b208 b224 .unset .unset .unset .unset .unset) [(.int u0), (.ref b224), (.int u0), (.ref b224)])) rfl rfl (hb hby at_89)) ?_
   refine own_s (g' := (mkF m 91 (own_L0_1 p0_0 p0_1 p0_2 p0_3 p0_4 p0_5 b208 b224 .unset .unset .unset .unset .unset) [(.int 1), (.int (cs0.getD u0.toNatClampNeg 0)), (.int u0), (.ref b224)])) (fun _ kz => XS.iconst X224.here hx rfl (hb hby at_90) kz) ?_
   refine own_s (g' := (mkF m 92 (own_L0_1 p0_0 p0_1 p0_2 p0_3 p0_4 p0_5 b208 b224 .unset .unset .unset .unset .unset) [(.int ((cs0.getD u0.toNatClampNeg 0) + (1 : Int32))), (.int u0), (.ref b224)])) (fun _ kz => XS.iadd X224.here hx rfl (hb hby at_91) rfl kz) ?_
   obtain ⟨cl231, Ar231, q231, S231, M231, H231, G231⟩ := id f228
   obtain ⟨T231, h231, X231, e231, W231, st231⟩ := stI X224 hx hZ e224 Ar231 (j := u0) (inb_of S231 i0) (g := (mkF m 92 (own_L0_1 p0_0 p0_1 p0_2 p0_3 p0_4 p0_5 b208 b224 .unset .unset .unset .unset .unset) [(.int ((cs0.getD u0.toNatClampNeg 0) + (1 : Int32))), (.int u0), (.ref b224)])) rfl rfl (hb hby at_92)
   have f232 : Arv Z h231 b224 k224 .int (1 : Int32) ((cs0.set u0.toNatClampNeg ((cs0.getD u0.toNatClampNeg 0) + (1 : Int32))).map Value.int) (.int 0) := by rw [List.map_set]; exact Arv.set Ar231 q231 S231 M231 H231 G231 rfl W231 _ rfl (by rw [List.length_map]; exact (own_ixN i0 hl0))
   have K231 := K224.wr W231 (Or.inr sz_b224)
   have N231 := Fr.snoc X231 N222 g_b224
   refine own_s (g' := (mkF m 93 (own_L0_1 p0_0 p0_1 p0_2 p0_3 p0_4 p0_5 b208 b224 .unset .unset .unset .unset .unset) [])) st231 ?_
   obtain ⟨cs1, hcs1⟩ : ∃ z, z = (cs0.set u0.toNatClampNeg ((cs0.getD u0.toNatClampNeg 0) + (1 : Int32))) := ⟨_, rfl⟩
   rw [← hcs1] at f232
   have hl1 : cs1.length = (1 : Int32).toNatClampNeg := by rw [hcs1, List.length_set]; exact hl0
   refine own_s (g' := (mkF m 95 (own_L0_1 p0_0 p0_1 p0_2 p0_3 p0_4 p0_5 b208 b224 .unset .unset .unset .unset .unset) [(.int 1)])) (fun _ kz => XS.iload X231.here hx rfl (hb hby at_93) rfl kz) ?_
   refine own_s (g' := (mkF m 96 (own_L0_1 p0_0 p0_1 p0_2 p0_3 p0_4 p0_5 b208 b224 .unset .unset .unset .unset .unset) [(.int 1), (.int 1)])) (fun _ kz => XS.iconst X231.here hx rfl (hb hby at_95) kz) ?_
   refine own_s (g' := (mkF m 110 (own_L0_1 p0_0 p0_1 p0_2 p0_3 p0_4 p0_5 b208 b224 .unset .unset .unset .unset .unset) [])) (fun _ kz => XS.icmpYes X231.here hx rfl (pc0 := 96) (pc' := 110) rfl (hb hby at_96) rfl (flt ((by decide) : ¬ (1 : Int32) < (1 : Int32))).2.2.2 (by decide) (by decide) kz) ?_
   refine own_s (g' := (mkF m 112 (own_L0_1 p0_0 p0_1 p0_2 p0_3 p0_4 p0_5 b208 b224 .unset .unset .unset .unset .unset) [(.int 1)])) (fun _ kz => XS.iload X231.here hx rfl (hb hby at_110) rfl kz) ?_
   refine own_s (g' := (mkF m 113 (own_L0_1 p0_0 p0_1 p0_2 p0_3 p0_4 p0_5 b208 b224 .unset .unset .unset .unset .unset) [(.int 2), (.int 1)])) (fun _ kz => XS.iconst X231.here hx rfl (hb hby at_112) kz) ?_
   refine own_s (g' := (mkF m 127 (own_L0_1 p0_0 p0_1 p0_2 p0_3 p0_4 p0_5 b208 b224 .unset .unset .unset .unset .unset) [])) (fun _ kz => XS.icmpYes X231.here hx rfl (pc0 := 113) (pc' := 127) rfl (hb hby at_113) rfl (flt ((by decide) : ¬ (2 : Int32) < (1 : Int32))).2.2.2 (by decide) (by decide) kz) ?_
   refine own_s (g' := (mkF m 129 (own_L0_1 p0_0 p0_1 p0_2 p0_3 p0_4 p0_5 b208 b224 .unset .unset .unset .unset .unset) [(.int 1)])) (fun _ kz => XS.iload X231.here hx rfl (hb hby at_127) rfl kz) ?_
   refine own_s (g' := (mkF m 130 (own_L0_1 p0_0 p0_1 p0_2 p0_3 p0_4 p0_5 b208 b224 .unset .unset .unset .unset .unset) [(.int 3), (.int 1)])) (fun _ kz => XS.iconst X231.here hx rfl (hb hby at_129) kz) ?_
   refine own_s (g' := (mkF m 144 (own_L0_1 p0_0 p0_1 p0_2 p0_3 p0_4 p0_5 b208 b224 .unset .unset .unset .unset .unset) [])) (fun _ kz => XS.icmpYes X231.here hx rfl (pc0 := 130) (pc' := 144) rfl (hb hby at_130) rfl (flt ((by decide) : ¬ (3 : Int32) < (1 : Int32))).2.2.2 (by decide) (by decide) kz) ?_
   refine own_s (g' := (mkF m 146 (own_L0_1 p0_0 p0_1 p0_2 p0_3 p0_4 p0_5 b208 b224 .unset .unset .unset .unset .unset) [(.int 1)])) (fun _ kz => XS.iload X231.here hx rfl (hb hby at_144) rfl kz) ?_
   refine own_s (g' := (mkF m 147 (own_L0_1 p0_0 p0_1 p0_2 p0_3 p0_4 p0_5 b208 b224 .unset .unset .unset .unset .unset) [(.int 4), (.int 1)])) (fun _ kz => XS.iconst X231.here hx rfl (hb hby at_146) kz) ?_
   refine own_s (g' := (mkF m 161 (own_L0_1 p0_0 p0_1 p0_2 p0_3 p0_4 p0_5 b208 b224 .unset .unset .unset .unset .unset) [])) (fun _ kz => XS.icmpYes X231.here hx rfl (pc0 := 147) (pc' := 161) rfl (hb hby at_147) rfl (flt ((by decide) : ¬ (4 : Int32) < (1 : Int32))).2.2.2 (by decide) (by decide) kz) ?_
   have hgd := own_gd1 u0 cs0 cs1 hcs0 hcs1 b0
   have ne233 : b208 ≠ b224 := Nat.ne_of_lt (Nat.lt_of_lt_of_le f223.lt (Nat.le_of_eq ga224.symm))
   have f234 := (f225.other W231 ne233)
   exact own_mid l Z a0 hw (.val (.int p0_0)) (.val (.int p0_1)) (.val (.int p0_2)) (.val (.int p0_3)) (.val (.int p0_4)) p0_5 (1 : Int32) b208 b224 cs1 (1 : Int) k208 u0 (-1 : Int32) (-1 : Int32) (-1 : Int32) (-1 : Int32) k224 (X231.more (by decide) (by decide)) hx hZ hby hml hown hlk hret h231 n0 e231 (Nat.le_trans Z0 K231.1) N231 f234 f232 g_b208 (Ne.symm ne233) (by decide) (by decide) (by decide) (by decide) hgd
  ·skip
   have hk := hnn.trans hn
   subst hk
   rw [show (r1 p0_0 (0 : Int32) (2 : Int32)) = ((p0_0 &&& (2147483647 : Int32)) % (2 : Int32)) from if_pos (by decide)] at f225
   obtain ⟨u0, hu0⟩ : ∃ z, z = ((p0_0 &&& (2147483647 : Int32)) % (2 : Int32)) := ⟨_, rfl⟩
   rw [← hu0] at f225
   have b0 := own_bm p0_0 (2 : Int32) 2 (by decide) (by decide)
   rw [← hu0] at b0
   have i0 := own_ub (n := (2 : Int32)) (by decide) b0
   rw [show (r1 p0_1 (1 : Int32) (2 : Int32)) = ((p0_1 &&& (2147483647 : Int32)) % (2 : Int32)) from if_pos (by decide)] at f225
   obtain ⟨u1, hu1⟩ : ∃ z, z = ((p0_1 &&& (2147483647 : Int32)) % (2 : Int32)) := ⟨_, rfl⟩
   rw [← hu1] at f225
   have b1 := own_bm p0_1 (2 : Int32) 2 (by decide) (by decide)
   rw [← hu1] at b1
   have i1 := own_ub (n := (2 : Int32)) (by decide) b1
   rw [show (r1 p0_2 (2 : Int32) (2 : Int32)) = (-1 : Int32) from if_neg (by decide)] at f225
   rw [show (r1 p0_3 (3 : Int32) (2 : Int32)) = (-1 : Int32) from if_neg (by decide)] at f225
   rw [show (r1 p0_4 (4 : Int32) (2 : Int32)) = (-1 : Int32) from if_neg (by decide)] at f225
   show own_G p e below s _ _ _ T224 (mkF m _ (own_L0_2 p0_0 p0_1 p0_2 p0_3 p0_4 p0_5 b208 b224 .unset .unset .unset .unset .unset) _)
   obtain ⟨cs0, hcs0⟩ : ∃ z, z = ([0, 0] : List Int32) := ⟨_, rfl⟩
   have f235 : Arv Z h224 b224 k224 .int (2 : Int32) (cs0.map Value.int) (.int 0) := by rw [hcs0]; exact V224.pad (pad_rep [] (.int 0) 2)
   have hl0 : cs0.length = (2 : Int32).toNatClampNeg := by rw [hcs0]; decide
   refine own_s (g' := (mkF m 79 (own_L0_2 p0_0 p0_1 p0_2 p0_3 p0_4 p0_5 b208 b224 .unset .unset .unset .unset .unset) [(.int 2)])) (fun _ kz => XS.iload X224.here hx rfl (hb hby at_77) rfl kz) ?_
   refine own_s (g' := (mkF m 82 (own_L0_2 p0_0 p0_1 p0_2 p0_3 p0_4 p0_5 b208 b224 .unset .unset .unset .unset .unset) [])) (fun _ kz => XS.ifNo X224.here hx rfl (hb hby at_79) rfl ((if0 _ _).trans (tlt ((by decide) : (0 : Int32) < (2 : Int32))).2.2.2) kz) ?_
   refine own_s (g' := (mkF m 84 (own_L0_2 p0_0 p0_1 p0_2 p0_3 p0_4 p0_5 b208 b224 .unset .unset .unset .unset .unset) [(.ref b224)])) (fun _ kz => XS.aload X224.here hx rfl (hb hby at_82) rfl rfl kz) ?_
   refine own_s (g' := (mkF m 86 (own_L0_2 p0_0 p0_1 p0_2 p0_3 p0_4 p0_5 b208 b224 .unset .unset .unset .unset .unset) [(.ref b208), (.ref b224)])) (fun _ kz => XS.aload X224.here hx rfl (hb hby at_84) rfl rfl kz) ?_
   refine own_s (g' := (mkF m 87 (own_L0_2 p0_0 p0_1 p0_2 p0_3 p0_4 p0_5 b208 b224 .unset .unset .unset .unset .unset) [(.int 0), (.ref b208), (.ref b224)])) (fun _ kz => XS.iconst X224.here hx rfl (hb hby at_86) kz) ?_
   obtain ⟨cl236, Ar236, -, S236, -, H236, -⟩ := id f225
   have in236 := inb_of S236 (j := (0 : Int32)) ⟨by decide, by decide⟩
   refine own_s (g' := (mkF m 88 (own_L0_2 p0_0 p0_1 p0_2 p0_3 p0_4 p0_5 b208 b224 .unset .unset .unset .unset .unset) [(.int u0), (.ref b224)])) (X224.iaload hx (j := (0 : Int32)) (v := (.int u0)) (by rw [e224]; exact Ar236.1) (State.isArrayOf_alike hZ.alike Ar236.2.1) Ar236.2.2 in236 (Has.at H236 in236 rfl) (g := (mkF m 87 (own_L0_2 p0_0 p0_1 p0_2 p0_3 p0_4 p0_5 b208 b224 .unset .unset .unset .unset .unset) [(.int 0), (.ref b208), (.ref b224)])) rfl rfl (hb hby at_87)) ?_
   refine own_s (g' := (mkF m 89 (own_L0_2 p0_0 p0_1 p0_2 p0_3 p0_4 p0_5 b208 b224 .unset .unset .unset .unset .unset) [(.int u0), (.ref b224), (.int u0), (.ref b224)])) (fun _ kz => XT.dup2 X224.here hx rfl (hb hby at_88) rfl rfl rfl kz) ?_
   obtain ⟨cl237, Ar237, -, S237, -, H237, -⟩ := id f235
   have in237 := inb_of S237 (j := u0) i0
   refine own_s (g' := (mkF m 90 (own_L0_2 p0_0 p0_1 p0_2 p0_3 p0_4 p0_5 b208 b224 .unset .unset .unset .unset .unset) [(.int (cs0.getD u0.toNatClampNeg 0)), (.int u0), (.ref b224)])) (X224.iaload hx (j := u0) (v := (.int (cs0.getD u0.toNatClampNeg 0))) (by rw [e224]; exact Ar237.1) (State.isArrayOf_alike hZ.alike Ar237.2.1) Ar237.2.2 in237 (Has.at H237 in237 (own_mapD cs0 _)) (g := (mkF m 89 (own_L0_2 p0_0 p0_1 p0_2 p0_3 p0_4 p0_5 b208 b224 .unset .unset .unset .unset .unset) [(.int u0), (.ref b224), (.int u0), (.ref b224)])) rfl rfl (hb hby at_89)) ?_
   refine own_s (g' := (mkF m 91 (own_L0_2 p0_0 p0_1 p0_2 p0_3 p0_4 p0_5 b208 b224 .unset .unset .unset .unset .unset) [(.int 1), (.int (cs0.getD u0.toNatClampNeg 0)), (.int u0), (.ref b224)])) (fun _ kz => XS.iconst X224.here hx rfl (hb hby at_90) kz) ?_
   refine own_s (g' := (mkF m 92 (own_L0_2 p0_0 p0_1 p0_2 p0_3 p0_4 p0_5 b208 b224 .unset .unset .unset .unset .unset) [(.int ((cs0.getD u0.toNatClampNeg 0) + (1 : Int32))), (.int u0), (.ref b224)])) (fun _ kz => XS.iadd X224.here hx rfl (hb hby at_91) rfl kz) ?_
   obtain ⟨cl238, Ar238, q238, S238, M238, H238, G238⟩ := id f235
   obtain ⟨T238, h238, X238, e238, W238, st238⟩ := stI X224 hx hZ e224 Ar238 (j := u0) (inb_of S238 i0) (g := (mkF m 92 (own_L0_2 p0_0 p0_1 p0_2 p0_3 p0_4 p0_5 b208 b224 .unset .unset .unset .unset .unset) [(.int ((cs0.getD u0.toNatClampNeg 0) + (1 : Int32))), (.int u0), (.ref b224)])) rfl rfl (hb hby at_92)
   have f239 : Arv Z h238 b224 k224 .int (2 : Int32) ((cs0.set u0.toNatClampNeg ((cs0.getD u0.toNatClampNeg 0) + (1 : Int32))).map Value.int) (.int 0) := by rw [List.map_set]; exact Arv.set Ar238 q238 S238 M238 H238 G238 rfl W238 _ rfl (by rw [List.length_map]; exact (own_ixN i0 hl0))
   have K238 := K224.wr W238 (Or.inr sz_b224)
   have N238 := Fr.snoc X238 N222 g_b224
   refine own_s (g' := (mkF m 93 (own_L0_2 p0_0 p0_1 p0_2 p0_3 p0_4 p0_5 b208 b224 .unset .unset .unset .unset .unset) [])) st238 ?_
   obtain ⟨cs1, hcs1⟩ : ∃ z, z = (cs0.set u0.toNatClampNeg ((cs0.getD u0.toNatClampNeg 0) + (1 : Int32))) := ⟨_, rfl⟩
   rw [← hcs1] at f239
   have hl1 : cs1.length = (2 : Int32).toNatClampNeg := by rw [hcs1, List.length_set]; exact hl0
   refine own_s (g' := (mkF m 95 (own_L0_2 p0_0 p0_1 p0_2 p0_3 p0_4 p0_5 b208 b224 .unset .unset .unset .unset .unset) [(.int 2)])) (fun _ kz => XS.iload X238.here hx rfl (hb hby at_93) rfl kz) ?_
   refine own_s (g' := (mkF m 96 (own_L0_2 p0_0 p0_1 p0_2 p0_3 p0_4 p0_5 b208 b224 .unset .unset .unset .unset .unset) [(.int 1), (.int 2)])) (fun _ kz => XS.iconst X238.here hx rfl (hb hby at_95) kz) ?_
   refine own_s (g' := (mkF m 99 (own_L0_2 p0_0 p0_1 p0_2 p0_3 p0_4 p0_5 b208 b224 .unset .unset .unset .unset .unset) [])) (fun _ kz => XS.icmpNo X238.here hx rfl (hb hby at_96) rfl (tlt ((by decide) : (1 : Int32) < (2 : Int32))).2.2.2 kz) ?_
   refine own_s (g' := (mkF m 101 (own_L0_2 p0_0 p0_1 p0_2 p0_3 p0_4 p0_5 b208 b224 .unset .unset .unset .unset .unset) [(.ref b224)])) (fun _ kz => XS.aload X238.here hx rfl (hb hby at_99) rfl rfl kz) ?_
   refine own_s (g' := (mkF m 103 (own_L0_2 p0_0 p0_1 p0_2 p0_3 p0_4 p0_5 b208 b224 .unset .unset .unset .unset .unset) [(.ref b208), (.ref b224)])) (fun _ kz => XS.aload X238.here hx rfl (hb hby at_101) rfl rfl kz) ?_
   refine own_s (g' := (mkF m 104 (own_L0_2 p0_0 p0_1 p0_2 p0_3 p0_4 p0_5 b208 b224 .unset .unset .unset .unset .unset) [(.int 1), (.ref b208), (.ref b224)])) (fun _ kz => XS.iconst X238.here hx rfl (hb hby at_103) kz) ?_
   have ne240 : b208 ≠ b224 := Nat.ne_of_lt (Nat.lt_of_lt_of_le f223.lt (Nat.le_of_eq ga224.symm))
   have f241 := (f225.other W238 ne240)
   obtain ⟨cl242, Ar242, -, S242, -, H242, -⟩ := id f241
   have in242 := inb_of S242 (j := (1 : Int32)) ⟨by decide, by decide⟩
   refine own_s (g' := (mkF m 105 (own_L0_2 p0_0 p0_1 p0_2 p0_3 p0_4 p0_5 b208 b224 .unset .unset .unset .unset .unset) [(.int u1), (.ref b224)])) (X238.iaload hx (j := (1 : Int32)) (v := (.int u1)) (by rw [e238]; exact Ar242.1) (State.isArrayOf_alike hZ.alike Ar242.2.1) Ar242.2.2 in242 (Has.at H242 in242 rfl) (g := (mkF m 104 (own_L0_2 p0_0 p0_1 p0_2 p0_3 p0_4 p0_5 b208 b224 .unset .unset .unset .unset .unset) [(.int 1), (.ref b208), (.ref b224)])) rfl rfl (hb hby at_104)) ?_
   refine own_s (g' := (mkF m 106 (own_L0_2 p0_0 p0_1 p0_2 p0_3 p0_4 p0_5 b208 b224 .unset .unset .unset .unset .unset) [(.int u1), (.ref b224), (.int u1), (.ref b224)])) (fun _ kz => XT.dup2 X238.here hx rfl (hb hby at_105) rfl rfl rfl kz) ?_
   obtain ⟨cl243, Ar243, -, S243, -, H243, -⟩ := id f239
   have in243 := inb_of S243 (j := u1) i1
   refine own_s (g' := (mkF m 107 (own_L0_2 p0_0 p0_1 p0_2 p0_3 p0_4 p0_5 b208 b224 .unset .unset .unset .unset .unset) [(.int (cs1.getD u1.toNatClampNeg 0)), (.int u1), (.ref b224)])) (X238.iaload hx (j := u1) (v := (.int (cs1.getD u1.toNatClampNeg 0))) (by rw [e238]; exact Ar243.1) (State.isArrayOf_alike hZ.alike Ar243.2.1) Ar243.2.2 in243 (Has.at H243 in243 (own_mapD cs1 _)) (g := (mkF m 106 (own_L0_2 p0_0 p0_1 p0_2 p0_3 p0_4 p0_5 b208 b224 .unset .unset .unset .unset .unset) [(.int u1), (.ref b224), (.int u1), (.ref b224)])) rfl rfl (hb hby at_106)) ?_
   refine own_s (g' := (mkF m 108 (own_L0_2 p0_0 p0_1 p0_2 p0_3 p0_4 p0_5 b208 b224 .unset .unset .unset .unset .unset) [(.int 1), (.int (cs1.getD u1.toNatClampNeg 0)), (.int u1), (.ref b224)])) (fun _ kz => XS.iconst X238.here hx rfl (hb hby at_107) kz) ?_
   refine own_s (g' := (mkF m 109 (own_L0_2 p0_0 p0_1 p0_2 p0_3 p0_4 p0_5 b208 b224 .unset .unset .unset .unset .unset) [(.int ((cs1.getD u1.toNatClampNeg 0) + (1 : Int32))), (.int u1), (.ref b224)])) (fun _ kz => XS.iadd X238.here hx rfl (hb hby at_108) rfl kz) ?_
   obtain ⟨cl244, Ar244, q244, S244, M244, H244, G244⟩ := id f239
   obtain ⟨T244, h244, X244, e244, W244, st244⟩ := stI X238 hx hZ e238 Ar244 (j := u1) (inb_of S244 i1) (g := (mkF m 109 (own_L0_2 p0_0 p0_1 p0_2 p0_3 p0_4 p0_5 b208 b224 .unset .unset .unset .unset .unset) [(.int ((cs1.getD u1.toNatClampNeg 0) + (1 : Int32))), (.int u1), (.ref b224)])) rfl rfl (hb hby at_109)
   have f245 : Arv Z h244 b224 k224 .int (2 : Int32) ((cs1.set u1.toNatClampNeg ((cs1.getD u1.toNatClampNeg 0) + (1 : Int32))).map Value.int) (.int 0) := by rw [List.map_set]; exact Arv.set Ar244 q244 S244 M244 H244 G244 rfl W244 _ rfl (by rw [List.length_map]; exact (own_ixN i1 hl1))
   have K244 := K238.wr W244 (Or.inr sz_b224)
   have N244 := Fr.snoc X244 N238 g_b224
   refine own_s (g' := (mkF m 110 (own_L0_2 p0_0 p0_1 p0_2 p0_3 p0_4 p0_5 b208 b224 .unset .unset .unset .unset .unset) [])) st244 ?_
   obtain ⟨cs2, hcs2⟩ : ∃ z, z = (cs1.set u1.toNatClampNeg ((cs1.getD u1.toNatClampNeg 0) + (1 : Int32))) := ⟨_, rfl⟩
   rw [← hcs2] at f245
   have hl2 : cs2.length = (2 : Int32).toNatClampNeg := by rw [hcs2, List.length_set]; exact hl1
   refine own_s (g' := (mkF m 112 (own_L0_2 p0_0 p0_1 p0_2 p0_3 p0_4 p0_5 b208 b224 .unset .unset .unset .unset .unset) [(.int 2)])) (fun _ kz => XS.iload X244.here hx rfl (hb hby at_110) rfl kz) ?_
   refine own_s (g' := (mkF m 113 (own_L0_2 p0_0 p0_1 p0_2 p0_3 p0_4 p0_5 b208 b224 .unset .unset .unset .unset .unset) [(.int 2), (.int 2)])) (fun _ kz => XS.iconst X244.here hx rfl (hb hby at_112) kz) ?_
   refine own_s (g' := (mkF m 127 (own_L0_2 p0_0 p0_1 p0_2 p0_3 p0_4 p0_5 b208 b224 .unset .unset .unset .unset .unset) [])) (fun _ kz => XS.icmpYes X244.here hx rfl (pc0 := 113) (pc' := 127) rfl (hb hby at_113) rfl (flt ((by decide) : ¬ (2 : Int32) < (2 : Int32))).2.2.2 (by decide) (by decide) kz) ?_
   refine own_s (g' := (mkF m 129 (own_L0_2 p0_0 p0_1 p0_2 p0_3 p0_4 p0_5 b208 b224 .unset .unset .unset .unset .unset) [(.int 2)])) (fun _ kz => XS.iload X244.here hx rfl (hb hby at_127) rfl kz) ?_
   refine own_s (g' := (mkF m 130 (own_L0_2 p0_0 p0_1 p0_2 p0_3 p0_4 p0_5 b208 b224 .unset .unset .unset .unset .unset) [(.int 3), (.int 2)])) (fun _ kz => XS.iconst X244.here hx rfl (hb hby at_129) kz) ?_
   refine own_s (g' := (mkF m 144 (own_L0_2 p0_0 p0_1 p0_2 p0_3 p0_4 p0_5 b208 b224 .unset .unset .unset .unset .unset) [])) (fun _ kz => XS.icmpYes X244.here hx rfl (pc0 := 130) (pc' := 144) rfl (hb hby at_130) rfl (flt ((by decide) : ¬ (3 : Int32) < (2 : Int32))).2.2.2 (by decide) (by decide) kz) ?_
   refine own_s (g' := (mkF m 146 (own_L0_2 p0_0 p0_1 p0_2 p0_3 p0_4 p0_5 b208 b224 .unset .unset .unset .unset .unset) [(.int 2)])) (fun _ kz => XS.iload X244.here hx rfl (hb hby at_144) rfl kz) ?_
   refine own_s (g' := (mkF m 147 (own_L0_2 p0_0 p0_1 p0_2 p0_3 p0_4 p0_5 b208 b224 .unset .unset .unset .unset .unset) [(.int 4), (.int 2)])) (fun _ kz => XS.iconst X244.here hx rfl (hb hby at_146) kz) ?_
   refine own_s (g' := (mkF m 161 (own_L0_2 p0_0 p0_1 p0_2 p0_3 p0_4 p0_5 b208 b224 .unset .unset .unset .unset .unset) [])) (fun _ kz => XS.icmpYes X244.here hx rfl (pc0 := 147) (pc' := 161) rfl (hb hby at_147) rfl (flt ((by decide) : ¬ (4 : Int32) < (2 : Int32))).2.2.2 (by decide) (by decide) kz) ?_
   have hgd := own_gd2 u0 u1 cs0 cs1 cs2 hcs0 hcs1 hcs2 b0 b1
   have f246 := (f241.other W244 ne240)
   exact own_mid l Z a0 hw (.val (.int p0_0)) (.val (.int p0_1)) (.val (.int p0_2)) (.val (.int p0_3)) (.val (.int p0_4)) p0_5 (2 : Int32) b208 b224 cs2 (2 : Int) k208 u0 u1 (-1 : Int32) (-1 : Int32) (-1 : Int32) k224 (X244.more (by decide) (by decide)) hx hZ hby hml hown hlk hret h244 n0 e244 (Nat.le_trans Z0 K244.1) N244 f246 f245 g_b208 (Ne.symm ne240) (by decide) (by decide) (by decide) (by decide) hgd
  ·skip
   have hk := hnn.trans hn
   subst hk
   rw [show (r1 p0_0 (0 : Int32) (3 : Int32)) = ((p0_0 &&& (2147483647 : Int32)) % (3 : Int32)) from if_pos (by decide)] at f225
   obtain ⟨u0, hu0⟩ : ∃ z, z = ((p0_0 &&& (2147483647 : Int32)) % (3 : Int32)) := ⟨_, rfl⟩
   rw [← hu0] at f225
   have b0 := own_bm p0_0 (3 : Int32) 3 (by decide) (by decide)
   rw [← hu0] at b0
   have i0 := own_ub (n := (3 : Int32)) (by decide) b0
   rw [show (r1 p0_1 (1 : Int32) (3 : Int32)) = ((p0_1 &&& (2147483647 : Int32)) % (3 : Int32)) from if_pos (by decide)] at f225
   obtain ⟨u1, hu1⟩ : ∃ z, z = ((p0_1 &&& (2147483647 : Int32)) % (3 : Int32)) := ⟨_, rfl⟩
   rw [← hu1] at f225
   have b1 := own_bm p0_1 (3 : Int32) 3 (by decide) (by decide)
   rw [← hu1] at b1
   have i1 := own_ub (n := (3 : Int32)) (by decide) b1
   rw [show (r1 p0_2 (2 : Int32) (3 : Int32)) = ((p0_2 &&& (2147483647 : Int32)) % (3 : Int32)) from if_pos (by decide)] at f225
   obtain ⟨u2, hu2⟩ : ∃ z, z = ((p0_2 &&& (2147483647 : Int32)) % (3 : Int32)) := ⟨_, rfl⟩
   rw [← hu2] at f225
   have b2 := own_bm p0_2 (3 : Int32) 3 (by decide) (by decide)
   rw [← hu2] at b2
   have i2 := own_ub (n := (3 : Int32)) (by decide) b2
   rw [show (r1 p0_3 (3 : Int32) (3 : Int32)) = (-1 : Int32) from if_neg (by decide)] at f225
   rw [show (r1 p0_4 (4 : Int32) (3 : Int32)) = (-1 : Int32) from if_neg (by decide)] at f225
   show own_G p e below s _ _ _ T224 (mkF m _ (own_L0_3 p0_0 p0_1 p0_2 p0_3 p0_4 p0_5 b208 b224 .unset .unset .unset .unset .unset) _)
   obtain ⟨cs0, hcs0⟩ : ∃ z, z = ([0, 0, 0] : List Int32) := ⟨_, rfl⟩
   have f247 : Arv Z h224 b224 k224 .int (3 : Int32) (cs0.map Value.int) (.int 0) := by rw [hcs0]; exact V224.pad (pad_rep [] (.int 0) 3)
   have hl0 : cs0.length = (3 : Int32).toNatClampNeg := by rw [hcs0]; decide
   refine own_s (g' := (mkF m 79 (own_L0_3 p0_0 p0_1 p0_2 p0_3 p0_4 p0_5 b208 b224 .unset .unset .unset .unset .unset) [(.int 3)])) (fun _ kz => XS.iload X224.here hx rfl (hb hby at_77) rfl kz) ?_
   refine own_s (g' := (mkF m 82 (own_L0_3 p0_0 p0_1 p0_2 p0_3 p0_4 p0_5 b208 b224 .unset .unset .unset .unset .unset) [])) (fun _ kz => XS.ifNo X224.here hx rfl (hb hby at_79) rfl ((if0 _ _).trans (tlt ((by decide) : (0 : Int32) < (3 : Int32))).2.2.2) kz) ?_
   refine own_s (g' := (mkF m 84 (own_L0_3 p0_0 p0_1 p0_2 p0_3 p0_4 p0_5 b208 b224 .unset .unset .unset .unset .unset) [(.ref b224)])) (fun _ kz => XS.aload X224.here hx rfl (hb hby at_82) rfl rfl kz) ?_
   refine own_s (g' := (mkF m 86 (own_L0_3 p0_0 p0_1 p0_2 p0_3 p0_4 p0_5 b208 b224 .unset .unset .unset .unset .unset) [(.ref b208), (.ref b224)])) (fun _ kz => XS.aload X224.here hx rfl (hb hby at_84) rfl rfl kz) ?_
   refine own_s (g' := (mkF m 87 (own_L0_3 p0_0 p0_1 p0_2 p0_3 p0_4 p0_5 b208 b224 .unset .unset .unset .unset .unset) [(.int 0), (.ref b208), (.ref b224)])) (fun _ kz => XS.iconst X224.here hx rfl (hb hby at_86) kz) ?_
   obtain ⟨cl248, Ar248, -, S248, -, H248, -⟩ := id f225
   have in248 := inb_of S248 (j := (0 : Int32)) ⟨by decide, by decide⟩
   refine own_s (g' := (mkF m 88 (own_L0_3 p0_0 p0_1 p0_2 p0_3 p0_4 p0_5 b208 b224 .unset .unset .unset .unset .unset) [(.int u0), (.ref b224)])) (X224.iaload hx (j := (0 : Int32)) (v := (.int u0)) (by rw [e224]; exact Ar248.1) (State.isArrayOf_alike hZ.alike Ar248.2.1) Ar248.2.2 in248 (Has.at H248 in248 rfl) (g := (mkF m 87 (own_L0_3 p0_0 p0_1 p0_2 p0_3 p0_4 p0_5 b208 b224 .unset .unset .unset .unset .unset) [(.int 0), (.ref b208), (.ref b224)])) rfl rfl (hb hby at_87)) ?_
   refine own_s (g' := (mkF m 89 (own_L0_3 p0_0 p0_1 p0_2 p0_3 p0_4 p0_5 b208 b224 .unset .unset .unset .unset .unset) [(.int u0), (.ref b224), (.int u0), (.ref b224)])) (fun _ kz => XT.dup2 X224.here hx rfl (hb hby at_88) rfl rfl rfl kz) ?_
   obtain ⟨cl249, Ar249, -, S249, -, H249, -⟩ := id f247
   have in249 := inb_of S249 (j := u0) i0
   refine own_s (g' := (mkF m 90 (own_L0_3 p0_0 p0_1 p0_2 p0_3 p0_4 p0_5 b208 b224 .unset .unset .unset .unset .unset) [(.int (cs0.getD u0.toNatClampNeg 0)), (.int u0), (.ref b224)])) (X224.iaload hx (j := u0) (v := (.int (cs0.getD u0.toNatClampNeg 0))) (by rw [e224]; exact Ar249.1) (State.isArrayOf_alike hZ.alike Ar249.2.1) Ar249.2.2 in249 (Has.at H249 in249 (own_mapD cs0 _)) (g := (mkF m 89 (own_L0_3 p0_0 p0_1 p0_2 p0_3 p0_4 p0_5 b208 b224 .unset .unset .unset .unset .unset) [(.int u0), (.ref b224), (.int u0), (.ref b224)])) rfl rfl (hb hby at_89)) ?_
   refine own_s (g' := (mkF m 91 (own_L0_3 p0_0 p0_1 p0_2 p0_3 p0_4 p0_5 b208 b224 .unset .unset .unset .unset .unset) [(.int 1), (.int (cs0.getD u0.toNatClampNeg 0)), (.int u0), (.ref b224)])) (fun _ kz => XS.iconst X224.here hx rfl (hb hby at_90) kz) ?_
   refine own_s (g' := (mkF m 92 (own_L0_3 p0_0 p0_1 p0_2 p0_3 p0_4 p0_5 b208 b224 .unset .unset .unset .unset .unset) [(.int ((cs0.getD u0.toNatClampNeg 0) + (1 : Int32))), (.int u0), (.ref b224)])) (fun _ kz => XS.iadd X224.here hx rfl (hb hby at_91) rfl kz) ?_
   obtain ⟨cl250, Ar250, q250, S250, M250, H250, G250⟩ := id f247
   obtain ⟨T250, h250, X250, e250, W250, st250⟩ := stI X224 hx hZ e224 Ar250 (j := u0) (inb_of S250 i0) (g := (mkF m 92 (own_L0_3 p0_0 p0_1 p0_2 p0_3 p0_4 p0_5 b208 b224 .unset .unset .unset .unset .unset) [(.int ((cs0.getD u0.toNatClampNeg 0) + (1 : Int32))), (.int u0), (.ref b224)])) rfl rfl (hb hby at_92)
   have f251 : Arv Z h250 b224 k224 .int (3 : Int32) ((cs0.set u0.toNatClampNeg ((cs0.getD u0.toNatClampNeg 0) + (1 : Int32))).map Value.int) (.int 0) := by rw [List.map_set]; exact Arv.set Ar250 q250 S250 M250 H250 G250 rfl W250 _ rfl (by rw [List.length_map]; exact (own_ixN i0 hl0))
   have K250 := K224.wr W250 (Or.inr sz_b224)
   have N250 := Fr.snoc X250 N222 g_b224
   refine own_s (g' := (mkF m 93 (own_L0_3 p0_0 p0_1 p0_2 p0_3 p0_4 p0_5 b208 b224 .unset .unset .unset .unset .unset) [])) st250 ?_
   obtain ⟨cs1, hcs1⟩ : ∃ z, z = (cs0.set u0.toNatClampNeg ((cs0.getD u0.toNatClampNeg 0) + (1 : Int32))) := ⟨_, rfl⟩
   rw [← hcs1] at f251
   have hl1 : cs1.length = (3 : Int32).toNatClampNeg := by rw [hcs1, List.length_set]; exact hl0
   refine own_s (g' := (mkF m 95 (own_L0_3 p0_0 p0_1 p0_2 p0_3 p0_4 p0_5 b208 b224 .unset .unset .unset .unset .unset) [(.int 3)])) (fun _ kz => XS.iload X250.here hx rfl (hb hby at_93) rfl kz) ?_
   refine own_s (g' := (mkF m 96 (own_L0_3 p0_0 p0_1 p0_2 p0_3 p0_4 p0_5 b208 b224 .unset .unset .unset .unset .unset) [(.int 1), (.int 3)])) (fun _ kz => XS.iconst X250.here hx rfl (hb hby at_95) kz) ?_
   refine own_s (g' := (mkF m 99 (own_L0_3 p0_0 p0_1 p0_2 p0_3 p0_4 p0_5 b208 b224 .unset .unset .unset .unset .unset) [])) (fun _ kz => XS.icmpNo X250.here hx rfl (hb hby at_96) rfl (tlt ((by decide) : (1 : Int32) < (3 : Int32))).2.2.2 kz) ?_
   refine own_s (g' := (mkF m 101 (own_L0_3 p0_0 p0_1 p0_2 p0_3 p0_4 p0_5 b208 b224 .unset .unset .unset .unset .unset) [(.ref b224)])) (fun _ kz => XS.aload X250.here hx rfl (hb hby at_99) rfl rfl kz) ?_
   refine own_s (g' := (mkF m 103 (own_L0_3 p0_0 p0_1 p0_2 p0_3 p0_4 p0_5 b208 b224 .unset .unset .unset .unset .unset) [(.ref b208), (.ref b224)])) (fun _ kz => XS.aload X250.here hx rfl (hb hby at_101) rfl rfl kz) ?_
   refine own_s (g' := (mkF m 104 (own_L0_3 p0_0 p0_1 p0_2 p0_3 p0_4 p0_5 b208 b224 .unset .unset .unset .unset .unset) [(.int 1), (.ref b208), (.ref b224)])) (fun _ kz => XS.iconst X250.here hx rfl (hb hby at_103) kz) ?_
   have ne252 : b208 ≠ b224 := Nat.ne_of_lt (Nat.lt_of_lt_of_le f223.lt (Nat.le_of_eq ga224.symm))
   have f253 := (f225.other W250 ne252)
   obtain ⟨cl254, Ar254, -, S254, -, H254, -⟩ := id f253
   have in254 := inb_of S254 (j := (1 : Int32)) ⟨by decide, by decide⟩
   refine own_s (g' := (mkF m 105 (own_L0_3 p0_0 p0_1 p0_2 p0_3 p0_4 p0_5 b208 b224 .unset .unset .unset .unset .unset) [(.int u1), (.ref b224)])) (X250.iaload hx (j := (1 : Int32)) (v := (.int u1)) (by rw [e250]; exact Ar254.1) (State.isArrayOf_alike hZ.alike Ar254.2.1) Ar254.2.2 in254 (Has.at H254 in254 rfl) (g := (mkF m 104 (own_L0_3 p0_0 p0_1 p0_2 p0_3 p0_4 p0_5 b208 b224 .unset .unset .unset .unset .unset) [(.int 1), (.ref b208), (.ref b224)])) rfl rfl (hb hby at_104)) ?_
   refine own_s (g' := (mkF m 106 (own_L0_3 p0_0 p0_1 p0_2 p0_3 p0_4 p0_5 b208 b224 .unset .unset .unset .unset .unset) [(.int u1), (.ref b224), (.int u1), (.ref b224)])) (fun _ kz => XT.dup2 X250.here hx rfl (hb hby at_105) rfl rfl rfl kz) ?_
   obtain ⟨cl255, Ar255, -, S255, -, H255, -⟩ := id f251
   have in255 := inb_of S255 (j := u1) i1
   refine own_s (g' := (mkF m 107 (own_L0_3 p0_0 p0_1 p0_2 p0_3 p0_4 p0_5 b208 b224 .unset .unset .unset .unset .unset) [(.int (cs1.getD u1.toNatClampNeg 0)), (.int u1), (.ref b224)])) (X250.iaload hx (j := u1) (v := (.int (cs1.getD u1.toNatClampNeg 0))) (by rw [e250]; exact Ar255.1) (State.isArrayOf_alike hZ.alike Ar255.2.1) Ar255.2.2 in255 (Has.at H255 in255 (own_mapD cs1 _)) (g := (mkF m 106 (own_L0_3 p0_0 p0_1 p0_2 p0_3 p0_4 p0_5 b208 b224 .unset .unset .unset .unset .unset) [(.int u1), (.ref b224), (.int u1), (.ref b224)])) rfl rfl (hb hby at_106)) ?_
   refine own_s (g' := (mkF m 108 (own_L0_3 p0_0 p0_1 p0_2 p0_3 p0_4 p0_5 b208 b224 .unset .unset .unset .unset .unset) [(.int 1), (.int (cs1.getD u1.toNatClampNeg 0)), (.int u1), (.ref b224)])) (fun _ kz => XS.iconst X250.here hx rfl (hb hby at_107) kz) ?_
   refine own_s (g' := (mkF m 109 (own_L0_3 p0_0 p0_1 p0_2 p0_3 p0_4 p0_5 b208 b224 .unset .unset .unset .unset .unset) [(.int ((cs1.getD u1.toNatClampNeg 0) + (1 : Int32))), (.int u1), (.ref b224)])) (fun _ kz => XS.iadd X250.here hx rfl (hb hby at_108) rfl kz) ?_
   obtain ⟨cl256, Ar256, q256, S256, M256, H256, G256⟩ := id f251
   obtain ⟨T256, h256, X256, e256, W256, st256⟩ := stI X250 hx hZ e250 Ar256 (j := u1) (inb_of S256 i1) (g := (mkF m 109 (own_L0_3 p0_0 p0_1 p0_2 p0_3 p0_4 p0_5 b208 b224 .unset .unset .unset .unset .unset) [(.int ((cs1.getD u1.toNatClampNeg 0) + (1 : Int32))), (.int u1), (.ref b224)])) rfl rfl (hb hby at_109)
   have f257 : Arv Z h256 b224 k224 .int (3 : Int32) ((cs1.set u1.toNatClampNeg ((cs1.getD u1.toNatClampNeg 0) + (1 : Int32))).map Value.int) (.int 0) := by rw [List.map_set]; exact Arv.set Ar256 q256 S256 M256 H256 G256 rfl W256 _ rfl (by rw [List.length_map]; exact (own_ixN i1 hl1))
   have K256 := K250.wr W256 (Or.inr sz_b224)
   have N256 := Fr.snoc X256 N250 g_b224
   refine own_s (g' := (mkF m 110 (own_L0_3 p0_0 p0_1 p0_2 p0_3 p0_4 p0_5 b208 b224 .unset .unset .unset .unset .unset) [])) st256 ?_
   obtain ⟨cs2, hcs2⟩ : ∃ z, z = (cs1.set u1.toNatClampNeg ((cs1.getD u1.toNatClampNeg 0) + (1 : Int32))) := ⟨_, rfl⟩
   rw [← hcs2] at f257
   have hl2 : cs2.length = (3 : Int32).toNatClampNeg := by rw [hcs2, List.length_set]; exact hl1
   refine own_s (g' := (mkF m 112 (own_L0_3 p0_0 p0_1 p0_2 p0_3 p0_4 p0_5 b208 b224 .unset .unset .unset .unset .unset) [(.int 3)])) (fun _ kz => XS.iload X256.here hx rfl (hb hby at_110) rfl kz) ?_
   refine own_s (g' := (mkF m 113 (own_L0_3 p0_0 p0_1 p0_2 p0_3 p0_4 p0_5 b208 b224 .unset .unset .unset .unset .unset) [(.int 2), (.int 3)])) (fun _ kz => XS.iconst X256.here hx rfl (hb hby at_112) kz) ?_
   refine own_s (g' := (mkF m 116 (own_L0_3 p0_0 p0_1 p0_2 p0_3 p0_4 p0_5 b208 b224 .unset .unset .unset .unset .unset) [])) (fun _ kz => XS.icmpNo X256.here hx rfl (hb hby at_113) rfl (tlt ((by decide) : (2 : Int32) < (3 : Int32))).2.2.2 kz) ?_
   refine own_s (g' := (mkF m 118 (own_L0_3 p0_0 p0_1 p0_2 p0_3 p0_4 p0_5 b208 b224 .unset .unset .unset .unset .unset) [(.ref b224)])) (fun _ kz => XS.aload X256.here hx rfl (hb hby at_116) rfl rfl kz) ?_
   refine own_s (g' := (mkF m 120 (own_L0_3 p0_0 p0_1 p0_2 p0_3 p0_4 p0_5 b208 b224 .unset .unset .unset .unset .unset) [(.ref b208), (.ref b224)])) (fun _ kz => XS.aload X256.here hx rfl (hb hby at_118) rfl rfl kz) ?_
   refine own_s (g' := (mkF m 121 (own_L0_3 p0_0 p0_1 p0_2 p0_3 p0_4 p0_5 b208 b224 .unset .unset .unset .unset .unset) [(.int 2), (.ref b208), (.ref b224)])) (fun _ kz => XS.iconst X256.here hx rfl (hb hby at_120) kz) ?_
   have f258 := (f253.other W256 ne252)
   obtain ⟨cl259, Ar259, -, S259, -, H259, -⟩ := id f258
   have in259 := inb_of S259 (j := (2 : Int32)) ⟨by decide, by decide⟩
   refine own_s (g' := (mkF m 122 (own_L0_3 p0_0 p0_1 p0_2 p0_3 p0_4 p0_5 b208 b224 .unset .unset .unset .unset .unset) [(.int u2), (.ref b224)])) (X256.iaload hx (j := (2 : Int32)) (v := (.int u2)) (by rw [e256]; exact Ar259.1) (State.isArrayOf_alike hZ.alike Ar259.2.1) Ar259.2.2 in259 (Has.at H259 in259 rfl) (g := (mkF m 121 (own_L0_3 p0_0 p0_1 p0_2 p0_3 p0_4 p0_5 b208 b224 .unset .unset .unset .unset .unset) [(.int 2), (.ref b208), (.ref b224)])) rfl rfl (hb hby at_121)) ?_
   refine own_s (g' := (mkF m 123 (own_L0_3 p0_0 p0_1 p0_2 p0_3 p0_4 p0_5 b208 b224 .unset .unset .unset .unset .unset) [(.int u2), (.ref b224), (.int u2), (.ref b224)])) (fun _ kz => XT.dup2 X256.here hx rfl (hb hby at_122) rfl rfl rfl kz) ?_
   obtain ⟨cl260, Ar260, -, S260, -, H260, -⟩ := id f257
   have in260 := inb_of S260 (j := u2) i2
   refine own_s (g' := (mkF m 124 (own_L0_3 p0_0 p0_1 p0_2 p0_3 p0_4 p0_5 b208 b224 .unset .unset .unset .unset .unset) [(.int (cs2.getD u2.toNatClampNeg 0)), (.int u2), (.ref b224)])) (X256.iaload hx (j := u2) (v := (.int (cs2.getD u2.toNatClampNeg 0))) (by rw [e256]; exact Ar260.1) (State.isArrayOf_alike hZ.alike Ar260.2.1) Ar260.2.2 in260 (Has.at H260 in260 (own_mapD cs2 _)) (g := (mkF m 123 (own_L0_3 p0_0 p0_1 p0_2 p0_3 p0_4 p0_5 b208 b224 .unset .unset .unset .unset .unset) [(.int u2), (.ref b224), (.int u2), (.ref b224)])) rfl rfl (hb hby at_123)) ?_
   refine own_s (g' := (mkF m 125 (own_L0_3 p0_0 p0_1 p0_2 p0_3 p0_4 p0_5 b208 b224 .unset .unset .unset .unset .unset) [(.int 1), (.int (cs2.getD u2.toNatClampNeg 0)), (.int u2), (.ref b224)])) (fun _ kz => XS.iconst X256.here hx rfl (hb hby at_124) kz) ?_
   refine own_s (g' := (mkF m 126 (own_L0_3 p0_0 p0_1 p0_2 p0_3 p0_4 p0_5 b208 b224 .unset .unset .unset .unset .unset) [(.int ((cs2.getD u2.toNatClampNeg 0) + (1 : Int32))), (.int u2), (.ref b224)])) (fun _ kz => XS.iadd X256.here hx rfl (hb hby at_125) rfl kz) ?_
   obtain ⟨cl261, Ar261, q261, S261, M261, H261, G261⟩ := id f257
   obtain ⟨T261, h261, X261, e261, W261, st261⟩ := stI X256 hx hZ e256 Ar261 (j := u2) (inb_of S261 i2) (g := (mkF m 126 (own_L0_3 p0_0 p0_1 p0_2 p0_3 p0_4 p0_5 b208 b224 .unset .unset .unset .unset .unset) [(.int ((cs2.getD u2.toNatClampNeg 0) + (1 : Int32))), (.int u2), (.ref b224)])) rfl rfl (hb hby at_126)
   have f262 : Arv Z h261 b224 k224 .int (3 : Int32) ((cs2.set u2.toNatClampNeg ((cs2.getD u2.toNatClampNeg 0) + (1 : Int32))).map Value.int) (.int 0) := by rw [List.map_set]; exact Arv.set Ar261 q261 S261 M261 H261 G261 rfl W261 _ rfl (by rw [List.length_map]; exact (own_ixN i2 hl2))
   have K261 := K256.wr W261 (Or.inr sz_b224)
   have N261 := Fr.snoc X261 N256 g_b224
   refine own_s (g' := (mkF m 127 (own_L0_3 p0_0 p0_1 p0_2 p0_3 p0_4 p0_5 b208 b224 .unset .unset .unset .unset .unset) [])) st261 ?_
   obtain ⟨cs3, hcs3⟩ : ∃ z, z = (cs2.set u2.toNatClampNeg ((cs2.getD u2.toNatClampNeg 0) + (1 : Int32))) := ⟨_, rfl⟩
   rw [← hcs3] at f262
   have hl3 : cs3.length = (3 : Int32).toNatClampNeg := by rw [hcs3, List.length_set]; exact hl2
   refine own_s (g' := (mkF m 129 (own_L0_3 p0_0 p0_1 p0_2 p0_3 p0_4 p0_5 b208 b224 .unset .unset .unset .unset .unset) [(.int 3)])) (fun _ kz => XS.iload X261.here hx rfl (hb hby at_127) rfl kz) ?_
   refine own_s (g' := (mkF m 130 (own_L0_3 p0_0 p0_1 p0_2 p0_3 p0_4 p0_5 b208 b224 .unset .unset .unset .unset .unset) [(.int 3), (.int 3)])) (fun _ kz => XS.iconst X261.here hx rfl (hb hby at_129) kz) ?_
   refine own_s (g' := (mkF m 144 (own_L0_3 p0_0 p0_1 p0_2 p0_3 p0_4 p0_5 b208 b224 .unset .unset .unset .unset .unset) [])) (fun _ kz => XS.icmpYes X261.here hx rfl (pc0 := 130) (pc' := 144) rfl (hb hby at_130) rfl (flt ((by decide) : ¬ (3 : Int32) < (3 : Int32))).2.2.2 (by decide) (by decide) kz) ?_
   refine own_s (g' := (mkF m 146 (own_L0_3 p0_0 p0_1 p0_2 p0_3 p0_4 p0_5 b208 b224 .unset .unset .unset .unset .unset) [(.int 3)])) (fun _ kz => XS.iload X261.here hx rfl (hb hby at_144) rfl kz) ?_
   refine own_s (g' := (mkF m 147 (own_L0_3 p0_0 p0_1 p0_2 p0_3 p0_4 p0_5 b208 b224 .unset .unset .unset .unset .unset) [(.int 4), (.int 3)])) (fun _ kz => XS.iconst X261.here hx rfl (hb hby at_146) kz) ?_
   refine own_s (g' := (mkF m 161 (own_L0_3 p0_0 p0_1 p0_2 p0_3 p0_4 p0_5 b208 b224 .unset .unset .unset .unset .unset) [])) (fun _ kz => XS.icmpYes X261.here hx rfl (pc0 := 147) (pc' := 161) rfl (hb hby at_147) rfl (flt ((by decide) : ¬ (4 : Int32) < (3 : Int32))).2.2.2 (by decide) (by decide) kz) ?_
   have hgd := own_gd3 u0 u1 u2 cs0 cs1 cs2 cs3 hcs0 hcs1 hcs2 hcs3 b0 b1 b2
   have f263 := (f258.other W261 ne252)
   exact own_mid l Z a0 hw (.val (.int p0_0)) (.val (.int p0_1)) (.val (.int p0_2)) (.val (.int p0_3)) (.val (.int p0_4)) p0_5 (3 : Int32) b208 b224 cs3 (3 : Int) k208 u0 u1 u2 (-1 : Int32) (-1 : Int32) k224 (X261.more (by decide) (by decide)) hx hZ hby hml hown hlk hret h261 n0 e261 (Nat.le_trans Z0 K261.1) N261 f263 f262 g_b208 (Ne.symm ne252) (by decide) (by decide) (by decide) (by decide) hgd
  ·skip
   have hk := hnn.trans hn
   subst hk
   rw [show (r1 p0_0 (0 : Int32) (4 : Int32)) = ((p0_0 &&& (2147483647 : Int32)) % (4 : Int32)) from if_pos (by decide)] at f225
   obtain ⟨u0, hu0⟩ : ∃ z, z = ((p0_0 &&& (2147483647 : Int32)) % (4 : Int32)) := ⟨_, rfl⟩
   rw [← hu0] at f225
   have b0 := own_bm p0_0 (4 : Int32) 4 (by decide) (by decide)
   rw [← hu0] at b0
   have i0 := own_ub (n := (4 : Int32)) (by decide) b0
   rw [show (r1 p0_1 (1 : Int32) (4 : Int32)) = ((p0_1 &&& (2147483647 : Int32)) % (4 : Int32)) from if_pos (by decide)] at f225
   obtain ⟨u1, hu1⟩ : ∃ z, z = ((p0_1 &&& (2147483647 : Int32)) % (4 : Int32)) := ⟨_, rfl⟩
   rw [← hu1] at f225
   have b1 := own_bm p0_1 (4 : Int32) 4 (by decide) (by decide)
   rw [← hu1] at b1
   have i1 := own_ub (n := (4 : Int32)) (by decide) b1
   rw [show (r1 p0_2 (2 : Int32) (4 : Int32)) = ((p0_2 &&& (2147483647 : Int32)) % (4 : Int32)) from if_pos (by decide)] at f225
   obtain ⟨u2, hu2⟩ : ∃ z, z = ((p0_2 &&& (2147483647 : Int32)) % (4 : Int32)) := ⟨_, rfl⟩
   rw [← hu2] at f225
   have b2 := own_bm p0_2 (4 : Int32) 4 (by decide) (by decide)
   rw [← hu2] at b2
   have i2 := own_ub (n := (4 : Int32)) (by decide) b2
   rw [show (r1 p0_3 (3 : Int32) (4 : Int32)) = ((p0_3 &&& (2147483647 : Int32)) % (4 : Int32)) from if_pos (by decide)] at f225
   obtain ⟨u3, hu3⟩ : ∃ z, z = ((p0_3 &&& (2147483647 : Int32)) % (4 : Int32)) := ⟨_, rfl⟩
   rw [← hu3] at f225
   have b3 := own_bm p0_3 (4 : Int32) 4 (by decide) (by decide)
   rw [← hu3] at b3
   have i3 := own_ub (n := (4 : Int32)) (by decide) b3
   rw [show (r1 p0_4 (4 : Int32) (4 : Int32)) = (-1 : Int32) from if_neg (by decide)] at f225
   show own_G p e below s _ _ _ T224 (mkF m _ (own_L0_4 p0_0 p0_1 p0_2 p0_3 p0_4 p0_5 b208 b224 .unset .unset .unset .unset .unset) _)
   obtain ⟨cs0, hcs0⟩ : ∃ z, z = ([0, 0, 0, 0] : List Int32) := ⟨_, rfl⟩
   have f264 : Arv Z h224 b224 k224 .int (4 : Int32) (cs0.map Value.int) (.int 0) := by rw [hcs0]; exact V224.pad (pad_rep [] (.int 0) 4)
   have hl0 : cs0.length = (4 : Int32).toNatClampNeg := by rw [hcs0]; decide
   refine own_s (g' := (mkF m 79 (own_L0_4 p0_0 p0_1 p0_2 p0_3 p0_4 p0_5 b208 b224 .unset .unset .unset .unset .unset) [(.int 4)])) (fun _ kz => XS.iload X224.here hx rfl (hb hby at_77) rfl kz) ?_
   refine own_s (g' := (mkF m 82 (own_L0_4 p0_0 p0_1 p0_2 p0_3 p0_4 p0_5 b208 b224 .unset .unset .unset .unset .unset) [])) (fun _ kz => XS.ifNo X224.here hx rfl (hb hby at_79) rfl ((if0 _ _).trans (tlt ((by decide) : (0 : Int32) < (4 : Int32))).2.2.2) kz) ?_
   refine own_s (g' := (mkF m 84 (own_L0_4 p0_0 p0_1 p0_2 p0_3 p0_4 p0_5 b208 b224 .unset .unset .unset .unset .unset) [(.ref b224)])) (fun _ kz => XS.aload X224.here hx rfl (hb hby at_82) rfl rfl kz) ?_
   refine own_s (g' := (mkF m 86 (own_L0_4 p0_0 p0_1 p0_2 p0_3 p0_4 p0_5 b208 b224 .unset .unset .unset .unset .unset) [(.ref b208), (.ref b224)])) (fun _ kz => XS.aload X224.here hx rfl (hb hby at_84) rfl rfl kz) ?_
   refine own_s (g' := (mkF m 87 (own_L0_4 p0_0 p0_1 p0_2 p0_3 p0_4 p0_5 b208 b224 .unset .unset .unset .unset .unset) [(.int 0), (.ref b208), (.ref b224)])) (fun _ kz => XS.iconst X224.here hx rfl (hb hby at_86) kz) ?_
   obtain ⟨cl265, Ar265, -, S265, -, H265, -⟩ := id f225
   have in265 := inb_of S265 (j := (0 : Int32)) ⟨by decide, by decide⟩
   refine own_s (g' := (mkF m 88 (own_L0_4 p0_0 p0_1 p0_2 p0_3 p0_4 p0_5 b208 b224 .unset .unset .unset .unset .unset) [(.int u0), (.ref b224)])) (X224.iaload hx (j := (0 : Int32)) (v := (.int u0)) (by rw [e224]; exact Ar265.1) (State.isArrayOf_alike hZ.alike Ar265.2.1) Ar265.2.2 in265 (Has.at H265 in265 rfl) (g := (mkF m 87 (own_L0_4 p0_0 p0_1 p0_2 p0_3 p0_4 p0_5 b208 b224 .unset .unset .unset .unset .unset) [(.int 0), (.ref b208), (.ref b224)])) rfl rfl (hb hby at_87)) ?_
   refine own_s (g' := (mkF m 89 (own_L0_4 p0_0 p0_1 p0_2 p0_3 p0_4 p0_5 b208 b224 .unset .unset .unset .unset .unset) [(.int u0), (.ref b224), (.int u0), (.ref b224)])) (fun _ kz => XT.dup2 X224.here hx rfl (hb hby at_88) rfl rfl rfl kz) ?_
   obtain ⟨cl266, Ar266, -, S266, -, H266, -⟩ := id f264
   have in266 := inb_of S266 (j := u0) i0
   refine own_s (g' := (mkF m 90 (own_L0_4 p0_0 p0_1 p0_2 p0_3 p0_4 p0_5 b208 b224 .unset .unset .unset .unset .unset) [(.int (cs0.getD u0.toNatClampNeg 0)), (.int u0), (.ref b224)])) (X224.iaload hx (j := u0) (v := (.int (cs0.getD u0.toNatClampNeg 0))) (by rw [e224]; exact Ar266.1) (State.isArrayOf_alike hZ.alike Ar266.2.1) Ar266.2.2 in266 (Has.at H266 in266 (own_mapD cs0 _)) (g := (mkF m 89 (own_L0_4 p0_0 p0_1 p0_2 p0_3 p0_4 p0_5 b208 b224 .unset .unset .unset .unset .unset) [(.int u0), (.ref b224), (.int u0), (.ref b224)])) rfl rfl (hb hby at_89)) ?_
   refine own_s (g' := (mkF m 91 (own_L0_4 p0_0 p0_1 p0_2 p0_3 p0_4 p0_5 b208 b224 .unset .unset .unset .unset .unset) [(.int 1), (.int (cs0.getD u0.toNatClampNeg 0)), (.int u0), (.ref b224)])) (fun _ kz => XS.iconst X224.here hx rfl (hb hby at_90) kz) ?_
   refine own_s (g' := (mkF m 92 (own_L0_4 p0_0 p0_1 p0_2 p0_3 p0_4 p0_5 b208 b224 .unset .unset .unset .unset .unset) [(.int ((cs0.getD u0.toNatClampNeg 0) + (1 : Int32))), (.int u0), (.ref b224)])) (fun _ kz => XS.iadd X224.here hx rfl (hb hby at_91) rfl kz) ?_
   obtain ⟨cl267, Ar267, q267, S267, M267, H267, G267⟩ := id f264
   obtain ⟨T267, h267, X267, e267, W267, st267⟩ := stI X224 hx hZ e224 Ar267 (j := u0) (inb_of S267 i0) (g := (mkF m 92 (own_L0_4 p0_0 p0_1 p0_2 p0_3 p0_4 p0_5 b208 b224 .unset .unset .unset .unset .unset) [(.int ((cs0.getD u0.toNatClampNeg 0) + (1 : Int32))), (.int u0), (.ref b224)])) rfl rfl (hb hby at_92)
   have f268 : Arv Z h267 b224 k224 .int (4 : Int32) ((cs0.set u0.toNatClampNeg ((cs0.getD u0.toNatClampNeg 0) + (1 : Int32))).map Value.int) (.int 0) := by rw [List.map_set]; exact Arv.set Ar267 q267 S267 M267 H267 G267 rfl W267 _ rfl (by rw [List.length_map]; exact (own_ixN i0 hl0))
   have K267 := K224.wr W267 (Or.inr sz_b224)
   have N267 := Fr.snoc X267 N222 g_b224
   refine own_s (g' := (mkF m 93 (own_L0_4 p0_0 p0_1 p0_2 p0_3 p0_4 p0_5 b208 b224 .unset .unset .unset .unset .unset) [])) st267 ?_
   obtain ⟨cs1, hcs1⟩ : ∃ z, z = (cs0.set u0.toNatClampNeg ((cs0.getD u0.toNatClampNeg 0) + (1 : Int32))) := ⟨_, rfl⟩
   rw [← hcs1] at f268
   have hl1 : cs1.length = (4 : Int32).toNatClampNeg := by rw [hcs1, List.length_set]; exact hl0
   refine own_s (g' := (mkF m 95 (own_L0_4 p0_0 p0_1 p0_2 p0_3 p0_4 p0_5 b208 b224 .unset .unset .unset .unset .unset) [(.int 4)])) (fun _ kz => XS.iload X267.here hx rfl (hb hby at_93) rfl kz) ?_
   refine own_s (g' := (mkF m 96 (own_L0_4 p0_0 p0_1 p0_2 p0_3 p0_4 p0_5 b208 b224 .unset .unset .unset .unset .unset) [(.int 1), (.int 4)])) (fun _ kz => XS.iconst X267.here hx rfl (hb hby at_95) kz) ?_
   refine own_s (g' := (mkF m 99 (own_L0_4 p0_0 p0_1 p0_2 p0_3 p0_4 p0_5 b208 b224 .unset .unset .unset .unset .unset) [])) (fun _ kz => XS.icmpNo X267.here hx rfl (hb hby at_96) rfl (tlt ((by decide) : (1 : Int32) < (4 : Int32))).2.2.2 kz) ?_
   refine own_s (g' := (mkF m 101 (own_L0_4 p0_0 p0_1 p0_2 p0_3 p0_4 p0_5 b208 b224 .unset .unset .unset .unset .unset) [(.ref b224)])) (fun _ kz => XS.aload X267.here hx rfl (hb hby at_99) rfl rfl kz) ?_
   refine own_s (g' := (mkF m 103 (own_L0_4 p0_0 p0_1 p0_2 p0_3 p0_4 p0_5 b208 b224 .unset .unset .unset .unset .unset) [(.ref b208), (.ref b224)])) (fun _ kz => XS.aload X267.here hx rfl (hb hby at_101) rfl rfl kz) ?_
   refine own_s (g' := (mkF m 104 (own_L0_4 p0_0 p0_1 p0_2 p0_3 p0_4 p0_5 b208 b224 .unset .unset .unset .unset .unset) [(.int 1), (.ref b208), (.ref b224)])) (fun _ kz => XS.iconst X267.here hx rfl (hb hby at_103) kz) ?_
   have ne269 : b208 ≠ b224 := Nat.ne_of_lt (Nat.lt_of_lt_of_le f223.lt (Nat.le_of_eq ga224.symm))
   have f270 := (f225.other W267 ne269)
   obtain ⟨cl271, Ar271, -, S271, -, H271, -⟩ := id f270
   have in271 := inb_of S271 (j := (1 : Int32)) ⟨by decide, by decide⟩
   refine own_s (g' := (mkF m 105 (own_L0_4 p0_0 p0_1 p0_2 p0_3 p0_4 p0_5 b208 b224 .unset .unset .unset .unset .unset) [(.int u1), (.ref b224)])) (X267.iaload hx (j := (1 : Int32)) (v := (.int u1)) (by rw [e267]; exact Ar271.1) (State.isArrayOf_alike hZ.alike Ar271.2.1) Ar271.2.2 in271 (Has.at H271 in271 rfl) (g := (mkF m 104 (own_L0_4 p0_0 p0_1 p0_2 p0_3 p0_4 p0_5 b208 b224 .unset .unset .unset .unset .unset) [(.int 1), (.ref b208), (.ref b224)])) rfl rfl (hb hby at_104)) ?_
   refine own_s (g' := (mkF m 106 (own_L0_4 p0_0 p0_1 p0_2 p0_3 p0_4 p0_5 b208 b224 .unset .unset .unset .unset .unset) [(.int u1), (.ref b224), (.int u1), (.ref b224)])) (fun _ kz => XT.dup2 X267.here hx rfl (hb hby at_105) rfl rfl rfl kz) ?_
   obtain ⟨cl272, Ar272, -, S272, -, H272, -⟩ := id f268
   have in272 := inb_of S272 (j := u1) i1
   refine own_s (g' := (mkF m 107 (own_L0_4 p0_0 p0_1 p0_2 p0_3 p0_4 p0_5 b208 b224 .unset .unset .unset .unset .unset) [(.int (cs1.getD u1.toNatClampNeg 0)), (.int u1), (.ref b224)])) (X267.iaload hx (j := u1) (v := (.int (cs1.getD u1.toNatClampNeg 0))) (by rw [e267]; exact Ar272.1) (State.isArrayOf_alike hZ.alike Ar272.2.1) Ar272.2.2 in272 (Has.at H272 in272 (own_mapD cs1 _)) (g := (mkF m 106 (own_L0_4 p0_0 p0_1 p0_2 p0_3 p0_4 p0_5 b208 b224 .unset .unset .unset .unset .unset) [(.int u1), (.ref b224), (.int u1), (.ref b224)])) rfl rfl (hb hby at_106)) ?_
   refine own_s (g' := (mkF m 108 (own_L0_4 p0_0 p0_1 p0_2 p0_3 p0_4 p0_5 b208 b224 .unset .unset .unset .unset .unset) [(.int 1), (.int (cs1.getD u1.toNatClampNeg 0)), (.int u1), (.ref b224)])) (fun _ kz => XS.iconst X267.here hx rfl (hb hby at_107) kz) ?_
   refine own_s (g' := (mkF m 109 (own_L0_4 p0_0 p0_1 p0_2 p0_3 p0_4 p0_5 b208 b224 .unset .unset .unset .unset .unset) [(.int ((cs1.getD u1.toNatClampNeg 0) + (1 : Int32))), (.int u1), (.ref b224)])) (fun _ kz => XS.iadd X267.here hx rfl (hb hby at_108) rfl kz) ?_
   obtain ⟨cl273, Ar273, q273, S273, M273, H273, G273⟩ := id f268
   obtain ⟨T273, h273, X273, e273, W273, st273⟩ := stI X267 hx hZ e267 Ar273 (j := u1) (inb_of S273 i1) (g := (mkF m 109 (own_L0_4 p0_0 p0_1 p0_2 p0_3 p0_4 p0_5 b208 b224 .unset .unset .unset .unset .unset) [(.int ((cs1.getD u1.toNatClampNeg 0) + (1 : Int32))), (.int u1), (.ref b224)])) rfl rfl (hb hby at_109)
   have f274 : Arv Z h273 b224 k224 .int (4 : Int32) ((cs1.set u1.toNatClampNeg ((cs1.getD u1.toNatClampNeg 0) + (1 : Int32))).map Value.int) (.int 0) := by rw [List.map_set]; exact Arv.set Ar273 q273 S273 M273 H273 G273 rfl W273 _ rfl (by rw [List.length_map]; exact (own_ixN i1 hl1))
   have K273 := K267.wr W273 (Or.inr sz_b224)
   have N273 := Fr.snoc X273 N267 g_b224
   refine own_s (g' := (mkF m 110 (own_L0_4 p0_0 p0_1 p0_2 p0_3 p0_4 p0_5 b208 b224 .unset .unset .unset .unset .unset) [])) st273 ?_
   obtain ⟨cs2, hcs2⟩ : ∃ z, z = (cs1.set u1.toNatClampNeg ((cs1.getD u1.toNatClampNeg 0) + (1 : Int32))) := ⟨_, rfl⟩
   rw [← hcs2] at f274
   have hl2 : cs2.length = (4 : Int32).toNatClampNeg := by rw [hcs2, List.length_set]; exact hl1
   refine own_s (g' := (mkF m 112 (own_L0_4 p0_0 p0_1 p0_2 p0_3 p0_4 p0_5 b208 b224 .unset .unset .unset .unset .unset) [(.int 4)])) (fun _ kz => XS.iload X273.here hx rfl (hb hby at_110) rfl kz) ?_
   refine own_s (g' := (mkF m 113 (own_L0_4 p0_0 p0_1 p0_2 p0_3 p0_4 p0_5 b208 b224 .unset .unset .unset .unset .unset) [(.int 2), (.int 4)])) (fun _ kz => XS.iconst X273.here hx rfl (hb hby at_112) kz) ?_
   refine own_s (g' := (mkF m 116 (own_L0_4 p0_0 p0_1 p0_2 p0_3 p0_4 p0_5 b208 b224 .unset .unset .unset .unset .unset) [])) (fun _ kz => XS.icmpNo X273.here hx rfl (hb hby at_113) rfl (tlt ((by decide) : (2 : Int32) < (4 : Int32))).2.2.2 kz) ?_
   refine own_s (g' := (mkF m 118 (own_L0_4 p0_0 p0_1 p0_2 p0_3 p0_4 p0_5 b208 b224 .unset .unset .unset .unset .unset) [(.ref b224)])) (fun _ kz => XS.aload X273.here hx rfl (hb hby at_116) rfl rfl kz) ?_
   refine own_s (g' := (mkF m 120 (own_L0_4 p0_0 p0_1 p0_2 p0_3 p0_4 p0_5 b208 b224 .unset .unset .unset .unset .unset) [(.ref b208), (.ref b224)])) (fun _ kz => XS.aload X273.here hx rfl (hb hby at_118) rfl rfl kz) ?_
   refine own_s (g' := (mkF m 121 (own_L0_4 p0_0 p0_1 p0_2 p0_3 p0_4 p0_5 b208 b224 .unset .unset .unset .unset .unset) [(.int 2), (.ref b208), (.ref b224)])) (fun _ kz => XS.iconst X273.here hx rfl (hb hby at_120) kz) ?_
   have f275 := (f270.other W273 ne269)
   obtain ⟨cl276, Ar276, -, S276, -, H276, -⟩ := id f275
   have in276 := inb_of S276 (j := (2 : Int32)) ⟨by decide, by decide⟩
   refine own_s (g' := (mkF m 122 (own_L0_4 p0_0 p0_1 p0_2 p0_3 p0_4 p0_5 b208 b224 .unset .unset .unset .unset .unset) [(.int u2), (.ref b224)])) (X273.iaload hx (j := (2 : Int32)) (v := (.int u2)) (by rw [e273]; exact Ar276.1) (State.isArrayOf_alike hZ.alike Ar276.2.1) Ar276.2.2 in276 (Has.at H276 in276 rfl) (g := (mkF m 121 (own_L0_4 p0_0 p0_1 p0_2 p0_3 p0_4 p0_5 b208 b224 .unset .unset .unset .unset .unset) [(.int 2), (.ref b208), (.ref b224)])) rfl rfl (hb hby at_121)) ?_
   refine own_s (g' := (mkF m 123 (own_L0_4 p0_0 p0_1 p0_2 p0_3 p0_4 p0_5 b208 b224 .unset .unset .unset .unset .unset) [(.int u2), (.ref b224), (.int u2), (.ref b224)])) (fun _ kz => XT.dup2 X273.here hx rfl (hb hby at_122) rfl rfl rfl kz) ?_
   obtain ⟨cl277, Ar277, -, S277, -, H277, -⟩ := id f274
   have in277 := inb_of S277 (j := u2) i2
   refine own_s (g' := (mkF m 124 (own_L0_4 p0_0 p0_1 p0_2 p0_3 p0_4 p0_5 b208 b224 .unset .unset .unset .unset .unset) [(.int (cs2.getD u2.toNatClampNeg 0)), (.int u2), (.ref b224)])) (X273.iaload hx (j := u2) (v := (.int (cs2.getD u2.toNatClampNeg 0))) (by rw [e273]; exact Ar277.1) (State.isArrayOf_alike hZ.alike Ar277.2.1) Ar277.2.2 in277 (Has.at H277 in277 (own_mapD cs2 _)) (g := (mkF m 123 (own_L0_4 p0_0 p0_1 p0_2 p0_3 p0_4 p0_5 b208 b224 .unset .unset .unset .unset .unset) [(.int u2), (.ref b224), (.int u2), (.ref b224)])) rfl rfl (hb hby at_123)) ?_
   refine own_s (g' := (mkF m 125 (own_L0_4 p0_0 p0_1 p0_2 p0_3 p0_4 p0_5 b208 b224 .unset .unset .unset .unset .unset) [(.int 1), (.int (cs2.getD u2.toNatClampNeg 0)), (.int u2), (.ref b224)])) (fun _ kz => XS.iconst X273.here hx rfl (hb hby at_124) kz) ?_
   refine own_s (g' := (mkF m 126 (own_L0_4 p0_0 p0_1 p0_2 p0_3 p0_4 p0_5 b208 b224 .unset .unset .unset .unset .unset) [(.int ((cs2.getD u2.toNatClampNeg 0) + (1 : Int32))), (.int u2), (.ref b224)])) (fun _ kz => XS.iadd X273.here hx rfl (hb hby at_125) rfl kz) ?_
   obtain ⟨cl278, Ar278, q278, S278, M278, H278, G278⟩ := id f274
   obtain ⟨T278, h278, X278, e278, W278, st278⟩ := stI X273 hx hZ e273 Ar278 (j := u2) (inb_of S278 i2) (g := (mkF m 126 (own_L0_4 p0_0 p0_1 p0_2 p0_3 p0_4 p0_5 b208 b224 .unset .unset .unset .unset .unset) [(.int ((cs2.getD u2.toNatClampNeg 0) + (1 : Int32))), (.int u2), (.ref b224)])) rfl rfl (hb hby at_126)
   have f279 : Arv Z h278 b224 k224 .int (4 : Int32) ((cs2.set u2.toNatClampNeg ((cs2.getD u2.toNatClampNeg 0) + (1 : Int32))).map Value.int) (.int 0) := by rw [List.map_set]; exact Arv.set Ar278 q278 S278 M278 H278 G278 rfl W278 _ rfl (by rw [List.length_map]; exact (own_ixN i2 hl2))
   have K278 := K273.wr W278 (Or.inr sz_b224)
   have N278 := Fr.snoc X278 N273 g_b224
   refine own_s (g' := (mkF m 127 (own_L0_4 p0_0 p0_1 p0_2 p0_3 p0_4 p0_5 b208 b224 .unset .unset .unset .unset .unset) [])) st278 ?_
   obtain ⟨cs3, hcs3⟩ : ∃ z, z = (cs2.set u2.toNatClampNeg ((cs2.getD u2.toNatClampNeg 0) + (1 : Int32))) := ⟨_, rfl⟩
   rw [← hcs3] at f279
   have hl3 : cs3.length = (4 : Int32).toNatClampNeg := by rw [hcs3, List.length_set]; exact hl2
   refine own_s (g' := (mkF m 129 (own_L0_4 p0_0 p0_1 p0_2 p0_3 p0_4 p0_5 b208 b224 .unset .unset .unset .unset .unset) [(.int 4)])) (fun _ kz => XS.iload X278.here hx rfl (hb hby at_127) rfl kz) ?_
   refine own_s (g' := (mkF m 130 (own_L0_4 p0_0 p0_1 p0_2 p0_3 p0_4 p0_5 b208 b224 .unset .unset .unset .unset .unset) [(.int 3), (.int 4)])) (fun _ kz => XS.iconst X278.here hx rfl (hb hby at_129) kz) ?_
   refine own_s (g' := (mkF m 133 (own_L0_4 p0_0 p0_1 p0_2 p0_3 p0_4 p0_5 b208 b224 .unset .unset .unset .unset .unset) [])) (fun _ kz => XS.icmpNo X278.here hx rfl (hb hby at_130) rfl (tlt ((by decide) : (3 : Int32) < (4 : Int32))).2.2.2 kz) ?_
   refine own_s (g' := (mkF m 135 (own_L0_4 p0_0 p0_1 p0_2 p0_3 p0_4 p0_5 b208 b224 .unset .unset .unset .unset .unset) [(.ref b224)])) (fun _ kz => XS.aload X278.here hx rfl (hb hby at_133) rfl rfl kz) ?_
   refine own_s (g' := (mkF m 137 (own_L0_4 p0_0 p0_1 p0_2 p0_3 p0_4 p0_5 b208 b224 .unset .unset .unset .unset .unset) [(.ref b208), (.ref b224)])) (fun _ kz => XS.aload X278.here hx rfl (hb hby at_135) rfl rfl kz) ?_
   refine own_s (g' := (mkF m 138 (own_L0_4 p0_0 p0_1 p0_2 p0_3 p0_4 p0_5 b208 b224 .unset .unset .unset .unset .unset) [(.int 3), (.ref b208), (.ref b224)])) (fun _ kz => XS.iconst X278.here hx rfl (hb hby at_137) kz) ?_
   have f280 := (f275.other W278 ne269)
   obtain ⟨cl281, Ar281, -, S281, -, H281, -⟩ := id f280
   have in281 := inb_of S281 (j := (3 : Int32)) ⟨by decide, by decide⟩
   refine own_s (g' := (mkF m 139 (own_L0_4 p0_0 p0_1 p0_2 p0_3 p0_4 p0_5 b208 b224 .unset .unset .unset .unset .unset) [(.int u3), (.ref b224)])) (X278.iaload hx (j := (3 : Int32)) (v := (.int u3)) (by rw [e278]; exact Ar281.1) (State.isArrayOf_alike hZ.alike Ar281.2.1) Ar281.2.2 in281 (Has.at H281 in281 rfl) (g := (mkF m 138 (own_L0_4 p0_0 p0_1 p0_2 p0_3 p0_4 p0_5 b208 b224 .unset .unset .unset .unset .unset) [(.int 3), (.ref b208), (.ref b224)])) rfl rfl (hb hby at_138)) ?_
   refine own_s (g' := (mkF m 140 (own_L0_4 p0_0 p0_1 p0_2 p0_3 p0_4 p0_5 b208 b224 .unset .unset .unset .unset .unset) [(.int u3), (.ref b224), (.int u3), (.ref b224)])) (fun _ kz => XT.dup2 X278.here hx rfl (hb hby at_139) rfl rfl rfl kz) ?_
   obtain ⟨cl282, Ar282, -, S282, -, H282, -⟩ := id f279
   have in282 := inb_of S282 (j := u3) i3
   refine own_s (g' := (mkF m 141 (own_L0_4 p0_0 p0_1 p0_2 p0_3 p0_4 p0_5 b208 b224 .unset .unset .unset .unset .unset) [(.int (cs3.getD u3.toNatClampNeg 0)), (.int u3), (.ref b224)])) (X278.iaload hx (j := u3) (v := (.int (cs3.getD u3.toNatClampNeg 0))) (by rw [e278]; exact Ar282.1) (State.isArrayOf_alike hZ.alike Ar282.2.1) Ar282.2.2 in282 (Has.at H282 in282 (own_mapD cs3 _)) (g := (mkF m 140 (own_L0_4 p0_0 p0_1 p0_2 p0_3 p0_4 p0_5 b208 b224 .unset .unset .unset .unset .unset) [(.int u3), (.ref b224), (.int u3), (.ref b224)])) rfl rfl (hb hby at_140)) ?_
   refine own_s (g' := (mkF m 142 (own_L0_4 p0_0 p0_1 p0_2 p0_3 p0_4 p0_5 b208 b224 .unset .unset .unset .unset .unset) [(.int 1), (.int (cs3.getD u3.toNatClampNeg 0)), (.int u3), (.ref b224)])) (fun _ kz => XS.iconst X278.here hx rfl (hb hby at_141) kz) ?_
   refine own_s (g' := (mkF m 143 (own_L0_4 p0_0 p0_1 p0_2 p0_3 p0_4 p0_5 b208 b224 .unset .unset .unset .unset .unset) [(.int ((cs3.getD u3.toNatClampNeg 0) + (1 : Int32))), (.int u3), (.ref b224)])) (fun _ kz => XS.iadd X278.here hx rfl (hb hby at_142) rfl kz) ?_
   obtain ⟨cl283, Ar283, q283, S283, M283, H283, G283⟩ := id f279
   obtain ⟨T283, h283, X283, e283, W283, st283⟩ := stI X278 hx hZ e278 Ar283 (j := u3) (inb_of S283 i3) (g := (mkF m 143 (own_L0_4 p0_0 p0_1 p0_2 p0_3 p0_4 p0_5 b208 b224 .unset .unset .unset .unset .unset) [(.int ((cs3.getD u3.toNatClampNeg 0) + (1 : Int32))), (.int u3), (.ref b224)])) rfl rfl (hb hby at_143)
   have f284 : Arv Z h283 b224 k224 .int (4 : Int32) ((cs3.set u3.toNatClampNeg ((cs3.getD u3.toNatClampNeg 0) + (1 : Int32))).map Value.int) (.int 0) := by rw [List.map_set]; exact Arv.set Ar283 q283 S283 M283 H283 G283 rfl W283 _ rfl (by rw [List.length_map]; exact (own_ixN i3 hl3))
   have K283 := K278.wr W283 (Or.inr sz_b224)
   have N283 := Fr.snoc X283 N278 g_b224
   refine own_s (g' := (mkF m 144 (own_L0_4 p0_0 p0_1 p0_2 p0_3 p0_4 p0_5 b208 b224 .unset .unset .unset .unset .unset) [])) st283 ?_
   obtain ⟨cs4, hcs4⟩ : ∃ z, z = (cs3.set u3.toNatClampNeg ((cs3.getD u3.toNatClampNeg 0) + (1 : Int32))) := ⟨_, rfl⟩
   rw [← hcs4] at f284
   have hl4 : cs4.length = (4 : Int32).toNatClampNeg := by rw [hcs4, List.length_set]; exact hl3
   refine own_s (g' := (mkF m 146 (own_L0_4 p0_0 p0_1 p0_2 p0_3 p0_4 p0_5 b208 b224 .unset .unset .unset .unset .unset) [(.int 4)])) (fun _ kz => XS.iload X283.here hx rfl (hb hby at_144) rfl kz) ?_
   refine own_s (g' := (mkF m 147 (own_L0_4 p0_0 p0_1 p0_2 p0_3 p0_4 p0_5 b208 b224 .unset .unset .unset .unset .unset) [(.int 4), (.int 4)])) (fun _ kz => XS.iconst X283.here hx rfl (hb hby at_146) kz) ?_
   refine own_s (g' := (mkF m 161 (own_L0_4 p0_0 p0_1 p0_2 p0_3 p0_4 p0_5 b208 b224 .unset .unset .unset .unset .unset) [])) (fun _ kz => XS.icmpYes X283.here hx rfl (pc0 := 147) (pc' := 161) rfl (hb hby at_147) rfl (flt ((by decide) : ¬ (4 : Int32) < (4 : Int32))).2.2.2 (by decide) (by decide) kz) ?_
   have hgd := own_gd4 u0 u1 u2 u3 cs0 cs1 cs2 cs3 cs4 hcs0 hcs1 hcs2 hcs3 hcs4 b0 b1 b2 b3
   have f285 := (f280.other W283 ne269)
   exact own_mid l Z a0 hw (.val (.int p0_0)) (.val (.int p0_1)) (.val (.int p0_2)) (.val (.int p0_3)) (.val (.int p0_4)) p0_5 (4 : Int32) b208 b224 cs4 (4 : Int) k208 u0 u1 u2 u3 (-1 : Int32) k224 (X283.more (by decide) (by decide)) hx hZ hby hml hown hlk hret h283 n0 e283 (Nat.le_trans Z0 K283.1) N283 f285 f284 g_b208 (Ne.symm ne269) (by decide) (by decide) (by decide) (by decide) hgd
  ·skip
   have hk := hnn.trans hn
   subst hk
   rw [show (r1 p0_0 (0 : Int32) (5 : Int32)) = ((p0_0 &&& (2147483647 : Int32)) % (5 : Int32)) from if_pos (by decide)] at f225
   obtain ⟨u0, hu0⟩ : ∃ z, z = ((p0_0 &&& (2147483647 : Int32)) % (5 : Int32)) := ⟨_, rfl⟩
   rw [← hu0] at f225
   have b0 := own_bm p0_0 (5 : Int32) 5 (by decide) (by decide)
   rw [← hu0] at b0
   have i0 := own_ub (n := (5 : Int32)) (by decide) b0
   rw [show (r1 p0_1 (1 : Int32) (5 : Int32)) = ((p0_1 &&& (2147483647 : Int32)) % (5 : Int32)) from if_pos (by decide)] at f225
   obtain ⟨u1, hu1⟩ : ∃ z, z = ((p0_1 &&& (2147483647 : Int32)) % (5 : Int32)) := ⟨_, rfl⟩
   rw [← hu1] at f225
   have b1 := own_bm p0_1 (5 : Int32) 5 (by decide) (by decide)
   rw [← hu1] at b1
   have i1 := own_ub (n := (5 : Int32)) (by decide) b1
   rw [show (r1 p0_2 (2 : Int32) (5 : Int32)) = ((p0_2 &&& (2147483647 : Int32)) % (5 : Int32)) from if_pos (by decide)] at f225
   obtain ⟨u2, hu2⟩ : ∃ z, z = ((p0_2 &&& (2147483647 : Int32)) % (5 : Int32)) := ⟨_, rfl⟩
   rw [← hu2] at f225
   have b2 := own_bm p0_2 (5 : Int32) 5 (by decide) (by decide)
   rw [← hu2] at b2
   have i2 := own_ub (n := (5 : Int32)) (by decide) b2
   rw [show (r1 p0_3 (3 : Int32) (5 : Int32)) = ((p0_3 &&& (2147483647 : Int32)) % (5 : Int32)) from if_pos (by decide)] at f225
   obtain ⟨u3, hu3⟩ : ∃ z, z = ((p0_3 &&& (2147483647 : Int32)) % (5 : Int32)) := ⟨_, rfl⟩
   rw [← hu3] at f225
   have b3 := own_bm p0_3 (5 : Int32) 5 (by decide) (by decide)
   rw [← hu3] at b3
   have i3 := own_ub (n := (5 : Int32)) (by decide) b3
   rw [show (r1 p0_4 (4 : Int32) (5 : Int32)) = ((p0_4 &&& (2147483647 : Int32)) % (5 : Int32)) from if_pos (by decide)] at f225
   obtain ⟨u4, hu4⟩ : ∃ z, z = ((p0_4 &&& (2147483647 : Int32)) % (5 : Int32)) := ⟨_, rfl⟩
   rw [← hu4] at f225
   have b4 := own_bm p0_4 (5 : Int32) 5 (by decide) (by decide)
   rw [← hu4] at b4
   have i4 := own_ub (n := (5 : Int32)) (by decide) b4
   show own_G p e below s _ _ _ T224 (mkF m _ (own_L0_5 p0_0 p0_1 p0_2 p0_3 p0_4 p0_5 b208 b224 .unset .unset .unset .unset .unset) _)
   obtain ⟨cs0, hcs0⟩ : ∃ z, z = ([0, 0, 0, 0, 0] : List Int32) := ⟨_, rfl⟩
   have f286 : Arv Z h224 b224 k224 .int (5 : Int32) (cs0.map Value.int) (.int 0) := by rw [hcs0]; exact V224.pad (pad_rep [] (.int 0) 5)
   have hl0 : cs0.length = (5 : Int32).toNatClampNeg := by rw [hcs0]; decide
   refine own_s (g' := (mkF m 79 (own_L0_5 p0_0 p0_1 p0_2 p0_3 p0_4 p0_5 b208 b224 .unset .unset .unset .unset .unset) [(.int 5)])) (fun _ kz => XS.iload X224.here hx rfl (hb hby at_77) rfl kz) ?_
   refine own_s (g' := (mkF m 82 (own_L0_5 p0_0 p0_1 p0_2 p0_3 p0_4 p0_5 b208 b224 .unset .unset .unset .unset .unset) [])) (fun _ kz => XS.ifNo X224.here hx rfl (hb hby at_79) rfl ((if0 _ _).trans (tlt ((by decide) : (0 : Int32) < (5 : Int32))).2.2.2) kz) ?_
   refine own_s (g' := (mkF m 84 (own_L0_5 p0_0 p0_1 p0_2 p0_3 p0_4 p0_5 b208 b224 .unset .unset .unset .unset .unset) [(.ref b224)])) (fun _ kz => XS.aload X224.here hx rfl (hb hby at_82) rfl rfl kz) ?_
   refine own_s (g' := (mkF m 86 (own_L0_5 p0_0 p0_1 p0_2 p0_3 p0_4 p0_5 b208 b224 .unset .unset .unset .unset .unset) [(.ref b208), (.ref b224)])) (fun _ kz => XS.aload X224.here hx rfl (hb hby at_84) rfl rfl kz) ?_
   refine own_s (g' := (mkF m 87 (own_L0_5 p0_0 p0_1 p0_2 p0_3 p0_4 p0_5 b208 b224 .unset .unset .unset .unset .unset) [(.int 0), (.ref b208), (.ref b224)])) (fun _ kz => XS.iconst X224.here hx rfl (hb hby at_86) kz) ?_
   obtain ⟨cl287, Ar287, -, S287, -, H287, -⟩ := id f225
   have in287 := inb_of S287 (j := (0 : Int32)) ⟨by decide, by decide⟩
   refine own_s (g' := (mkF m 88 (own_L0_5 p0_0 p0_1 p0_2 p0_3 p0_4 p0_5 b208 b224 .unset .unset .unset .unset .unset) [(.int u0), (.ref b224)])) (X224.iaload hx (j := (0 : Int32)) (v := (.int u0)) (by rw [e224]; exact Ar287.1) (State.isArrayOf_alike hZ.alike Ar287.2.1) Ar287.2.2 in287 (Has.at H287 in287 rfl) (g := (mkF m 87 (own_L0_5 p0_0 p0_1 p0_2 p0_3 p0_4 p0_5 b208 b224 .unset .unset .unset .unset .unset) [(.int 0), (.ref b208), (.ref b224)])) rfl rfl (hb hby at_87)) ?_
   refine own_s (g' := (mkF m 89 (own_L0_5 p0_0 p0_1 p0_2 p0_3 p0_4 p0_5 b208 b224 .unset .unset .unset .unset .unset) [(.int u0), (.ref b224), (.int u0), (.ref b224)])) (fun _ kz => XT.dup2 X224.here hx rfl (hb hby at_88) rfl rfl rfl kz) ?_
   obtain ⟨cl288, Ar288, -, S288, -, H288, -⟩ := id f286
   have in288 := inb_of S288 (j := u0) i0
   refine own_s (g' := (mkF m 90 (own_L0_5 p0_0 p0_1 p0_2 p0_3 p0_4 p0_5 b208 b224 .unset .unset .unset .unset .unset) [(.int (cs0.getD u0.toNatClampNeg 0)), (.int u0), (.ref b224)])) (X224.iaload hx (j := u0) (v := (.int (cs0.getD u0.toNatClampNeg 0))) (by rw [e224]; exact Ar288.1) (State.isArrayOf_alike hZ.alike Ar288.2.1) Ar288.2.2 in288 (Has.at H288 in288 (own_mapD cs0 _)) (g := (mkF m 89 (own_L0_5 p0_0 p0_1 p0_2 p0_3 p0_4 p0_5 b208 b224 .unset .unset .unset .unset .unset) [(.int u0), (.ref b224), (.int u0), (.ref b224)])) rfl rfl (hb hby at_89)) ?_
   refine own_s (g' := (mkF m 91 (own_L0_5 p0_0 p0_1 p0_2 p0_3 p0_4 p0_5 b208 b224 .unset .unset .unset .unset .unset) [(.int 1), (.int (cs0.getD u0.toNatClampNeg 0)), (.int u0), (.ref b224)])) (fun _ kz => XS.iconst X224.here hx rfl (hb hby at_90) kz) ?_
   refine own_s (g' := (mkF m 92 (own_L0_5 p0_0 p0_1 p0_2 p0_3 p0_4 p0_5 b208 b224 .unset .unset .unset .unset .unset) [(.int ((cs0.getD u0.toNatClampNeg 0) + (1 : Int32))), (.int u0), (.ref b224)])) (fun _ kz => XS.iadd X224.here hx rfl (hb hby at_91) rfl kz) ?_
   obtain ⟨cl289, Ar289, q289, S289, M289, H289, G289⟩ := id f286
   obtain ⟨T289, h289, X289, e289, W289, st289⟩ := stI X224 hx hZ e224 Ar289 (j := u0) (inb_of S289 i0) (g := (mkF m 92 (own_L0_5 p0_0 p0_1 p0_2 p0_3 p0_4 p0_5 b208 b224 .unset .unset .unset .unset .unset) [(.int ((cs0.getD u0.toNatClampNeg 0) + (1 : Int32))), (.int u0), (.ref b224)])) rfl rfl (hb hby at_92)
   have f290 : Arv Z h289 b224 k224 .int (5 : Int32) ((cs0.set u0.toNatClampNeg ((cs0.getD u0.toNatClampNeg 0) + (1 : Int32))).map Value.int) (.int 0) := by rw [List.map_set]; exact Arv.set Ar289 q289 S289 M289 H289 G289 rfl W289 _ rfl (by rw [List.length_map]; exact (own_ixN i0 hl0))
   have K289 := K224.wr W289 (Or.inr sz_b224)
   have N289 := Fr.snoc X289 N222 g_b224
   refine own_s (g' := (mkF m 93 (own_L0_5 p0_0 p0_1 p0_2 p0_3 p0_4 p0_5 b208 b224 .unset .unset .unset .unset .unset) [])) st289 ?_
   obtain ⟨cs1, hcs1⟩ : ∃ z, z = (cs0.set u0.toNatClampNeg ((cs0.getD u0.toNatClampNeg 0) + (1 : Int32))) := ⟨_, rfl⟩
   rw [← hcs1] at f290
   have hl1 : cs1.length = (5 : Int32).toNatClampNeg := by rw [hcs1, List.length_set]; exact hl0
   refine own_s (g' := (mkF m 95 (own_L0_5 p0_0 p0_1 p0_2 p0_3 p0_4 p0_5 b208 b224 .unset .unset .unset .unset .unset) [(.int 5)])) (fun _ kz => XS.iload X289.here hx rfl (hb hby at_93) rfl kz) ?_
   refine own_s (g' := (mkF m 96 (own_L0_5 p0_0 p0_1 p0_2 p0_3 p0_4 p0_5 b208 b224 .unset .unset .unset .unset .unset) [(.int 1), (.int 5)])) (fun _ kz => XS.iconst X289.here hx rfl (hb hby at_95) kz) ?_
   refine own_s (g' := (mkF m 99 (own_L0_5 p0_0 p0_1 p0_2 p0_3 p0_4 p0_5 b208 b224 .unset .unset .unset .unset .unset) [])) (fun _ kz => XS.icmpNo X289.here hx rfl (hb hby at_96) rfl (tlt ((by decide) : (1 : Int32) < (5 : Int32))).2.2.2 kz) ?_
   refine own_s (g' := (mkF m 101 (own_L0_5 p0_0 p0_1 p0_2 p0_3 p0_4 p0_5 b208 b224 .unset .unset .unset .unset .unset) [(.ref b224)])) (fun _ kz => XS.aload X289.here hx rfl (hb hby at_99) rfl rfl kz) ?_
   refine own_s (g' := (mkF m 103 (own_L0_5 p0_0 p0_1 p0_2 p0_3 p0_4 p0_5 b208 b224 .unset .unset .unset .unset .unset) [(.ref b208), (.ref b224)])) (fun _ kz => XS.aload X289.here hx rfl (hb hby at_101) rfl rfl kz) ?_
   refine own_s (g' := (mkF m 104 (own_L0_5 p0_0 p0_1 p0_2 p0_3 p0_4 p0_5 b208 b224 .unset .unset .unset .unset .unset) [(.int 1), (.ref b208), (.ref b224)])) (fun _ kz => XS.iconst X289.here hx rfl (hb hby at_103) kz) ?_
   have ne291 : b208 ≠ b224 := Nat.ne_of_lt (Nat.lt_of_lt_of_le f223.lt (Nat.le_of_eq ga224.symm))
   have f292 := (f225.other W289 ne291)
   obtain ⟨cl293, Ar293, -, S293, -, H293, -⟩ := id f292
   have in293 := inb_of S293 (j := (1 : Int32)) ⟨by decide, by decide⟩
   refine own_s (g' := (mkF m 105 (own_L0_5 p0_0 p0_1 p0_2 p0_3 p0_4 p0_5 b208 b224 .unset .unset .unset .unset .unset) [(.int u1), (.ref b224)])) (X289.iaload hx (j := (1 : Int32)) (v := (.int u1)) (by rw [e289]; exact Ar293.1) (State.isArrayOf_alike hZ.alike Ar293.2.1) Ar293.2.2 in293 (Has.at H293 in293 rfl) (g := (mkF m 104 (own_L0_5 p0_0 p0_1 p0_2 p0_3 p0_4 p0_5 b208 b224 .unset .unset .unset .unset .unset) [(.int 1), (.ref b208), (.ref b224)])) rfl rfl (hb hby at_104)) ?_
   refine own_s (g' := (mkF m 106 (own_L0_5 p0_0 p0_1 p0_2 p0_3 p0_4 p0_5 b208 b224 .unset .unset .unset .unset .unset) [(.int u1), (.ref b224), (.int u1), (.ref b224)])) (fun _ kz => XT.dup2 X289.here hx rfl (hb hby at_105) rfl rfl rfl kz) ?_
   obtain ⟨cl294, Ar294, -, S294, -, H294, -⟩ := id f290
   have in294 := inb_of S294 (j := u1) i1
   refine own_s (g' := (mkF m 107 (own_L0_5 p0_0 p0_1 p0_2 p0_3 p0_4 p0_5 b208 b224 .unset .unset .unset .unset .unset) [(.int (cs1.getD u1.toNatClampNeg 0)), (.int u1), (.ref b224)])) (X289.iaload hx (j := u1) (v := (.int (cs1.getD u1.toNatClampNeg 0))) (by rw [e289]; exact Ar294.1) (State.isArrayOf_alike hZ.alike Ar294.2.1) Ar294.2.2 in294 (Has.at H294 in294 (own_mapD cs1 _)) (g := (mkF m 106 (own_L0_5 p0_0 p0_1 p0_2 p0_3 p0_4 p0_5 b208 b224 .unset .unset .unset .unset .unset) [(.int u1), (.ref b224), (.int u1), (.ref b224)])) rfl rfl (hb hby at_106)) ?_
   refine own_s (g' := (mkF m 108 (own_L0_5 p0_0 p0_1 p0_2 p0_3 p0_4 p0_5 b208 b224 .unset .unset .unset .unset .unset) [(.int 1), (.int (cs1.getD u1.toNatClampNeg 0)), (.int u1), (.ref b224)])) (fun _ kz => XS.iconst X289.here hx rfl (hb hby at_107) kz) ?_
   refine own_s (g' := (mkF m 109 (own_L0_5 p0_0 p0_1 p0_2 p0_3 p0_4 p0_5 b208 b224 .unset .unset .unset .unset .unset) [(.int ((cs1.getD u1.toNatClampNeg 0) + (1 : Int32))), (.int u1), (.ref b224)])) (fun _ kz => XS.iadd X289.here hx rfl (hb hby at_108) rfl kz) ?_
   obtain ⟨cl295, Ar295, q295, S295, M295, H295, G295⟩ := id f290
   obtain ⟨T295, h295, X295, e295, W295, st295⟩ := stI X289 hx hZ e289 Ar295 (j := u1) (inb_of S295 i1) (g := (mkF m 109 (own_L0_5 p0_0 p0_1 p0_2 p0_3 p0_4 p0_5 b208 b224 .unset .unset .unset .unset .unset) [(.int ((cs1.getD u1.toNatClampNeg 0) + (1 : Int32))), (.int u1), (.ref b224)])) rfl rfl (hb hby at_109)
   have f296 : Arv Z h295 b224 k224 .int (5 : Int32) ((cs1.set u1.toNatClampNeg ((cs1.getD u1.toNatClampNeg 0) + (1 : Int32))).map Value.int) (.int 0) := by rw [List.map_set]; exact Arv.set Ar295 q295 S295 M295 H295 G295 rfl W295 _ rfl (by rw [List.length_map]; exact (own_ixN i1 hl1))
   have K295 := K289.wr W295 (Or.inr sz_b224)
   have N295 := Fr.snoc X295 N289 g_b224
   refine own_s (g' := (mkF m 110 (own_L0_5 p0_0 p0_1 p0_2 p0_3 p0_4 p0_5 b208 b224 .unset .unset .unset .unset .unset) [])) st295 ?_
   obtain ⟨cs2, hcs2⟩ : ∃ z, z = (cs1.set u1.toNatClampNeg ((cs1.getD u1.toNatClampNeg 0) + (1 : Int32))) := ⟨_, rfl⟩
   rw [← hcs2] at f296
   have hl2 : cs2.length = (5 : Int32).toNatClampNeg := by rw [hcs2, List.length_set]; exact hl1
   refine own_s (g' := (mkF m 112 (own_L0_5 p0_0 p0_1 p0_2 p0_3 p0_4 p0_5 b208 b224 .unset .unset .unset .unset .unset) [(.int 5)])) (fun _ kz => XS.iload X295.here hx rfl (hb hby at_110) rfl kz) ?_
   refine own_s (g' := (mkF m 113 (own_L0_5 p0_0 p0_1 p0_2 p0_3 p0_4 p0_5 b208 b224 .unset .unset .unset .unset .unset) [(.int 2), (.int 5)])) (fun _ kz => XS.iconst X295.here hx rfl (hb hby at_112) kz) ?_
   refine own_s (g' := (mkF m 116 (own_L0_5 p0_0 p0_1 p0_2 p0_3 p0_4 p0_5 b208 b224 .unset .unset .unset .unset .unset) [])) (fun _ kz => XS.icmpNo X295.here hx rfl (hb hby at_113) rfl (tlt ((by decide) : (2 : Int32) < (5 : Int32))).2.2.2 kz) ?_
   refine own_s (g' := (mkF m 118 (own_L0_5 p0_0 p0_1 p0_2 p0_3 p0_4 p0_5 b208 b224 .unset .unset .unset .unset .unset) [(.ref b224)])) (fun _ kz => XS.aload X295.here hx rfl (hb hby at_116) rfl rfl kz) ?_
   refine own_s (g' := (mkF m 120 (own_L0_5 p0_0 p0_1 p0_2 p0_3 p0_4 p0_5 b208 b224 .unset .unset .unset .unset .unset) [(.ref b208), (.ref b224)])) (fun _ kz => XS.aload X295.here hx rfl (hb hby at_118) rfl rfl kz) ?_
   refine own_s (g' := (mkF m 121 (own_L0_5 p0_0 p0_1 p0_2 p0_3 p0_4 p0_5 b208 b224 .unset .unset .unset .unset .unset) [(.int 2), (.ref b208), (.ref b224)])) (fun _ kz => XS.iconst X295.here hx rfl (hb hby at_120) kz) ?_
   have f297 := (f292.other W295 ne291)
   obtain ⟨cl298, Ar298, -, S298, -, H298, -⟩ := id f297
   have in298 := inb_of S298 (j := (2 : Int32)) ⟨by decide, by decide⟩
   refine own_s (g' := (mkF m 122 (own_L0_5 p0_0 p0_1 p0_2 p0_3 p0_4 p0_5 b208 b224 .unset .unset .unset .unset .unset) [(.int u2), (.ref b224)])) (X295.iaload hx (j := (2 : Int32)) (v := (.int u2)) (by rw [e295]; exact Ar298.1) (State.isArrayOf_alike hZ.alike Ar298.2.1) Ar298.2.2 in298 (Has.at H298 in298 rfl) (g := (mkF m 121 (own_L0_5 p0_0 p0_1 p0_2 p0_3 p0_4 p0_5 b208 b224 .unset .unset .unset .unset .unset) [(.int 2), (.ref b208), (.ref b224)])) rfl rfl (hb hby at_121)) ?_
   refine own_s (g' := (mkF m 123 (own_L0_5 p0_0 p0_1 p0_2 p0_3 p0_4 p0_5 b208 b224 .unset .unset .unset .unset .unset) [(.int u2), (.ref b224), (.int u2), (.ref b224)])) (fun _ kz => XT.dup2 X295.here hx rfl (hb hby at_122) rfl rfl rfl kz) ?_
   obtain ⟨cl299, Ar299, -, S299, -, H299, -⟩ := id f296
   have in299 := inb_of S299 (j := u2) i2
   refine own_s (g' := (mkF m 124 (own_L0_5 p0_0 p0_1 p0_2 p0_3 p0_4 p0_5 b208 b224 .unset .unset .unset .unset .unset) [(.int (cs2.getD u2.toNatClampNeg 0)), (.int u2), (.ref b224)])) (X295.iaload hx (j := u2) (v := (.int (cs2.getD u2.toNatClampNeg 0))) (by rw [e295]; exact Ar299.1) (State.isArrayOf_alike hZ.alike Ar299.2.1) Ar299.2.2 in299 (Has.at H299 in299 (own_mapD cs2 _)) (g := (mkF m 123 (own_L0_5 p0_0 p0_1 p0_2 p0_3 p0_4 p0_5 b208 b224 .unset .unset .unset .unset .unset) [(.int u2), (.ref b224), (.int u2), (.ref b224)])) rfl rfl (hb hby at_123)) ?_
   refine own_s (g' := (mkF m 125 (own_L0_5 p0_0 p0_1 p0_2 p0_3 p0_4 p0_5 b208 b224 .unset .unset .unset .unset .unset) [(.int 1), (.int (cs2.getD u2.toNatClampNeg 0)), (.int u2), (.ref b224)])) (fun _ kz => XS.iconst X295.here hx rfl (hb hby at_124) kz) ?_
   refine own_s (g' := (mkF m 126 (own_L0_5 p0_0 p0_1 p0_2 p0_3 p0_4 p0_5 b208 b224 .unset .unset .unset .unset .unset) [(.int ((cs2.getD u2.toNatClampNeg 0) + (1 : Int32))), (.int u2), (.ref b224)])) (fun _ kz => XS.iadd X295.here hx rfl (hb hby at_125) rfl kz) ?_
   obtain ⟨cl300, Ar300, q300, S300, M300, H300, G300⟩ := id f296
   obtain ⟨T300, h300, X300, e300, W300, st300⟩ := stI X295 hx hZ e295 Ar300 (j := u2) (inb_of S300 i2) (g := (mkF m 126 (own_L0_5 p0_0 p0_1 p0_2 p0_3 p0_4 p0_5 b208 b224 .unset .unset .unset .unset .unset) [(.int ((cs2.getD u2.toNatClampNeg 0) + (1 : Int32))), (.int u2), (.ref b224)])) rfl rfl (hb hby at_126)
   have f301 : Arv Z h300 b224 k224 .int (5 : Int32) ((cs2.set u2.toNatClampNeg ((cs2.getD u2.toNatClampNeg 0) + (1 : Int32))).map Value.int) (.int 0) := by rw [List.map_set]; exact Arv.set Ar300 q300 S300 M300 H300 G300 rfl W300 _ rfl (by rw [List.length_map]; exact (own_ixN i2 hl2))
   have K300 := K295.wr W300 (Or.inr sz_b224)
   have N300 := Fr.snoc X300 N295 g_b224
   refine own_s (g' := (mkF m 127 (own_L0_5 p0_0 p0_1 p0_2 p0_3 p0_4 p0_5 b208 b224 .unset .unset .unset .unset .unset) [])) st300 ?_
   obtain ⟨cs3, hcs3⟩ : ∃ z, z = (cs2.set u2.toNatClampNeg ((cs2.getD u2.toNatClampNeg 0) + (1 : Int32))) := ⟨_, rfl⟩
   rw [← hcs3] at f301
   have hl3 : cs3.length = (5 : Int32).toNatClampNeg := by rw [hcs3, List.length_set]; exact hl2
   refine own_s (g' := (mkF m 129 (own_L0_5 p0_0 p0_1 p0_2 p0_3 p0_4 p0_5 b208 b224 .unset .unset .unset .unset .unset) [(.int 5)])) (fun _ kz => XS.iload X300.here hx rfl (hb hby at_127) rfl kz) ?_
   refine own_s (g' := (mkF m 130 (own_L0_5 p0_0 p0_1 p0_2 p0_3 p0_4 p0_5 b208 b224 .unset .unset .unset .unset .unset) [(.int 3), (.int 5)])) (fun _ kz => XS.iconst X300.here hx rfl (hb hby at_129) kz) ?_
   refine own_s (g' := (mkF m 133 (own_L0_5 p0_0 p0_1 p0_2 p0_3 p0_4 p0_5 b208 b224 .unset .unset .unset .unset .unset) [])) (fun _ kz => XS.icmpNo X300.here hx rfl (hb hby at_130) rfl (tlt ((by decide) : (3 : Int32) < (5 : Int32))).2.2.2 kz) ?_
   refine own_s (g' := (mkF m 135 (own_L0_5 p0_0 p0_1 p0_2 p0_3 p0_4 p0_5 b208 b224 .unset .unset .unset .unset .unset) [(.ref b224)])) (fun _ kz => XS.aload X300.here hx rfl (hb hby at_133) rfl rfl kz) ?_
   refine own_s (g' := (mkF m 137 (own_L0_5 p0_0 p0_1 p0_2 p0_3 p0_4 p0_5 b208 b224 .unset .unset .unset .unset .unset) [(.ref b208), (.ref b224)])) (fun _ kz => XS.aload X300.here hx rfl (hb hby at_135) rfl rfl kz) ?_
   refine own_s (g' := (mkF m 138 (own_L0_5 p0_0 p0_1 p0_2 p0_3 p0_4 p0_5 b208 b224 .unset .unset .unset .unset .unset) [(.int 3), (.ref b208), (.ref b224)])) (fun _ kz => XS.iconst X300.here hx rfl (hb hby at_137) kz) ?_
   have f302 := (f297.other W300 ne291)
   obtain ⟨cl303, Ar303, -, S303, -, H303, -⟩ := id f302
   have in303 := inb_of S303 (j := (3 : Int32)) ⟨by decide, by decide⟩
   refine own_s (g' := (mkF m 139 (own_L0_5 p0_0 p0_1 p0_2 p0_3 p0_4 p0_5 b208 b224 .unset .unset .unset .unset .unset) [(.int u3), (.ref b224)])) (X300.iaload hx (j := (3 : Int32)) (v := (.int u3)) (by rw [e300]; exact Ar303.1) (State.isArrayOf_alike hZ.alike Ar303.2.1) Ar303.2.2 in303 (Has.at H303 in303 rfl) (g := (mkF m 138 (own_L0_5 p0_0 p0_1 p0_2 p0_3 p0_4 p0_5 b208 b224 .unset .unset .unset .unset .unset) [(.int 3), (.ref b208), (.ref b224)])) rfl rfl (hb hby at_138)) ?_
   refine own_s (g' := (mkF m 140 (own_L0_5 p0_0 p0_1 p0_2 p0_3 p0_4 p0_5 b208 b224 .unset .unset .unset .unset .unset) [(.int u3), (.ref b224), (.int u3), (.ref b224)])) (fun _ kz => XT.dup2 X300.here hx rfl (hb hby at_139) rfl rfl rfl kz) ?_
   obtain ⟨cl304, Ar304, -, S304, -, H304, -⟩ := id f301
   have in304 := inb_of S304 (j := u3) i3
   refine own_s (g' := (mkF m 141 (own_L0_5 p0_0 p0_1 p0_2 p0_3 p0_4 p0_5 b208 b224 .unset .unset .unset .unset .unset) [(.int (cs3.getD u3.toNatClampNeg 0)), (.int u3), (.ref b224)])) (X300.iaload hx (j := u3) (v := (.int (cs3.getD u3.toNatClampNeg 0))) (by rw [e300]; exact Ar304.1) (State.isArrayOf_alike hZ.alike Ar304.2.1) Ar304.2.2 in304 (Has.at H304 in304 (own_mapD cs3 _)) (g := (mkF m 140 (own_L0_5 p0_0 p0_1 p0_2 p0_3 p0_4 p0_5 b208 b224 .unset .unset .unset .unset .unset) [(.int u3), (.ref b224), (.int u3), (.ref b224)])) rfl rfl (hb hby at_140)) ?_
   refine own_s (g' := (mkF m 142 (own_L0_5 p0_0 p0_1 p0_2 p0_3 p0_4 p0_5 b208 b224 .unset .unset .unset .unset .unset) [(.int 1), (.int (cs3.getD u3.toNatClampNeg 0)), (.int u3), (.ref b224)])) (fun _ kz => XS.iconst X300.here hx rfl (hb hby at_141) kz) ?_
   refine own_s (g' := (mkF m 143 (own_L0_5 p0_0 p0_1 p0_2 p0_3 p0_4 p0_5 b208 b224 .unset .unset .unset .unset .unset) [(.int ((cs3.getD u3.toNatClampNeg 0) + (1 : Int32))), (.int u3), (.ref b224)])) (fun _ kz => XS.iadd X300.here hx rfl (hb hby at_142) rfl kz) ?_
   obtain ⟨cl305, Ar305, q305, S305, M305, H305, G305⟩ := id f301
   obtain ⟨T305, h305, X305, e305, W305, st305⟩ := stI X300 hx hZ e300 Ar305 (j := u3) (inb_of S305 i3) (g := (mkF m 143 (own_L0_5 p0_0 p0_1 p0_2 p0_3 p0_4 p0_5 b208 b224 .unset .unset .unset .unset .unset) [(.int ((cs3.getD u3.toNatClampNeg 0) + (1 : Int32))), (.int u3), (.ref b224)])) rfl rfl (hb hby at_143)
   have f306 : Arv Z h305 b224 k224 .int (5 : Int32) ((cs3.set u3.toNatClampNeg ((cs3.getD u3.toNatClampNeg 0) + (1 : Int32))).map Value.int) (.int 0) := by rw [List.map_set]; exact Arv.set Ar305 q305 S305 M305 H305 G305 rfl W305 _ rfl (by rw [List.length_map]; exact (own_ixN i3 hl3))
   have K305 := K300.wr W305 (Or.inr sz_b224)
   have N305 := Fr.snoc X305 N300 g_b224
   refine own_s (g' := (mkF m 144 (own_L0_5 p0_0 p0_1 p0_2 p0_3 p0_4 p0_5 b208 b224 .unset .unset .unset .unset .unset) [])) st305 ?_
   obtain ⟨cs4, hcs4⟩ : ∃ z, z = (cs3.set u3.toNatClampNeg ((cs3.getD u3.toNatClampNeg 0) + (1 : Int32))) := ⟨_, rfl⟩
   rw [← hcs4] at f306
   have hl4 : cs4.length = (5 : Int32).toNatClampNeg := by rw [hcs4, List.length_set]; exact hl3
   refine own_s (g' := (mkF m 146 (own_L0_5 p0_0 p0_1 p0_2 p0_3 p0_4 p0_5 b208 b224 .unset .unset .unset .unset .unset) [(.int 5)])) (fun _ kz => XS.iload X305.here hx rfl (hb hby at_144) rfl kz) ?_
   refine own_s (g' := (mkF m 147 (own_L0_5 p0_0 p0_1 p0_2 p0_3 p0_4 p0_5 b208 b224 .unset .unset .unset .unset .unset) [(.int 4), (.int 5)])) (fun _ kz => XS.iconst X305.here hx rfl (hb hby at_146) kz) ?_
   refine own_s (g' := (mkF m 150 (own_L0_5 p0_0 p0_1 p0_2 p0_3 p0_4 p0_5 b208 b224 .unset .unset .unset .unset .unset) [])) (fun _ kz => XS.icmpNo X305.here hx rfl (hb hby at_147) rfl (tlt ((by decide) : (4 : Int32) < (5 : Int32))).2.2.2 kz) ?_
   refine own_s (g' := (mkF m 152 (own_L0_5 p0_0 p0_1 p0_2 p0_3 p0_4 p0_5 b208 b224 .unset .unset .unset .unset .unset) [(.ref b224)])) (fun _ kz => XS.aload X305.here hx rfl (hb hby at_150) rfl rfl kz) ?_
   refine own_s (g' := (mkF m 154 (own_L0_5 p0_0 p0_1 p0_2 p0_3 p0_4 p0_5 b208 b224 .unset .unset .unset .unset .unset) [(.ref b208), (.ref b224)])) (fun _ kz => XS.aload X305.here hx rfl (hb hby at_152) rfl rfl kz) ?_
   refine own_s (g' := (mkF m 155 (own_L0_5 p0_0 p0_1 p0_2 p0_3 p0_4 p0_5 b208 b224 .unset .unset .unset .unset .unset) [(.int 4), (.ref b208), (.ref b224)])) (fun _ kz => XS.iconst X305.here hx rfl (hb hby at_154) kz) ?_
   have f307 := (f302.other W305 ne291)
   obtain ⟨cl308, Ar308, -, S308, -, H308, -⟩ := id f307
   have in308 := inb_of S308 (j := (4 : Int32)) ⟨by decide, by decide⟩
   refine own_s (g' := (mkF m 156 (own_L0_5 p0_0 p0_1 p0_2 p0_3 p0_4 p0_5 b208 b224 .unset .unset .unset .unset .unset) [(.int u4), (.ref b224)])) (X305.iaload hx (j := (4 : Int32)) (v := (.int u4)) (by rw [e305]; exact Ar308.1) (State.isArrayOf_alike hZ.alike Ar308.2.1) Ar308.2.2 in308 (Has.at H308 in308 rfl) (g := (mkF m 155 (own_L0_5 p0_0 p0_1 p0_2 p0_3 p0_4 p0_5 b208 b224 .unset .unset .unset .unset .unset) [(.int 4), (.ref b208), (.ref b224)])) rfl rfl (hb hby at_155)) ?_
   refine own_s (g' := (mkF m 157 (own_L0_5 p0_0 p0_1 p0_2 p0_3 p0_4 p0_5 b208 b224 .unset .unset .unset .unset .unset) [(.int u4), (.ref b224), (.int u4), (.ref b224)])) (fun _ kz => XT.dup2 X305.here hx rfl (hb hby at_156) rfl rfl rfl kz) ?_
   obtain ⟨cl309, Ar309, -, S309, -, H309, -⟩ := id f306
   have in309 := inb_of S309 (j := u4) i4
   refine own_s (g' := (mkF m 158 (own_L0_5 p0_0 p0_1 p0_2 p0_3 p0_4 p0_5 b208 b224 .unset .unset .unset .unset .unset) [(.int (cs4.getD u4.toNatClampNeg 0)), (.int u4), (.ref b224)])) (X305.iaload hx (j := u4) (v := (.int (cs4.getD u4.toNatClampNeg 0))) (by rw [e305]; exact Ar309.1) (State.isArrayOf_alike hZ.alike Ar309.2.1) Ar309.2.2 in309 (Has.at H309 in309 (own_mapD cs4 _)) (g := (mkF m 157 (own_L0_5 p0_0 p0_1 p0_2 p0_3 p0_4 p0_5 b208 b224 .unset .unset .unset .unset .unset) [(.int u4), (.ref b224), (.int u4), (.ref b224)])) rfl rfl (hb hby at_157)) ?_
   refine own_s (g' := (mkF m 159 (own_L0_5 p0_0 p0_1 p0_2 p0_3 p0_4 p0_5 b208 b224 .unset .unset .unset .unset .unset) [(.int 1), (.int (cs4.getD u4.toNatClampNeg 0)), (.int u4), (.ref b224)])) (fun _ kz => XS.iconst X305.here hx rfl (hb hby at_158) kz) ?_
   refine own_s (g' := (mkF m 160 (own_L0_5 p0_0 p0_1 p0_2 p0_3 p0_4 p0_5 b208 b224 .unset .unset .unset .unset .unset) [(.int ((cs4.getD u4.toNatClampNeg 0) + (1 : Int32))), (.int u4), (.ref b224)])) (fun _ kz => XS.iadd X305.here hx rfl (hb hby at_159) rfl kz) ?_
   obtain ⟨cl310, Ar310, q310, S310, M310, H310, G310⟩ := id f306
   obtain ⟨T310, h310, X310, e310, W310, st310⟩ := stI X305 hx hZ e305 Ar310 (j := u4) (inb_of S310 i4) (g := (mkF m 160 (own_L0_5 p0_0 p0_1 p0_2 p0_3 p0_4 p0_5 b208 b224 .unset .unset .unset .unset .unset) [(.int ((cs4.getD u4.toNatClampNeg 0) + (1 : Int32))), (.int u4), (.ref b224)])) rfl rfl (hb hby at_160)
   have f311 : Arv Z h310 b224 k224 .int (5 : Int32) ((cs4.set u4.toNatClampNeg ((cs4.getD u4.toNatClampNeg 0) + (1 : Int32))).map Value.int) (.int 0) := by rw [List.map_set]; exact Arv.set Ar310 q310 S310 M310 H310 G310 rfl W310 _ rfl (by rw [List.length_map]; exact (own_ixN i4 hl4))
   have K310 := K305.wr W310 (Or.inr sz_b224)
   have N310 := Fr.snoc X310 N305 g_b224
   refine own_s (g' := (mkF m 161 (own_L0_5 p0_0 p0_1 p0_2 p0_3 p0_4 p0_5 b208 b224 .unset .unset .unset .unset .unset) [])) st310 ?_
   obtain ⟨cs5, hcs5⟩ : ∃ z, z = (cs4.set u4.toNatClampNeg ((cs4.getD u4.toNatClampNeg 0) + (1 : Int32))) := ⟨_, rfl⟩
   rw [← hcs5] at f311
   have hl5 : cs5.length = (5 : Int32).toNatClampNeg := by rw [hcs5, List.length_set]; exact hl4
   have hgd := own_gd5 u0 u1 u2 u3 u4 cs0 cs1 cs2 cs3 cs4 cs5 hcs0 hcs1 hcs2 hcs3 hcs4 hcs5 b0 b1 b2 b3 b4
   have f312 := (f307.other W310 ne291)
   exact own_mid l Z a0 hw (.val (.int p0_0)) (.val (.int p0_1)) (.val (.int p0_2)) (.val (.int p0_3)) (.val (.int p0_4)) p0_5 (5 : Int32) b208 b224 cs5 (5 : Int) k208 u0 u1 u2 u3 u4 k224 (X310.more (by decide) (by decide)) hx hZ hby hml hown hlk hret h310 n0 e310 (Nat.le_trans Z0 K310.1) N310 f312 f311 g_b208 (Ne.symm ne291) (by decide) (by decide) (by decide) (by decide) hgd
set_option maxRecDepth 65536 in
set_option maxHeartbeats 40000000 in
theorem comes_1 {Post : Tables → Env → Array Value → State → Outcome → State → Prop} (hpost : ∀ tb e args s v u, (limb_1_1.after args s (.returned v) u = true ∧ limb_1_2.after args s (.returned v) u = true ∧ True) → FrameEnd s (.returned v) u (Jvm.fieldLocs frame_1_writes args s ++ Jvm.arrayLocs frame_1_arrays args s ++ Jvm.staticLocs frame_1_statics s) 16 128 → Post tb e args s (.returned v) u) :
    ArmFor flags0 classFile x code maxLocals ret World_1 tables_1 room_1 Calls_1 rest_1 Pre_1 Post := by
  intro l hfl _ _ p e ha hc hk s m args below hf hA hF happ hP
  obtain ⟨hcalls, hrest, hpre⟩ := hP
  obtain ⟨-, -, -, hnamed, -, -, -, hat⟩ := (Spec.applies_iff hf).mp happ
  obtain ⟨hg, hn⟩ := and_e (Cond.before_iff.mp (show (Jvm.Cond.and given_1 narrow_1).before args s = true from hpre))
  obtain ⟨gc, hg⟩ := and_e hg
  obtain ⟨gi0, hg⟩ := and_e hg
  obtain ⟨gi1, hg⟩ := and_e hg
  obtain ⟨gi2, hg⟩ := and_e hg
  obtain ⟨gi3, hg⟩ := and_e hg
  obtain ⟨gi4, hg⟩ := and_e hg
  obtain ⟨w0, w1, w2, w3, w4, w5, rfl⟩ : ∃ w0 w1 w2 w3 w4 w5 : Value, args = #[w0, w1, w2, w3, w4, w5] := by
    have hs : args.size = 6 := by simpa [Cond.value, given_1] using gc
    obtain ⟨L⟩ := args
    match L, hs with
    | [w0, w1, w2, w3, w4, w5], _ => exact ⟨w0, w1, w2, w3, w4, w5, rfl⟩
  have hw := fun d (hd : d ∈ tables_1) => atoms_spec (ws := Jvm.Cond.code x code maxLocals ret :: tables_1) hat d (List.mem_cons_of_mem _ hd)
  obtain ⟨i0, ei0⟩ := is_v gi0
  obtain rfl : w0 = (.int i0) := Option.some.inj ei0
  obtain ⟨i1, ei1⟩ := is_v gi1
  obtain rfl : w1 = (.int i1) := Option.some.inj ei1
  obtain ⟨i2, ei2⟩ := is_v gi2
  obtain rfl : w2 = (.int i2) := Option.some.inj ei2
  obtain ⟨i3, ei3⟩ := is_v gi3
  obtain rfl : w3 = (.int i3) := Option.some.inj ei3
  obtain ⟨i4, ei4⟩ := is_v gi4
  obtain rfl : w4 = (.int i4) := Option.some.inj ei4
  obtain ⟨i5, ei5⟩ := is_v hg
  obtain rfl : w5 = (.int i5) := Option.some.inj ei5
  obtain ⟨n, o, h1, h2, h3, _, L, rfl, ⟨rfl, N⟩, hq⟩ := rm0 l s _ hw tables_1 i0 i1 i2 i3 i4 i5 s.heap s.heap.size (Nat.le_refl _)  p e ha hc hk s m _ below hf ((Spec.applies_iff_loose hf).mp happ).1 ⟨rfl, State.Warmed39.refl s, rfl⟩ trivial
  refine ⟨n, _, h1, h2, h3, hpost _ _ _ _ _ _ ⟨Cond.after_iff.mpr rfl, Cond.after_iff.mpr (eq_i res_at (Term.int_eval (1)) rfl), trivial⟩ ⟨hq.1, hq.2.1, (hq.2.2.sift fun y hy => Or.inr (N y hy)).mono (by decide) (by decide)⟩⟩
theorem main_1_1 : Claimed_1_1 := comes_1 fun _ _ _ _ _ _ h hF => ⟨h.1, hF⟩
theorem main_1_2 : Claimed_1_2 := comes_1 fun _ _ _ _ _ _ h hF => ⟨h.2.1, hF⟩
end Jvm.Pilot.@@N@@
namespace Jvm.Pilot.@@N@@
open Jvm Jvm.ClassFile Sem Op Lib Jvm.Free Jvm.Stand Jvm.Pilot.@@N@@.Jvm.D
/-! MADE BY PROGRAM (witnessworld.py) out of the Statement's table words and the real class files: 12 classes; the members and pool entries that the words name. The judged class is class 1, her method 1. -/
namespace start1
open Jvm.ClassFile
def u (s : String) : CpInfo := .utf8 (stringToUtf16 s)
/-- a pool by its gaps: so many unusable entries, then the entry; so many at the end -/
def gap : Nat → List CpInfo → List CpInfo
  | 0, r => r
  | n + 1, r => .unusable :: gap n r
def poolList (es : List (Nat × CpInfo)) (last : Nat) : List CpInfo := es.foldr (fun e r => gap e.1 (e.2 :: r)) (gap last [])
def pool (es : List (Nat × CpInfo)) (last : Nat) : Array CpInfo := ⟨poolList es last⟩
def fileOf (pool : Array CpInfo) (this : Nat) (attrs : Array Attribute := #[]) (ms : Array MethodInfo := #[]) (fl : Nat := 33) (sup : Nat := 0) (ifs : Array Nat := #[]) (fds : Array FieldInfo := #[]) : ClassFile where
  minorVersion := 0
  majorVersion := 65
  constantPool := pool
  accessFlags := fl
  thisClass := this
  superClass := sup
  interfaces := ifs
  fields := fds
  methods := ms
  attributes := attrs
def plain (name : String) (sup : Option ClassId) : Class where
  name := name
  kind := .ordinary
  loader := none
  accessFlags := 33
  super := sup
  interfaces := #[]
  cf := none
  fields := #[]
  methods := #[]
  instanceTypes := #[]
  staticTypes := #[]
  resolved := #[]
  callSites := []
  init := .initialized
  statics := none
  mirror := none

def pool0 : Array CpInfo := pool [(5, u "<init>"), (0, u "()V"), (1, .class_ 10), (1, u "java/lang/Object")] 113

def k0m0 : Method := { name := "<init>", desc := "()V", sig := { parameters := [], returnType := none }, accessFlags := 1, code := none }
/-- java/lang/Object -/
def k0 : Class := { plain "java/lang/Object" none with
  accessFlags := 33
  interfaces := #[]
  cf := some (fileOf pool0 8 #[] #[{ accessFlags := 1, nameIndex := 5, descriptorIndex := 6, attributes := #[] }] 33 0 #[] #[])
  fields := #[]
  methods := #[k0m0]
  instanceTypes := #[]
  staticTypes := #[]
  resolved := Array.replicate 124 none
  statics := none }

def pool1 : Array CpInfo := pool [(2, .class_ 4), (1, u "java/lang/Object"), (0, u "<init>"), (0, u "()V"), (0, .integer 2147483647), (0, .methodref 9 10), (0, .class_ 11), (0, .nameAndType 12 13), (0, u "gallai/service/GraphicalitySlacksPinLaw"), (0, u "degree"), (0, u "(III)I"), (0, .methodref 9 15), (0, .nameAndType 16 17), (0, u "order"), (0, u "([III)V"), (0, .methodref 19 20), (0, .class_ 21), (0, .nameAndType 22 23), (0, u "java/lang/Math"), (0, u "min"), (0, u "(II)I"), (0, .methodref 25 26), (0, .class_ 27), (0, .nameAndType 28 29), (0, u "gallai/service/Graphicality"), (0, u "slacks"), (0, u "([II[J)I"), (0, .methodref 9 31), (0, .nameAndType 32 33), (0, u "ref"), (0, u "([II)J"), (0, .methodref 9 35), (0, .nameAndType 36 37), (0, u "term"), (0, u "([III)J"), (2, u "law"), (0, u "(IIIIII)Z")] 7

def k1m0 : Method := { name := "<init>", desc := "()V", sig := { parameters := [], returnType := none }, accessFlags := 2, code := none }
def k1c1 : Code := { maxStack := 5, maxLocals := 14, code := code, exceptionTable := #[], attributes := #[] }
def k1m1 : Method := { name := "law", desc := "(IIIIII)Z", sig := { parameters := [.int, .int, .int, .int, .int, .int], returnType := some .boolean }, accessFlags := 9, code := some k1c1 }
def k1c2 : Code := { maxStack := 2, maxLocals := 3, code := method_3_code, exceptionTable := #[], attributes := #[] }
def k1m2 : Method := { name := "degree", desc := "(III)I", sig := { parameters := [.int, .int, .int], returnType := some .int }, accessFlags := 10, code := some k1c2 }
def k1c3 : Code := { maxStack := 4, maxLocals := 4, code := method_4_code, exceptionTable := #[], attributes := #[] }
def k1m3 : Method := { name := "order", desc := "([III)V", sig := { parameters := [(.array .int), .int, .int], returnType := none }, accessFlags := 10, code := some k1c3 }
def k1c4 : Code := { maxStack := 2, maxLocals := 4, code := method_5_code, exceptionTable := #[], attributes := #[] }
def k1m4 : Method := { name := "term", desc := "([III)J", sig := { parameters := [(.array .int), .int, .int], returnType := some .long }, accessFlags := 10, code := some k1c4 }
def k1c5 : Code := { maxStack := 5, maxLocals := 2, code := method_6_code, exceptionTable := #[], attributes := #[] }
def k1m5 : Method := { name := "ref", desc := "([II)J", sig := { parameters := [(.array .int), .int], returnType := some .long }, accessFlags := 10, code := some k1c5 }
/-- gallai/service/GraphicalitySlacksPinLaw -/
def k1 : Class := { plain "gallai/service/GraphicalitySlacksPinLaw" (some 0) with
  accessFlags := 49
  interfaces := #[]
  cf := some (fileOf pool1 9 #[] #[{ accessFlags := 2, nameIndex := 5, descriptorIndex := 6, attributes := #[] }, { accessFlags := 9, nameIndex := 40, descriptorIndex := 41, attributes := #[] }, { accessFlags := 10, nameIndex := 12, descriptorIndex := 13, attributes := #[] }, { accessFlags := 10, nameIndex := 16, descriptorIndex := 17, attributes := #[] }, { accessFlags := 10, nameIndex := 36, descriptorIndex := 37, attributes := #[] }, { accessFlags := 10, nameIndex := 32, descriptorIndex := 33, attributes := #[] }] 49 2 #[] #[])
  fields := #[]
  methods := #[k1m0, k1m1, k1m2, k1m3, k1m4, k1m5]
  instanceTypes := #[]
  staticTypes := #[]
  resolved := Array.replicate 49 none
  statics := none }

def pool2 : Array CpInfo := pool [(1, .class_ 2), (0, u "java/lang/Math"), (1, .class_ 6), (1, u "java/lang/Object"), (0, u "<init>"), (0, u "()V"), (89, .class_ 100), (1, u "java/lang/Math$RandomNumberGeneratorHolder"), (71, u "negativeZeroFloatBits"), (0, u "J"), (2, u "negativeZeroDoubleBits"), (24, u "min"), (43, u "$assertionsDisabled"), (0, u "Z"), (88, u "(II)I"), (2, u "twoToTheDoubleScaleDown"), (0, u "D"), (4, u "twoToTheDoubleScaleUp"), (9, u "E"), (3, u "PI"), (2, u "TAU"), (2, u "DEGREES_TO_RADIANS"), (0, u "RADIANS_TO_DEGREES")] 94

def k2m0 : Method := { name := "<init>", desc := "()V", sig := { parameters := [], returnType := none }, accessFlags := 2, code := none }
def k2c1 : Code := { maxStack := 2, maxLocals := 2, code := jdk_29_method_69_code, exceptionTable := #[], attributes := #[] }
def k2m1 : Method := { name := "min", desc := "(II)I", sig := { parameters := [.int, .int], returnType := some .int }, accessFlags := 9, code := some k2c1 }
/-- java/lang/Math -/
def k2 : Class := { plain "java/lang/Math" (some 0) with
  accessFlags := 49
  interfaces := #[]
  cf := some (fileOf pool2 1 #[.nestMembers #[98]] #[{ accessFlags := 2, nameIndex := 7, descriptorIndex := 8, attributes := #[] }, { accessFlags := 9, nameIndex := 201, descriptorIndex := 335, attributes := #[] }] 49 4 #[] #[{ accessFlags := 25, nameIndex := 354, descriptorIndex := 339, attributes := #[] }, { accessFlags := 25, nameIndex := 358, descriptorIndex := 339, attributes := #[] }, { accessFlags := 25, nameIndex := 361, descriptorIndex := 339, attributes := #[] }, { accessFlags := 26, nameIndex := 364, descriptorIndex := 339, attributes := #[] }, { accessFlags := 26, nameIndex := 365, descriptorIndex := 339, attributes := #[] }, { accessFlags := 26, nameIndex := 172, descriptorIndex := 173, attributes := #[] }, { accessFlags := 26, nameIndex := 176, descriptorIndex := 173, attributes := #[] }, { accessFlags := 8, nameIndex := 344, descriptorIndex := 339, attributes := #[] }, { accessFlags := 8, nameIndex := 338, descriptorIndex := 339, attributes := #[] }, { accessFlags := 4120, nameIndex := 245, descriptorIndex := 246, attributes := #[] }])
  fields := #[{ name := "E", type := .double, accessFlags := 25, slot := 0, constantValue := 0 }, { name := "PI", type := .double, accessFlags := 25, slot := 1, constantValue := 0 }, { name := "TAU", type := .double, accessFlags := 25, slot := 2, constantValue := 0 }, { name := "DEGREES_TO_RADIANS", type := .double, accessFlags := 26, slot := 3, constantValue := 0 }, { name := "RADIANS_TO_DEGREES", type := .double, accessFlags := 26, slot := 4, constantValue := 0 }, { name := "negativeZeroFloatBits", type := .long, accessFlags := 26, slot := 5, constantValue := 0 }, { name := "negativeZeroDoubleBits", type := .long, accessFlags := 26, slot := 6, constantValue := 0 }, { name := "twoToTheDoubleScaleUp", type := .double, accessFlags := 8, slot := 7, constantValue := 0 }, { name := "twoToTheDoubleScaleDown", type := .double, accessFlags := 8, slot := 8, constantValue := 0 }, { name := "$assertionsDisabled", type := .boolean, accessFlags := 4120, slot := 9, constantValue := 0 }]
  methods := #[k2m0, k2m1]
  instanceTypes := #[]
  staticTypes := #[.double, .double, .double, .double, .double, .long, .long, .double, .double, .boolean]
  resolved := Array.replicate 460 none
  statics := none }

def pool3 : Array CpInfo := pool [(2, .class_ 4), (1, u "java/lang/Object"), (0, u "<init>"), (0, u "()V"), (8, .class_ 16), (0, u "gallai/service/Graphicality$OddDegreeSum"), (11, .class_ 29), (0, u "gallai/service/Graphicality$ErdosGallaiFails"), (10, .class_ 42), (1, u "gallai/service/Graphicality"), (3, u "slacks"), (0, u "([II[J)I"), (0, .class_ 49), (0, u "gallai/service/Graphicality$Graphical"), (6, .class_ 58), (1, u "gallai/service/Graphicality$Verdict")] 60

def k3m0 : Method := { name := "<init>", desc := "()V", sig := { parameters := [], returnType := none }, accessFlags := 2, code := none }
def k3c1 : Code := { maxStack := 7, maxLocals := 14, code := prog_35_method_5_code, exceptionTable := #[], attributes := #[] }
def k3m1 : Method := { name := "slacks", desc := "([II[J)I", sig := { parameters := [(.array .int), .int, (.array .long)], returnType := some .int }, accessFlags := 8, code := some k3c1 }
/-- gallai/service/Graphicality -/
def k3 : Class := { plain "gallai/service/Graphicality" (some 0) with
  accessFlags := 49
  interfaces := #[]
  cf := some (fileOf pool3 40 #[.nestMembers #[28, 15, 48, 56]] #[{ accessFlags := 2, nameIndex := 5, descriptorIndex := 6, attributes := #[] }, { accessFlags := 8, nameIndex := 46, descriptorIndex := 47, attributes := #[] }] 49 2 #[] #[])
  fields := #[]
  methods := #[k3m0, k3m1]
  instanceTypes := #[]
  staticTypes := #[]
  resolved := Array.replicate 119 none
  statics := none }

def pool4 : Array CpInfo := pool [(1, u "java/lang/Cloneable"), (0, .class_ 1), (0, u "java/lang/Object"), (0, .class_ 3)] 3

/-- java/lang/Cloneable -/
def k4 : Class := { plain "java/lang/Cloneable" (some 0) with
  accessFlags := 1537
  interfaces := #[]
  cf := some (fileOf pool4 2 #[] #[] 1537 4 #[] #[])
  fields := #[]
  methods := #[]
  instanceTypes := #[]
  staticTypes := #[]
  resolved := Array.replicate 8 none
  statics := none }

def pool5 : Array CpInfo := pool [(1, u "java/io/Serializable"), (0, .class_ 1), (0, u "java/lang/Object"), (0, .class_ 3)] 3

/-- java/io/Serializable -/
def k5 : Class := { plain "java/io/Serializable" (some 0) with
  accessFlags := 1537
  interfaces := #[]
  cf := some (fileOf pool5 2 #[] #[] 1537 4 #[] #[])
  fields := #[]
  methods := #[]
  instanceTypes := #[]
  staticTypes := #[]
  resolved := Array.replicate 8 none
  statics := none }

/-- the primitive byte -/
def k6 : Class := { plain "byte" none with kind := .primitive 'B', accessFlags := 0x411 }
/-- [B -/
def k7 : Class := { plain "[B" (some 0) with kind := .array 6 .byte, interfaces := #[4, 5], accessFlags := 1041 }

/-- the primitive int -/
def k8 : Class := { plain "int" none with kind := .primitive 'I', accessFlags := 0x411 }
/-- [I -/
def k9 : Class := { plain "[I" (some 0) with kind := .array 8 .int, interfaces := #[4, 5], accessFlags := 1041 }

/-- the primitive long -/
def k10 : Class := { plain "long" none with kind := .primitive 'J', accessFlags := 0x411 }
/-- [J -/
def k11 : Class := { plain "[J" (some 0) with kind := .array 10 .long, interfaces := #[4, 5], accessFlags := 1041 }

def heap : Heap := #[]
def classes : Array Class := #[k0, k1, k2, k3, k4, k5, k6, k7, k8, k9, k10, k11]
def interned : List (Array UInt16 × Addr) := []
def slotsUsed : Nat := 0
def theMethod : MethodId := ⟨1, 1⟩
def args0 : Array Value := #[.int 5, .int 5, .int 5, .int 5, .int 5, .int 5]
def aboutOver (below : List Frame) : State where
  vm := { classes := classes, interned := interned.toArray }
  heap := heap
  slotsUsed := slotsUsed
  threads := #[{ frames := .invoking theMethod args0 :: below }]
def below0 : List Frame := [.native { method := ⟨0, 0⟩, args := #[] }]
def about1 : State := aboutOver below0
def p0 : Program := .bare "" "" ""
def e0 : Env := launch0.env 0 0 0
theorem w_frames : about1.frames = Frame.invoking theMethod args0 :: below0 := rfl
set_option maxRecDepth 65536 in
theorem w_args : argsFit about1.vm theMethod args0 = true := by decide +kernel
set_option maxRecDepth 65536 in
theorem w_heap : heapFits about1 = true := by decide +kernel
set_option maxRecDepth 65536 in
theorem w_runnable : about1.curStatus? = some .runnable := by decide +kernel
set_option maxRecDepth 65536 in
theorem w_alone : about1.alone = true := by decide +kernel
set_option maxRecDepth 65536 in
theorem w_named : about1.methodNamed? x = some theMethod := by decide +kernel
set_option maxRecDepth 65536 in
theorem w_hears : about1.hears theMethod below0 = true := by decide +kernel
set_option maxRecDepth 65536 in
theorem w_ripe : about1.ripe theMethod args0 below0 = true := by decide +kernel
theorem w_running : about1.status = .running := rfl
set_option maxRecDepth 65536 in
theorem w_room : about1.hasRoom e0.platform room_1 = true :=
  launch0.hasRoom_least _ room_1 (by decide +kernel) (by decide +kernel) (by decide +kernel) (by decide +kernel) (by decide +kernel) (by decide +kernel)
theorem allAtoms_all (ts : List Jvm.Cond) (a : Array Jvm.Value) (st : Jvm.State) : (allAtoms ts).before a st = ts.all (fun c => c.before a st) := by
  induction ts with
  | nil => rfl
  | cons c t ih =>
    show (Jvm.Cond.and c (allAtoms t)).before a st = _
    rw [Jvm.Cond.before_and, ih, List.all_cons]
def words1 : List Jvm.Cond := Jvm.Cond.code x code maxLocals ret :: tables_1
/-- a 'code' word, met by the world's own term for the bytes: nothing is compared byte by byte -/
theorem code_word {y : MethodName} {bytes : ByteArray} {mx : Nat} {rt : Option FieldType} {a : Array Value} {s : State} {m : MethodId} {meth : Method} {c : Code} (h1 : s.methodNamed? y = some m) (h2 : s.vm.method? m = some meth) (h3 : meth.code = some c) (h4 : c.code = bytes)
    (h5 : (c.maxLocals == mx && c.exceptionTable.isEmpty && decide (c.maxStack ≤ mostOperands) && decide (meth.sig.returnType = rt) && !meth.locks && decide (parseMethodDescriptor y.desc = some meth.sig)) = true) : (Jvm.Cond.code y bytes mx rt).before a s = true := by
  simp only [Bool.and_eq_true, beq_iff_eq, Bool.not_eq_true', decide_eq_true_eq] at h5
  obtain ⟨⟨⟨⟨⟨g1, g2⟩, g3⟩, g4⟩, g5⟩, g6⟩ := h5
  simp [Cond.before, Cond.holds, Cond.value, h1, h2, h3, h4, g1, g2, g3, g4, g5, g6]
def isCode : Jvm.Cond → Bool
  | .code _ _ _ _ => true
  | _ => false
theorem all_split {L : List Jvm.Cond} {P : Jvm.Cond → Bool} (h1 : L.all (fun c => isCode c || P c) = true) (h2 : ∀ c ∈ L.filter isCode, P c = true) : L.all P = true := by
  refine List.all_eq_true.mpr fun c hc => ?_
  have h := List.all_eq_true.mp h1 c hc
  rcases Bool.eq_false_or_eq_true (isCode c) with hi | hi
  · exact h2 c (List.mem_filter.mpr ⟨hc, hi⟩)
  · simpa [hi] using h
set_option maxRecDepth 65536 in
theorem w_c0 : (Jvm.Cond.code x code maxLocals ret).before args0 about1 = true := code_word (m := ⟨1, 1⟩) (meth := k1m1) (c := k1c1) (by decide +kernel) rfl rfl rfl (by decide +kernel)
set_option maxRecDepth 65536 in
theorem w_c1 : (Jvm.Cond.code ({ cls := "gallai/service/GraphicalitySlacksPinLaw", name := "degree", desc := "(III)I" } : Jvm.MethodName) method_3_code (3 : Nat) (Option.some Jvm.ClassFile.FieldType.int)).before args0 about1 = true := code_word (m := ⟨1, 2⟩) (meth := k1m2) (c := k1c2) (by decide +kernel) rfl rfl rfl (by decide +kernel)
set_option maxRecDepth 65536 in
theorem w_c2 : (Jvm.Cond.code ({ cls := "gallai/service/GraphicalitySlacksPinLaw", name := "order", desc := "([III)V" } : Jvm.MethodName) method_4_code (4 : Nat) (Option.none : Option Jvm.ClassFile.FieldType)).before args0 about1 = true := code_word (m := ⟨1, 3⟩) (meth := k1m3) (c := k1c3) (by decide +kernel) rfl rfl rfl (by decide +kernel)
set_option maxRecDepth 65536 in
theorem w_c3 : (Jvm.Cond.code ({ cls := "java/lang/Math", name := "min", desc := "(II)I" } : Jvm.MethodName) jdk_29_method_69_code (2 : Nat) (Option.some Jvm.ClassFile.FieldType.int)).before args0 about1 = true := code_word (m := ⟨2, 1⟩) (meth := k2m1) (c := k2c1) (by decide +kernel) rfl rfl rfl (by decide +kernel)
set_option maxRecDepth 65536 in
theorem w_c4 : (Jvm.Cond.code ({ cls := "gallai/service/Graphicality", name := "slacks", desc := "([II[J)I" } : Jvm.MethodName) prog_35_method_5_code (14 : Nat) (Option.some Jvm.ClassFile.FieldType.int)).before args0 about1 = true := code_word (m := ⟨3, 1⟩) (meth := k3m1) (c := k3c1) (by decide +kernel) rfl rfl rfl (by decide +kernel)
set_option maxRecDepth 65536 in
theorem w_c5 : (Jvm.Cond.code ({ cls := "gallai/service/GraphicalitySlacksPinLaw", name := "ref", desc := "([II)J" } : Jvm.MethodName) method_6_code (2 : Nat) (Option.some Jvm.ClassFile.FieldType.long)).before args0 about1 = true := code_word (m := ⟨1, 5⟩) (meth := k1m5) (c := k1c5) (by decide +kernel) rfl rfl rfl (by decide +kernel)
set_option maxRecDepth 65536 in
theorem w_c6 : (Jvm.Cond.code ({ cls := "gallai/service/GraphicalitySlacksPinLaw", name := "term", desc := "([III)J" } : Jvm.MethodName) method_5_code (4 : Nat) (Option.some Jvm.ClassFile.FieldType.long)).before args0 about1 = true := code_word (m := ⟨1, 4⟩) (meth := k1m4) (c := k1c4) (by decide +kernel) rfl rfl rfl (by decide +kernel)
def codes1 : List Jvm.Cond := [Jvm.Cond.code x code maxLocals ret, Jvm.Cond.code ({ cls := "gallai/service/GraphicalitySlacksPinLaw", name := "degree", desc := "(III)I" } : Jvm.MethodName) method_3_code (3 : Nat) (Option.some Jvm.ClassFile.FieldType.int), Jvm.Cond.code ({ cls := "gallai/service/GraphicalitySlacksPinLaw", name := "order", desc := "([III)V" } : Jvm.MethodName) method_4_code (4 : Nat) (Option.none : Option Jvm.ClassFile.FieldType), Jvm.Cond.code ({ cls := "java/lang/Math", name := "min", desc := "(II)I" } : Jvm.MethodName) jdk_29_method_69_code (2 : Nat) (Option.some Jvm.ClassFile.FieldType.int), Jvm.Cond.code ({ cls := "gallai/service/Graphicality", name := "slacks", desc := "([II[J)I" } : Jvm.MethodName) prog_35_method_5_code (14 : Nat) (Option.some Jvm.ClassFile.FieldType.int), Jvm.Cond.code ({ cls := "gallai/service/GraphicalitySlacksPinLaw", name := "ref", desc := "([II)J" } : Jvm.MethodName) method_6_code (2 : Nat) (Option.some Jvm.ClassFile.FieldType.long), Jvm.Cond.code ({ cls := "gallai/service/GraphicalitySlacksPinLaw", name := "term", desc := "([III)J" } : Jvm.MethodName) method_5_code (4 : Nat) (Option.some Jvm.ClassFile.FieldType.long)]
set_option maxRecDepth 65536 in
theorem codes_eq : words1.filter isCode = codes1 := rfl
theorem w_codes : ∀ c ∈ words1.filter isCode, c.before args0 about1 = true := by
  rw [codes_eq]
  intro c hc
  simp only [codes1, List.mem_cons, List.not_mem_nil, or_false] at hc
  rcases hc with rfl | rfl | rfl | rfl | rfl | rfl | rfl
  · exact w_c0
  · exact w_c1
  · exact w_c2
  · exact w_c3
  · exact w_c4
  · exact w_c5
  · exact w_c6
set_option maxRecDepth 65536 in
theorem w_t1 : (words1.take 24).all (fun c => isCode c || c.before args0 about1) = true := by decide +kernel
set_option maxRecDepth 65536 in
theorem w_t2 : (words1.drop 24).all (fun c => isCode c || c.before args0 about1) = true := by decide +kernel
theorem w_tables : (allAtoms (Jvm.Cond.code x code maxLocals ret :: tables_1)).before args0 about1 = true := by
  rw [allAtoms_all]
  show words1.all (fun c => c.before args0 about1) = true
  refine all_split ?_ w_codes
  rw [← List.take_append_drop 24 words1, List.all_append, w_t1, w_t2]
  rfl
set_option maxRecDepth 65536 in
theorem w_case : (Jvm.Cond.and given_1 narrow_1).before args0 about1 = true := by decide +kernel
theorem w_applies : (headSpec (Jvm.Cond.code x code maxLocals ret :: tables_1) room_1).applies x e0.platform about1 = true :=
  (Spec.applies_iff w_frames).mpr ⟨w_running, w_runnable, w_alone, w_named, w_hears, w_ripe, w_room, w_tables⟩
theorem atStart : AtStart classFile x code maxLocals ret World_1 tables_1 room_1 Calls_1 rest_1 Pre_1 launch0 p0 e0 about1 theMethod args0 below0 :=
  ⟨lists_1, trivial, launch0.admits_env _ _ _, launch0.least_env, fairChoices_fair.cas, fairChoices_fair.clock, w_frames, w_args, w_heap, w_applies, trivial, trivial, w_case⟩
end start1
theorem witness_1 : WitnessClaimed_1 := ⟨start1.p0, start1.e0, start1.about1, start1.theMethod, start1.args0, start1.below0, start1.atStart⟩
end Jvm.Pilot.@@N@@
